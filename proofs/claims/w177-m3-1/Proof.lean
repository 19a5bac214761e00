import JvmDerived
import JvmDerived.Pilot.@@N@@Statement
import JvmDerived.Pilot.@@N@@Code
set_option linter.unusedVariables false
set_option linter.unusedSimpArgs false
@@BLOCK:NumsL.lean.txt@@
/- laws to paste: Road.backV, Road.chN, Road.codOf (cut by pick.py; bodies as the Statement names them) -/
namespace Jvm.Pilot.@@N@@
namespace StrChars
open Jvm Sem ClassFile Op Lib Jvm.Stand Jvm.Free.XT Jvm.Free.ALB Jvm.Free.JM Jvm.Free
open Jvm.Lib.Cold (StaticIs)
/-- a char array whose places are chars -/
def Ch (a : Addr) (A : Cell) (U : State) : Prop := Arr .char a A U ∧ Typed .char A
theorem Ch.mv {a : Addr} {A : Cell} {U U' : State} (h : Ch a A U) (hal : U.vm.Alike U'.vm) (hh : U'.heap = U.heap) : Ch a A U' := ⟨h.1.mv hal hh, h.2⟩
theorem Ch.keep {a : Addr} {A : Cell} {U U' : State} (h : Ch a A U) (hal : U.vm.Alike U'.vm) (hk : U'.heap[a]? = some A) : Ch a A U' := ⟨h.1.keep hal hk, h.2⟩
/-- what place i of a char[]'s cell holds -/
def cv (A : Cell) (i : Nat) : Int32 := match A.slots[i]? with | some (.int x) => x | _ => 0
theorem Ch.get {a : Addr} {A : Cell} {U : State} (h : Ch a A U) {i : Nat} (hi : i < A.slots.size) : A.slots[i]? = some (.int (cv A i)) := by
  have e := Array.getElem?_eq_getElem hi
  have f := h.2 i _ e
  unfold cv; rw [e]
  generalize A.slots[i] = v at f
  cases v <;> simp [fits] at f ⊢
/-- the byte that i2b leaves of a char -/
def lo8 (x : Int32) : Int32 := x.toInt8.toInt32
theorem fits_lo8 (y : Int32) : fits .byte (.int (lo8 y)) = true := by
  have h1 := y.toInt8.le_toInt
  have h2 := y.toInt8.toInt_lt
  simp only [lo8, fits, Bool.and_eq_true, decide_eq_true_eq, Int32.le_iff_toInt_le, Int8.toInt_toInt32, show (-128 : Int32).toInt = -128 from by decide, show (127 : Int32).toInt = 127 from by decide]
  omega
/-- A' is A but that each place j of lo .. hi - 1 holds f j -/
def Laid (A A' : Cell) (lo hi : Nat) (f : Nat → Value) : Prop := A'.cls = A.cls ∧ A'.vm = A.vm ∧ A'.slots.size = A.slots.size ∧ ∀ i, A'.slots[i]? = if lo ≤ i ∧ i < hi then some (f i) else A.slots[i]?
theorem Laid.zero (A : Cell) (lo : Nat) (f : Nat → Value) : Laid A A lo (lo + 0) f := ⟨rfl, rfl, rfl, fun i => by rw [if_neg (by omega)]⟩
theorem Laid.step {A Ak : Cell} {lo k : Nat} {f : Nat → Value} {v : Value} (h : Laid A Ak lo k f) (hlo : lo ≤ k) (hk : k < Ak.slots.size) (hv : v = f k) : Laid A (Ak.setSlot k v) lo (k + 1) f := by
  refine ⟨h.1, h.2.1, by simpa [Cell.setSlot] using h.2.2.1, fun i => ?_⟩
  by_cases e : k = i
  · subst e; rw [Cell.slots_setSlot_self v hk, if_pos (by omega), hv]
  · rw [Cell.slots_setSlot_ne v e, h.2.2.2 i]
    by_cases q : lo ≤ i ∧ i < k
    · rw [if_pos q, if_pos (by omega)]
    · rw [if_neg q, if_neg (by omega)]
def U16 : String := "java/lang/StringUTF16"
namespace Cmp5
def yN : MethodName := ⟨"java/lang/StringUTF16", "compress", "([CI[BII)I"⟩
abbrev yB : ByteArray := jdk_52_method_21_code
theorem d0 : decode yB 0 = .ok (.iconst 0, 1) := by decide +kernel
theorem d1 : decode yB 1 = .ok (.istore 5, 2) := by decide +kernel
theorem d3 : decode yB 3 = .ok (.iload 5, 2) := by decide +kernel
theorem d5 : decode yB 5 = .ok (.iload 4, 2) := by decide +kernel
theorem d7 : decode yB 7 = .ok (.if_icmp (.ge) 37, 3) := by decide +kernel
theorem d10 : decode yB 10 = .ok (.aload_n 0, 1) := by decide +kernel
theorem d11 : decode yB 11 = .ok (.iload_n 1, 1) := by decide +kernel
theorem d12 : decode yB 12 = .ok (.caload, 1) := by decide +kernel
theorem d13 : decode yB 13 = .ok (.istore 6, 2) := by decide +kernel
theorem d15 : decode yB 15 = .ok (.iload 6, 2) := by decide +kernel
theorem d17 : decode yB 17 = .ok (.sipush 255, 3) := by decide +kernel
theorem d20 : decode yB 20 = .ok (.if_icmp (.le) 6, 3) := by decide +kernel
theorem d26 : decode yB 26 = .ok (.aload_n 2, 1) := by decide +kernel
theorem d27 : decode yB 27 = .ok (.iload_n 3, 1) := by decide +kernel
theorem d28 : decode yB 28 = .ok (.iload 6, 2) := by decide +kernel
theorem d30 : decode yB 30 = .ok (.i2b, 1) := by decide +kernel
theorem d31 : decode yB 31 = .ok (.bastore, 1) := by decide +kernel
theorem d32 : decode yB 32 = .ok (.iinc 1 1, 3) := by decide +kernel
theorem d35 : decode yB 35 = .ok (.iinc 3 1, 3) := by decide +kernel
theorem d38 : decode yB 38 = .ok (.iinc 5 1, 3) := by decide +kernel
theorem d41 : decode yB 41 = .ok (.goto (-38), 3) := by decide +kernel
theorem d44 : decode yB 44 = .ok (.iload 4, 2) := by decide +kernel
theorem d46 : decode yB 46 = .ok (.ireturn, 1) := by decide +kernel
def site : List Cond := []
def tab : Cond := tabOf yN yB 7 (some .int) site
def P (b : Addr) (A : Cell) (d : Addr) (B : Cell) (o q len : Nat) (args : Array Value) (s : State) : Prop := args = #[.ref b, .int (Int32.ofNat o), .ref d, .int (Int32.ofNat q), .int (Int32.ofNat len)] ∧ Ch b A s ∧ Arr .byte d B s ∧ b ≠ d ∧ o + len ≤ A.slots.size ∧ q + len ≤ B.slots.size ∧ ∀ i, i < len → ¬ 255 < cv A (o + i)
def E (b : Addr) (A : Cell) (d : Addr) (B : Cell) (o q len : Nat) (r : Option Value) (s u : State) : Prop := r = some (.int (Int32.ofNat len)) ∧ ∃ B', Put d B' s u ∧ Laid B B' q (q + len) (fun j => Value.int (lo8 (cv A (o + (j - q)))))
/-- no char of the range above 255: len; the places written hold each char's low byte -/
theorem law (l : Launch) (b : Addr) (A : Cell) (d : Addr) (B : Cell) (o q len : Nat) : Law l yN 5 5 0 0 yB 7 (some .int) site (P b A d B o q len) (E b A d B o q len) (copyLocs d q len) 0 0 := by
  refine Law.of_walk (plainFor_of_name (by decide +kernel)) (by decide +kernel) (by decide +kernel) (by decide) (fun _ _ h => by rw [h.1]; rfl) (fun _ U U' hal hh h => ⟨h.1, h.2.1.mv hal hh, h.2.2.1.mv hal hh, h.2.2.2⟩) (fun r U U' V V' h1 hal h2 h => ⟨h.1, h.2.elim fun B' q => ⟨B', q.1.mv h1 h2, q.2⟩⟩) ?_
  intro p e s m args below meth c s₁ X0 hexec hbytes hml hret hlk hnm hown hh0 W hP
  obtain ⟨rfl, hA, hB, hne, l1, l2, hp⟩ := hP
  have c1 : Steps p.tables e below (s₁.setTop (entryFrame m #[.ref b, .int (Int32.ofNat o), .ref d, .int (Int32.ofNat q), .int (Int32.ofNat len)] 7)) (s₁.setTop (mkF m 0 #[.val (.ref b), .val (.int (Int32.ofNat o)), .val (.ref d), .val (.int (Int32.ofNat q)), .val (.int (Int32.ofNat len)), .unset, .unset] [])) := entry rfl
  have hA0 := hA.1.mv X0.warmed.alike hh0
  have hB0 := hB.mv X0.warmed.alike hh0
  have a31 := hA.1.2.2.2
  have c2 : Steps p.tables e below (s₁.setTop (entryFrame m #[.ref b, .int (Int32.ofNat o), .ref d, .int (Int32.ofNat q), .int (Int32.ofNat len)] 7)) (s₁.setTop (mkF m 3 #[.val (.ref b), .val (.int (Int32.ofNat o)), .val (.ref d), .val (.int (Int32.ofNat q)), .val (.int (Int32.ofNat len)), .val (.int 0), .unset] [])) := c1.trans (by
    refine iconstV X0.here hexec rfl 0 (hb hbytes d0) (by decide) ?_
    refine XS.istore X0.here hexec rfl (hb hbytes d1) rfl rfl ?_
    exact Steps.refl _)
  have loop : ∀ (r i : Nat), i + r = len → ∀ (z : Slot), (z = .unset ∨ ∃ w, z = .val w ∧ w.category = 1) → ∀ (Tl : State) (Bk : Cell), Stand p l e { frames := 0, locals := 0, cells := 0, slots := 0 } s m #[.ref b, .int (Int32.ofNat o), .ref d, .int (Int32.ofNat q), .int (Int32.ofNat len)] below meth c Tl ([] ++ copyLocs d q i) 0 0 → Put d Bk s₁ Tl → Laid B Bk q (q + i) (fun j => Value.int (lo8 (cv A (o + (j - q))))) →
      Steps p.tables e below (s₁.setTop (entryFrame m #[.ref b, .int (Int32.ofNat o), .ref d, .int (Int32.ofNat q), .int (Int32.ofNat len)] 7)) (Tl.setTop (mkF m 3 #[.val (.ref b), .val (.int (Int32.ofNat (o + i))), .val (.ref d), .val (.int (Int32.ofNat (q + i))), .val (.int (Int32.ofNat len)), .val (.int (Int32.ofNat i)), z] [])) → ∃ (T' : State) (B' : Cell) (z' : Slot), Stand p l e { frames := 0, locals := 0, cells := 0, slots := 0 } s m #[.ref b, .int (Int32.ofNat o), .ref d, .int (Int32.ofNat q), .int (Int32.ofNat len)] below meth c T' ([] ++ copyLocs d q len) 0 0 ∧ Put d B' s₁ T' ∧ Laid B B' q (q + len) (fun j => Value.int (lo8 (cv A (o + (j - q))))) ∧
      Steps p.tables e below (s₁.setTop (entryFrame m #[.ref b, .int (Int32.ofNat o), .ref d, .int (Int32.ofNat q), .int (Int32.ofNat len)] 7)) (T'.setTop (mkF m 3 #[.val (.ref b), .val (.int (Int32.ofNat (o + len))), .val (.ref d), .val (.int (Int32.ofNat (q + len))), .val (.int (Int32.ofNat len)), .val (.int (Int32.ofNat len)), z'] [])) := by
    intro r
    induction r with
    | zero =>
      intro i hi z hz Tl Bk Xl pl fl cl
      have hil : i = len := by omega
      rw [hil] at Xl fl cl
      exact ⟨Tl, Bk, z, Xl, pl, fl, cl⟩
    | succ r ih =>
      intro i hi z hz Tl Bk Xl pl fl cl
      have all := X0.warmed.alike.symm.trans Xl.warmed.alike
      have hAl := hA0.keep all (pl.other hne hA0.1)
      have hBk := hB0.like all pl.1 fl.1 fl.2.1 fl.2.2.1
      have hlt : q + i < Bk.slots.size := by rw [fl.2.2.1]; omega
      have c3 : Steps p.tables e below (s₁.setTop (entryFrame m #[.ref b, .int (Int32.ofNat o), .ref d, .int (Int32.ofNat q), .int (Int32.ofNat len)] 7)) (Tl.setTop (mkF m 12 #[.val (.ref b), .val (.int (Int32.ofNat (o + i))), .val (.ref d), .val (.int (Int32.ofNat (q + i))), .val (.int (Int32.ofNat len)), .val (.int (Int32.ofNat i)), z] [.int (Int32.ofNat (o + i)), .ref b])) := cl.trans (by
        refine XS.iload Xl.here hexec rfl (hb hbytes d3) rfl ?_
        refine XS.iload Xl.here hexec rfl (hb hbytes d5) rfl ?_
        refine XS.icmpNo Xl.here hexec rfl (hb hbytes d7) rfl (ii_ge_f (lt32 (by omega) (by omega))) ?_
        refine XS.aloadN Xl.here hexec rfl (hb hbytes d10) rfl rfl ?_
        refine XS.iloadN Xl.here hexec rfl (hb hbytes d11) rfl ?_
        exact Steps.refl _)
      have c4 : Steps p.tables e below (s₁.setTop (entryFrame m #[.ref b, .int (Int32.ofNat o), .ref d, .int (Int32.ofNat q), .int (Int32.ofNat len)] 7)) (Tl.setTop (mkF m 13 #[.val (.ref b), .val (.int (Int32.ofNat (o + i))), .val (.ref d), .val (.int (Int32.ofNat (q + i))), .val (.int (Int32.ofNat len)), .val (.int (Int32.ofNat i)), z] [.int (cv A (o + i))])) := c3.trans (by
        refine Xl.aget hexec hAl rfl (hA.get (i := o + i) (by omega)) rfl rfl (hb hbytes d12) ?_
        exact Steps.refl _)
      have c5 : Steps p.tables e below (s₁.setTop (entryFrame m #[.ref b, .int (Int32.ofNat o), .ref d, .int (Int32.ofNat q), .int (Int32.ofNat len)] 7)) (Tl.setTop (mkF m 15 #[.val (.ref b), .val (.int (Int32.ofNat (o + i))), .val (.ref d), .val (.int (Int32.ofNat (q + i))), .val (.int (Int32.ofNat len)), .val (.int (Int32.ofNat i)), .val (.int (cv A (o + i)))] [])) := c4.trans (by
        refine XS.istoreS Xl.here hexec rfl (hb hbytes d13) rfl rfl hz ?_
        exact Steps.refl _)
      have c6 : Steps p.tables e below (s₁.setTop (entryFrame m #[.ref b, .int (Int32.ofNat o), .ref d, .int (Int32.ofNat q), .int (Int32.ofNat len)] 7)) (Tl.setTop (mkF m 31 #[.val (.ref b), .val (.int (Int32.ofNat (o + i))), .val (.ref d), .val (.int (Int32.ofNat (q + i))), .val (.int (Int32.ofNat len)), .val (.int (Int32.ofNat i)), .val (.int (cv A (o + i)))] [.int (lo8 (cv A (o + i))), .int (Int32.ofNat (q + i)), .ref d])) := c5.trans (by
        refine XS.iload Xl.here hexec rfl (hb hbytes d15) rfl ?_
        refine sipushV Xl.here hexec rfl 255 (hb hbytes d17) (by decide) ?_
        refine XS.icmpYes Xl.here hexec rfl (pc0 := 20) rfl (hb hbytes d20) rfl (ii_le_t (hp i (by omega))) (by decide) rfl ?_
        refine XS.aloadN Xl.here hexec rfl (hb hbytes d26) rfl rfl ?_
        refine XS.iloadN Xl.here hexec rfl (hb hbytes d27) rfl ?_
        refine XS.iload Xl.here hexec rfl (hb hbytes d28) rfl ?_
        refine i2b Xl.here hexec rfl (hb hbytes d30) rfl ?_
        exact Steps.refl _)
      obtain ⟨T7, X7, p7, st7⟩ := Xl.aput hexec hBk rfl hlt rfl (fits_lo8 (cv A (o + i))) (g := (mkF m 31 #[.val (.ref b), .val (.int (Int32.ofNat (o + i))), .val (.ref d), .val (.int (Int32.ofNat (q + i))), .val (.int (Int32.ofNat len)), .val (.int (Int32.ofNat i)), .val (.int (cv A (o + i)))] [.int (lo8 (cv A (o + i))), .int (Int32.ofNat (q + i)), .ref d])) rfl (rest := []) rfl (hb hbytes d31)
      have c8 : Steps p.tables e below (s₁.setTop (entryFrame m #[.ref b, .int (Int32.ofNat o), .ref d, .int (Int32.ofNat q), .int (Int32.ofNat len)] 7)) (T7.setTop (mkF m 32 #[.val (.ref b), .val (.int (Int32.ofNat (o + i))), .val (.ref d), .val (.int (Int32.ofNat (q + i))), .val (.int (Int32.ofNat len)), .val (.int (Int32.ofNat i)), .val (.int (cv A (o + i)))] [])) := c6.trans (st7 _ (Steps.refl _))
      have c9 : Steps p.tables e below (s₁.setTop (entryFrame m #[.ref b, .int (Int32.ofNat o), .ref d, .int (Int32.ofNat q), .int (Int32.ofNat len)] 7)) (T7.setTop (mkF m 3 #[.val (.ref b), .val (.int (Int32.ofNat (o + i) + 1)), .val (.ref d), .val (.int (Int32.ofNat (q + i) + 1)), .val (.int (Int32.ofNat len)), .val (.int (Int32.ofNat i + 1)), .val (.int (cv A (o + i)))] [])) := c8.trans (by
        refine iincV X7.here hexec rfl 1 (hb hbytes d32) (by decide) rfl rfl ?_
        refine iincV X7.here hexec rfl 1 (hb hbytes d35) (by decide) rfl rfl ?_
        refine iincV X7.here hexec rfl 1 (hb hbytes d38) (by decide) rfl rfl ?_
        refine XS.goto X7.here hexec rfl (pc0 := 41) rfl (hb hbytes d41) (by decide) rfl ?_
        exact Steps.refl _)
      have c10 : Steps p.tables e below (s₁.setTop (entryFrame m #[.ref b, .int (Int32.ofNat o), .ref d, .int (Int32.ofNat q), .int (Int32.ofNat len)] 7)) (T7.setTop (mkF m 3 #[.val (.ref b), .val (.int (Int32.ofNat (o + (i + 1)))), .val (.ref d), .val (.int (Int32.ofNat (q + (i + 1)))), .val (.int (Int32.ofNat len)), .val (.int (Int32.ofNat (i + 1))), .val (.int (cv A (o + i)))] [])) := by
        have := c9
        rw [succ32, succ32, succ32] at this
        exact this
      exact ih (i + 1) (by omega) _ (Or.inr ⟨_, rfl, rfl⟩) T7 _ (by rw [copyLocs_step, ← List.append_assoc]; exact X7) (pl.trans p7) (fl.step (by omega) hlt (by simp)) c10
  obtain ⟨T9, B9, z9, X9, p9, f9, g9⟩ := loop len 0 (by omega) .unset (Or.inl rfl) s₁ B (by simpa [copyLocs] using X0) ⟨hB0.1, fun _ _ => rfl, rfl⟩ (Laid.zero _ _ _) c2
  have c11 : Steps p.tables e below (s₁.setTop (entryFrame m #[.ref b, .int (Int32.ofNat o), .ref d, .int (Int32.ofNat q), .int (Int32.ofNat len)] 7)) (T9.setTop (mkF m 46 #[.val (.ref b), .val (.int (Int32.ofNat (o + len))), .val (.ref d), .val (.int (Int32.ofNat (q + len))), .val (.int (Int32.ofNat len)), .val (.int (Int32.ofNat len)), z9] [.int (Int32.ofNat len)])) := g9.trans (by
    refine XS.iload X9.here hexec rfl (hb hbytes d3) rfl ?_
    refine XS.iload X9.here hexec rfl (hb hbytes d5) rfl ?_
    refine XS.icmpYes X9.here hexec rfl (pc0 := 7) rfl (hb hbytes d7) rfl (ii_ge_t (nlt32 (by omega) (Nat.le_refl _))) (by decide) rfl ?_
    refine XS.iload X9.here hexec rfl (hb hbytes d44) rfl ?_
    exact Steps.refl _)
  exact ⟨T9, some (.int (Int32.ofNat len)), _, _, _, X9, by simp, rfl, rfl, (fun h => by cases h), ⟨rfl, B9, p9.from hh0, f9⟩, fun fs hl => c11.trans (X9.ireturnOut hexec hret rfl (Or.inl rfl) (hb hbytes d46) hl)⟩
end Cmp5
namespace Cmp3
def yN : MethodName := ⟨"java/lang/StringUTF16", "compress", "([CII)[B"⟩
abbrev yB : ByteArray := jdk_52_method_16_code
theorem d0 : decode yB 0 = .ok (.iload_n 2, 1) := by decide +kernel
theorem d1 : decode yB 1 = .ok (.newarray .byte, 2) := by decide +kernel
theorem d3 : decode yB 3 = .ok (.astore_n 3, 1) := by decide +kernel
theorem d4 : decode yB 4 = .ok (.aload_n 0, 1) := by decide +kernel
theorem d5 : decode yB 5 = .ok (.iload_n 1, 1) := by decide +kernel
theorem d6 : decode yB 6 = .ok (.aload_n 3, 1) := by decide +kernel
theorem d7 : decode yB 7 = .ok (.iconst 0, 1) := by decide +kernel
theorem d8 : decode yB 8 = .ok (.iload_n 2, 1) := by decide +kernel
theorem d9 : decode yB 9 = .ok (.invokestatic 115, 3) := by decide +kernel
theorem d12 : decode yB 12 = .ok (.istore 4, 2) := by decide +kernel
theorem d14 : decode yB 14 = .ok (.iload 4, 2) := by decide +kernel
theorem d16 : decode yB 16 = .ok (.iload_n 2, 1) := by decide +kernel
theorem d17 : decode yB 17 = .ok (.if_icmp (.eq) 40, 3) := by decide +kernel
theorem d57 : decode yB 57 = .ok (.aload_n 3, 1) := by decide +kernel
theorem d58 : decode yB 58 = .ok (.areturn, 1) := by decide +kernel
def site : List Cond := [.arrayClass .byte, Cmp5.tab] ++ staticW U16 115 Cmp5.yN
def tab : Cond := tabOf yN yB 6 (some (.array .byte)) site
def P (b : Addr) (A : Cell) (o len : Nat) (args : Array Value) (s : State) : Prop := args = #[.ref b, .int (Int32.ofNat o), .int (Int32.ofNat len)] ∧ Ch b A s ∧ o + len ≤ A.slots.size ∧ len ≤ 536870912 ∧ ∀ i, i < len → ¬ 255 < cv A (o + i)
def E (b : Addr) (A : Cell) (o len : Nat) (r : Option Value) (s u : State) : Prop := NewArr .byte "[B" len (fun j => .int (lo8 (cv A (o + j)))) r s u ∧ u.heap.size = s.heap.size + 1
/-- no char of the range above 255: a new byte[] of their low bytes -/
theorem law (l : Launch) (b : Addr) (A : Cell) (o len : Nat) : Law l yN 3 3 1 18 yB 6 (some (.array .byte)) site (P b A o len) (E b A o len) [] 1 len := by
  refine Law.of_walk (plainFor_of_name (by decide +kernel)) (by decide +kernel) (by decide +kernel) (by decide) (fun _ _ h => by rw [h.1]; rfl) (fun _ U U' hal hh h => ⟨h.1, h.2.1.mv hal hh, h.2.2⟩) (fun r U U' V V' h1 hal h2 h => ⟨NewArr.mv r U U' V V' h1 hal h2 h.1, by rw [h1, h2]; exact h.2⟩) ?_
  intro p e s m args below meth c s₁ X0 hexec hbytes hml hret hlk hnm hown hh0 W hP
  obtain ⟨rfl, hA, l1, l2, hp⟩ := hP
  have a31 := hA.1.2.2.2
  have c1 : Steps p.tables e below (s₁.setTop (entryFrame m #[.ref b, .int (Int32.ofNat o), .int (Int32.ofNat len)] 6)) (s₁.setTop (mkF m 0 #[.val (.ref b), .val (.int (Int32.ofNat o)), .val (.int (Int32.ofNat len)), .unset, .unset, .unset] [])) := entry rfl
  have c2 : Steps p.tables e below (s₁.setTop (entryFrame m #[.ref b, .int (Int32.ofNat o), .int (Int32.ofNat len)] 6)) (s₁.setTop (mkF m 1 #[.val (.ref b), .val (.int (Int32.ofNat o)), .val (.int (Int32.ofNat len)), .unset, .unset, .unset] [.int (Int32.ofNat len)])) := c1.trans (by
    refine XS.iloadN X0.here hexec rfl (hb hbytes d0) rfl ?_
    exact Steps.refl _)
  obtain ⟨T3, B3, X3, ba3, bs3, bv3, bh3, bf3, st3⟩ := X0.anew hexec (atype := .byte) (wk W (.arrayClass .byte)) rfl (by show len * 1 ≤ _; omega) (by omega) (g := (mkF m 1 #[.val (.ref b), .val (.int (Int32.ofNat o)), .val (.int (Int32.ofNat len)), .unset, .unset, .unset] [.int (Int32.ofNat len)])) rfl (hb hbytes d1) (rest := []) rfl (Nat.le_refl _) (by show 0 + len ≤ len; omega)
  rw [hh0] at ba3 st3
  have kp3 : XT.Kept s T3 := (XT.Kept.of_eq hh0).push bh3
  have hA3 := hA.keep X3.warmed.alike (kp3 _ _ hA.1.1)
  have hne : b ≠ s.heap.size := hA.1.ne
  have c4 : Steps p.tables e below (s₁.setTop (entryFrame m #[.ref b, .int (Int32.ofNat o), .int (Int32.ofNat len)] 6)) (T3.setTop (mkF m 3 #[.val (.ref b), .val (.int (Int32.ofNat o)), .val (.int (Int32.ofNat len)), .unset, .unset, .unset] [.ref s.heap.size])) := c2.trans (st3 _ (Steps.refl _))
  have c5 : Steps p.tables e below (s₁.setTop (entryFrame m #[.ref b, .int (Int32.ofNat o), .int (Int32.ofNat len)] 6)) (T3.setTop (mkF m 9 #[.val (.ref b), .val (.int (Int32.ofNat o)), .val (.int (Int32.ofNat len)), .val (.ref s.heap.size), .unset, .unset] [.int (Int32.ofNat len), .int 0, .ref s.heap.size, .int (Int32.ofNat o), .ref b])) := c4.trans (by
    refine XS.astoreN X3.here hexec rfl (hb hbytes d3) rfl rfl rfl ?_
    refine XS.aloadN X3.here hexec rfl (hb hbytes d4) rfl rfl ?_
    refine XS.iloadN X3.here hexec rfl (hb hbytes d5) rfl ?_
    refine XS.aloadN X3.here hexec rfl (hb hbytes d6) rfl rfl ?_
    refine iconstV X3.here hexec rfl 0 (hb hbytes d7) (by decide) ?_
    refine XS.iloadN X3.here hexec rfl (hb hbytes d8) rfl ?_
    exact Steps.refl _)
  obtain ⟨v6, T6, X6, E6, g6⟩ := X3.callS hexec (Cmp5.law l b A s.heap.size B3 o 0 len) hown (wks W (staticW U16 115 Cmp5.yN)) (wk W Cmp5.tab) (W := 0) (Nat.le_of_ble_eq_true rfl) (Nat.le_of_ble_eq_true rfl) (Nat.le_refl _) (by show 0 + len + 0 ≤ len; omega) (g := (mkF m 9 #[.val (.ref b), .val (.int (Int32.ofNat o)), .val (.int (Int32.ofNat len)), .val (.ref s.heap.size), .unset, .unset] [.int (Int32.ofNat len), .int (Int32.ofNat 0), .ref s.heap.size, .int (Int32.ofNat o), .ref b])) rfl (by rw [hml]; rfl) c5 (argsL := [.ref b, .int (Int32.ofNat o), .ref s.heap.size, .int (Int32.ofNat 0), .int (Int32.ofNat len)]) (rest := []) rfl rfl (by show 2 * 0 + 0 ≤ _; decide) (hb hbytes d9) (⟨rfl, hA3, ba3, hne, l1, by rw [bs3]; simp, hp⟩)
  obtain ⟨rfl, B6, p6, f6⟩ := E6
  have c7 : Steps p.tables e below (s₁.setTop (entryFrame m #[.ref b, .int (Int32.ofNat o), .int (Int32.ofNat len)] 6)) (T6.setTop (mkF m 12 #[.val (.ref b), .val (.int (Int32.ofNat o)), .val (.int (Int32.ofNat len)), .val (.ref s.heap.size), .unset, .unset] [.int (Int32.ofNat len)])) := g6
  have c8 : Steps p.tables e below (s₁.setTop (entryFrame m #[.ref b, .int (Int32.ofNat o), .int (Int32.ofNat len)] 6)) (T6.setTop (mkF m 58 #[.val (.ref b), .val (.int (Int32.ofNat o)), .val (.int (Int32.ofNat len)), .val (.ref s.heap.size), .val (.int (Int32.ofNat len)), .unset] [.ref s.heap.size])) := c7.trans (by
    refine XS.istore X6.here hexec rfl (hb hbytes d12) rfl rfl ?_
    refine XS.iload X6.here hexec rfl (hb hbytes d14) rfl ?_
    refine XS.iloadN X6.here hexec rfl (hb hbytes d16) rfl ?_
    refine XS.icmpYes X6.here hexec rfl (pc0 := 17) rfl (hb hbytes d17) rfl (ii_eq_t rfl) (by decide) rfl ?_
    refine XS.aloadN X6.here hexec rfl (hb hbytes d57) rfl rfl ?_
    exact Steps.refl _)
  have X8 := X6.wide (L' := []) (cells' := 1) (slots' := len) (fun x hx hlt => by
    simp only [List.nil_append, copyLocs, List.mem_map, List.mem_range] at hx
    obtain ⟨i, -, rfl⟩ := hx
    exact absurd hlt (Nat.lt_irrefl _)) (Nat.le_refl _) (by omega)
  exact ⟨T6, some (.ref s.heap.size), _, _, _, X8, rfl, rfl, rfl, (fun h => by cases h), ⟨⟨rfl, B6, ba3.like (X3.warmed.alike.symm.trans X6.warmed.alike) p6.1 f6.1 f6.2.1 f6.2.2.1, f6.2.1.trans bv3, by rw [X6.warmed.alike.findClass, f6.1]; exact bf3, by rw [f6.2.2.1, bs3]; simp, fun j hj => by rw [f6.2.2.2 j, if_pos (by omega)]; rfl, kp3.put p6 (Nat.le_refl _)⟩, by rw [p6.2.2, bh3, hh0]; simp⟩, fun fs hl => c8.trans (X8.areturnOut hexec rfl hret rfl (hb hbytes d58) hl)⟩
end Cmp3
namespace CodL
def yN : MethodName := ⟨"java/lang/StringUTF16", "coderFromArrayLen", "([BI)B"⟩
abbrev yB : ByteArray := jdk_52_method_15_code
theorem d0 : decode yB 0 = .ok (.iload_n 1, 1) := by decide +kernel
theorem d1 : decode yB 1 = .ok (.aload_n 0, 1) := by decide +kernel
theorem d2 : decode yB 2 = .ok (.arraylength, 1) := by decide +kernel
theorem d3 : decode yB 3 = .ok (.isub, 1) := by decide +kernel
theorem d4 : decode yB 4 = .ok (.bipush 31, 2) := by decide +kernel
theorem d6 : decode yB 6 = .ok (.iushr, 1) := by decide +kernel
theorem d7 : decode yB 7 = .ok (.i2b, 1) := by decide +kernel
theorem d8 : decode yB 8 = .ok (.ireturn, 1) := by decide +kernel
def site : List Cond := []
def tab : Cond := tabOf yN yB 2 (some .byte) site
def P (d : Addr) (B : Cell) (args : Array Value) (s : State) : Prop := args = #[.ref d, .int (Int32.ofNat B.slots.size)] ∧ Arr .byte d B s
def E (r : Option Value) (s u : State) : Prop := XT.PureE (some (.int 0)) r s u
/-- an array as long as the number of chars: LATIN1 -/
theorem law (l : Launch) (d : Addr) (B : Cell) : Law l yN 2 2 0 0 yB 2 (some .byte) site (P d B) E [] 0 0 := by
  refine Law.of_walk (plainFor_of_name (by decide +kernel)) (by decide +kernel) (by decide +kernel) (by decide) (fun _ _ h => by rw [h.1]; rfl) (fun _ U U' hal hh h => ⟨h.1, h.2.mv hal hh⟩) (fun r U U' V V' h1 hal h2 h => XT.PureE.mv r U U' V V' h1 hal h2 h) ?_
  intro p e s m args below meth c s₁ X0 hexec hbytes hml hret hlk hnm hown hh0 W hP
  obtain ⟨rfl, hB⟩ := hP
  have hB0 := hB.mv X0.warmed.alike hh0
  have c1 : Steps p.tables e below (s₁.setTop (entryFrame m #[.ref d, .int (Int32.ofNat B.slots.size)] 2)) (s₁.setTop (mkF m 0 #[.val (.ref d), .val (.int (Int32.ofNat B.slots.size))] [])) := entry rfl
  have c2 : Steps p.tables e below (s₁.setTop (entryFrame m #[.ref d, .int (Int32.ofNat B.slots.size)] 2)) (s₁.setTop (mkF m 2 #[.val (.ref d), .val (.int (Int32.ofNat B.slots.size))] [.ref d, .int (Int32.ofNat B.slots.size)])) := c1.trans (by
    refine XS.iloadN X0.here hexec rfl (hb hbytes d0) rfl ?_
    refine XS.aloadN X0.here hexec rfl (hb hbytes d1) rfl rfl ?_
    exact Steps.refl _)
  have c3 : Steps p.tables e below (s₁.setTop (entryFrame m #[.ref d, .int (Int32.ofNat B.slots.size)] 2)) (s₁.setTop (mkF m 8 #[.val (.ref d), .val (.int (Int32.ofNat B.slots.size))] [.int (lo8 (ushr (Int32.ofNat B.slots.size - Int32.ofNat B.slots.size) 31))])) := c2.trans (by
    refine X0.alen hexec hB0 rfl rfl (hb hbytes d2) ?_
    refine XS.isub X0.here hexec rfl (hb hbytes d3) rfl ?_
    refine bipushV X0.here hexec rfl 31 (hb hbytes d4) (by decide) ?_
    refine iushr X0.here hexec rfl (hb hbytes d6) rfl ?_
    refine i2b X0.here hexec rfl (hb hbytes d7) rfl ?_
    exact Steps.refl _)
  have e0 : lo8 (ushr (Int32.ofNat B.slots.size - Int32.ofNat B.slots.size) 31) = 0 := by rw [Int32.sub_self]; decide
  rw [e0] at c3
  exact ⟨s₁, some (.int 0), _, _, _, X0, rfl, rfl, rfl, (fun h => by cases h), ⟨rfl, hh0⟩, fun fs hl => c3.trans (X0.ireturnOut hexec hret rfl (Or.inr (Or.inr (Or.inl rfl))) (hb hbytes d8) hl)⟩
end CodL
/-- the String at a is Latin-1 over a new byte[] (the heap's one new cell): the low bytes of the len chars of A from o on; every cell but a is kept -/
def Got (a : Addr) (D : Cell) (fV fC : Field) (A : Cell) (o len : Nat) (r : Option Value) (s u : State) : Prop := r = none ∧ ∃ D' V : Cell, Blank "java/lang/String" a D' u ∧ Same D D' [fV.slot, fC.slot] ∧ D'.slots[fV.slot]? = some (.ref s.heap.size) ∧ D'.slots[fC.slot]? = some (.int 0) ∧ Arr .byte s.heap.size V u ∧ V.vm = .none ∧ u.vm.findClass "[B" = some V.cls ∧ V.slots.size = len ∧ (∀ j, j < len → V.slots[j]? = some (.int (lo8 (cv A (o + j))))) ∧ (∀ (y : Addr) (c : Cell), y ≠ a → s.heap[y]? = some c → u.heap[y]? = some c) ∧ u.heap.size = s.heap.size + 1
theorem Got.mv {a : Addr} {D A : Cell} {fV fC : Field} {o len : Nat} : ∀ r (U U' V V' : State), U'.heap = U.heap → V.vm.Alike V'.vm → V'.heap = V.heap → Got a D fV fC A o len r U V → Got a D fV fC A o len r U' V' :=
  fun r U U' V V' h1 hal h2 ⟨e0, D', X, a1, a2, a3, a4, a5, a6, a7, a8, a9, a10, a11⟩ => ⟨e0, D', X, a1.mv hal h2, a2, by rw [h1]; exact a3, a4, by rw [h1]; exact a5.mv hal h2, a6, by rw [hal.findClass]; exact a7, a8, a9, by rw [h1, h2]; exact a10, by rw [h1, h2]; exact a11⟩
namespace New4
def yN : MethodName := ⟨"java/lang/String", "<init>", "([CIILjava/lang/Void;)V"⟩
abbrev yB : ByteArray := jdk_42_method_149_code
theorem d0 : decode yB 0 = .ok (.aload_n 0, 1) := by decide +kernel
theorem d1 : decode yB 1 = .ok (.invokespecial 1, 3) := by decide +kernel
theorem d4 : decode yB 4 = .ok (.iload_n 3, 1) := by decide +kernel
theorem d5 : decode yB 5 = .ok (.ifCond (.ne) 22, 3) := by decide +kernel
theorem d27 : decode yB 27 = .ok (.getstatic 38, 3) := by decide +kernel
theorem d30 : decode yB 30 = .ok (.ifCond (.eq) 28, 3) := by decide +kernel
theorem d33 : decode yB 33 = .ok (.aload_n 1, 1) := by decide +kernel
theorem d34 : decode yB 34 = .ok (.iload_n 2, 1) := by decide +kernel
theorem d35 : decode yB 35 = .ok (.iload_n 3, 1) := by decide +kernel
theorem d36 : decode yB 36 = .ok (.invokestatic 177, 3) := by decide +kernel
theorem d39 : decode yB 39 = .ok (.astore 5, 2) := by decide +kernel
theorem d41 : decode yB 41 = .ok (.aload_n 0, 1) := by decide +kernel
theorem d42 : decode yB 42 = .ok (.aload 5, 2) := by decide +kernel
theorem d44 : decode yB 44 = .ok (.iload_n 3, 1) := by decide +kernel
theorem d45 : decode yB 45 = .ok (.invokestatic 47, 3) := by decide +kernel
theorem d48 : decode yB 48 = .ok (.putfield 15, 3) := by decide +kernel
theorem d51 : decode yB 51 = .ok (.aload_n 0, 1) := by decide +kernel
theorem d52 : decode yB 52 = .ok (.aload 5, 2) := by decide +kernel
theorem d54 : decode yB 54 = .ok (.putfield 9, 3) := by decide +kernel
theorem d57 : decode yB 57 = .ok (.return_, 1) := by decide +kernel
def site : List Cond := [.fieldLink "java/lang/String" 38 "java/lang/String" "COMPACT_STRINGS" "Z", Cmp3.tab, CodL.tab, .laysFinal "java/lang/String" "java/lang/String" "value" "[B", .fieldLink "java/lang/String" 9 "java/lang/String" "value" "[B", .laysFinal "java/lang/String" "java/lang/String" "coder" "B", .fieldLink "java/lang/String" 15 "java/lang/String" "coder" "B"] ++ objW "java/lang/String" 1 ++ staticW "java/lang/String" 177 Cmp3.yN ++ staticW "java/lang/String" 47 CodL.yN
def tab : Cond := tabOf yN yB 6 none site
def P (a : Addr) (D : Cell) (fV fC : Field) (b : Addr) (A : Cell) (z : Int32) (o len : Nat) (args : Array Value) (s : State) : Prop := args = #[.ref a, .ref b, .int (Int32.ofNat o), .int (Int32.ofNat len), .null] ∧ Blank "java/lang/String" a D s ∧ Found "java/lang/String" "value" "[B" fV s ∧ Found "java/lang/String" "coder" "B" fC s ∧ Ch b A s ∧ StaticIs s "java/lang/String" "COMPACT_STRINGS" "Z" (.int z) ∧ ¬ z = 0 ∧ 0 < len ∧ o + len ≤ A.slots.size ∧ len ≤ 536870912 ∧ ∀ i, i < len → ¬ 255 < cv A (o + i)
def E (a : Addr) (D : Cell) (fV fC : Field) (A : Cell) (o len : Nat) (r : Option Value) (s u : State) : Prop := Got a D fV fC A o len r s u
/-- len > 0, no char of the range above 255: a Latin-1 String of their low bytes -/
theorem law (l : Launch) (a : Addr) (D : Cell) (fV fC : Field) (b : Addr) (A : Cell) (z : Int32) (o len : Nat) : Law l yN 5 4 2 35 yB 6 none site (P a D fV fC b A z o len) (E a D fV fC A o len) [⟨a, fC.slot⟩, ⟨a, fV.slot⟩] 1 len := by
  refine Law.of_walk (plainFor_of_name (by decide +kernel)) (by decide +kernel) (by decide +kernel) (by decide) (fun _ _ h => by rw [h.1]; rfl) (fun _ U U' hal hh h => ⟨h.1, h.2.1.mv hal hh, h.2.2.1.al hal, h.2.2.2.1.al hal, h.2.2.2.2.1.mv hal hh, h.2.2.2.2.2.1.there hal hh, h.2.2.2.2.2.2⟩) (fun r U U' V V' h1 hal h2 h => Got.mv r U U' V V' h1 hal h2 h) ?_
  intro p e s m args below meth c s₁ X0 hexec hbytes hml hret hlk hnm hown hh0 W hP
  obtain ⟨rfl, hB, f1, f2, hA, s1, hz, l0, l1, l2, hp⟩ := hP
  have a31 := hA.1.2.2.2
  have c1 : Steps p.tables e below (s₁.setTop (entryFrame m #[.ref a, .ref b, .int (Int32.ofNat o), .int (Int32.ofNat len), .null] 6)) (s₁.setTop (mkF m 0 #[.val (.ref a), .val (.ref b), .val (.int (Int32.ofNat o)), .val (.int (Int32.ofNat len)), .val .null, .unset] [])) := entry rfl
  have c2 : Steps p.tables e below (s₁.setTop (entryFrame m #[.ref a, .ref b, .int (Int32.ofNat o), .int (Int32.ofNat len), .null] 6)) (s₁.setTop (mkF m 1 #[.val (.ref a), .val (.ref b), .val (.int (Int32.ofNat o)), .val (.int (Int32.ofNat len)), .val .null, .unset] [.ref a])) := c1.trans (by
    refine XS.aloadN X0.here hexec rfl (hb hbytes d0) rfl rfl ?_
    exact Steps.refl _)
  obtain ⟨T3, X3, q3, st3⟩ := X0.oinit hexec hown (wks W (objW "java/lang/String" 1)) (g := (mkF m 1 #[.val (.ref a), .val (.ref b), .val (.int (Int32.ofNat o)), .val (.int (Int32.ofNat len)), .val .null, .unset] [.ref a])) rfl (by rw [hml]; rfl) (rest := []) rfl (hb hbytes d1) (W := 0) (by show 2 * 0 + 0 ≤ _; decide) (Nat.le_of_ble_eq_true rfl) (Nat.le_of_ble_eq_true rfl)
  have hh3 := q3.trans hh0
  have c4 : Steps p.tables e below (s₁.setTop (entryFrame m #[.ref a, .ref b, .int (Int32.ofNat o), .int (Int32.ofNat len), .null] 6)) (T3.setTop (mkF m 27 #[.val (.ref a), .val (.ref b), .val (.int (Int32.ofNat o)), .val (.int (Int32.ofNat len)), .val .null, .unset] [])) := (c2.trans (st3 _ (Steps.refl _))).trans (by
    refine XS.iloadN X3.here hexec rfl (hb hbytes d4) rfl ?_
    refine XS.ifYes X3.here hexec rfl (pc0 := 5) rfl (hb hbytes d5) rfl (i0_ne_t (nz32 (by omega) l0)) (by decide) rfl ?_
    exact Steps.refl _)
  obtain ⟨T5, X5, q5, st5⟩ := X3.sget hexec hown (wk W (.fieldLink "java/lang/String" 38 "java/lang/String" "COMPACT_STRINGS" "Z")) s1 (fun _ _ h => by rw [hh3]; exact h) (g := (mkF m 27 #[.val (.ref a), .val (.ref b), .val (.int (Int32.ofNat o)), .val (.int (Int32.ofNat len)), .val .null, .unset] [])) rfl (hb hbytes d27)
  have hh5 := q5.trans hh3
  have c6 : Steps p.tables e below (s₁.setTop (entryFrame m #[.ref a, .ref b, .int (Int32.ofNat o), .int (Int32.ofNat len), .null] 6)) (T5.setTop (mkF m 30 #[.val (.ref a), .val (.ref b), .val (.int (Int32.ofNat o)), .val (.int (Int32.ofNat len)), .val .null, .unset] [.int z])) := c4.trans (st5 _ (Steps.refl _))
  have c7 : Steps p.tables e below (s₁.setTop (entryFrame m #[.ref a, .ref b, .int (Int32.ofNat o), .int (Int32.ofNat len), .null] 6)) (T5.setTop (mkF m 36 #[.val (.ref a), .val (.ref b), .val (.int (Int32.ofNat o)), .val (.int (Int32.ofNat len)), .val .null, .unset] [.int (Int32.ofNat len), .int (Int32.ofNat o), .ref b])) := c6.trans (by
    refine XS.ifNo X5.here hexec rfl (hb hbytes d30) rfl (i0_eq_f hz) ?_
    refine XS.aloadN X5.here hexec rfl (hb hbytes d33) rfl rfl ?_
    refine XS.iloadN X5.here hexec rfl (hb hbytes d34) rfl ?_
    refine XS.iloadN X5.here hexec rfl (hb hbytes d35) rfl ?_
    exact Steps.refl _)
  obtain ⟨v8, T8, X8, E8, g8⟩ := X5.callS hexec (Cmp3.law l b A o len) hown (wks W (staticW "java/lang/String" 177 Cmp3.yN)) (wk W Cmp3.tab) (W := 0) (Nat.le_of_ble_eq_true rfl) (Nat.le_of_ble_eq_true rfl) (Nat.le_refl _) (by show 0 + len ≤ len; omega) (g := (mkF m 36 #[.val (.ref a), .val (.ref b), .val (.int (Int32.ofNat o)), .val (.int (Int32.ofNat len)), .val .null, .unset] [.int (Int32.ofNat len), .int (Int32.ofNat o), .ref b])) rfl (by rw [hml]; rfl) c7 (argsL := [.ref b, .int (Int32.ofNat o), .int (Int32.ofNat len)]) (rest := []) rfl rfl (by show 2 * 0 + 0 ≤ _; decide) (hb hbytes d36) (⟨rfl, hA.mv X5.warmed.alike hh5, l1, l2, hp⟩)
  obtain ⟨e8, z8⟩ := E8
  obtain ⟨rfl, N, n1, n2, n3, n4, n5, n6⟩ := NewArr.mv _ T5 s _ _ hh5.symm (Vm.Alike.refl _) rfl e8
  rw [hh5] at z8
  have hB1 := hB.keep X8.warmed.alike (n6 _ _ hB.1)
  have hne : s.heap.size ≠ a := (Nat.ne_of_lt (Array.getElem?_eq_some_iff.mp hB.1).1).symm
  have c9 : Steps p.tables e below (s₁.setTop (entryFrame m #[.ref a, .ref b, .int (Int32.ofNat o), .int (Int32.ofNat len), .null] 6)) (T8.setTop (mkF m 39 #[.val (.ref a), .val (.ref b), .val (.int (Int32.ofNat o)), .val (.int (Int32.ofNat len)), .val .null, .unset] [.ref s.heap.size])) := g8
  have c10 : Steps p.tables e below (s₁.setTop (entryFrame m #[.ref a, .ref b, .int (Int32.ofNat o), .int (Int32.ofNat len), .null] 6)) (T8.setTop (mkF m 45 #[.val (.ref a), .val (.ref b), .val (.int (Int32.ofNat o)), .val (.int (Int32.ofNat len)), .val .null, .val (.ref s.heap.size)] [.int (Int32.ofNat N.slots.size), .ref s.heap.size, .ref a])) := by
    have hc : Steps p.tables e below (s₁.setTop (entryFrame m #[.ref a, .ref b, .int (Int32.ofNat o), .int (Int32.ofNat len), .null] 6)) (T8.setTop (mkF m 45 #[.val (.ref a), .val (.ref b), .val (.int (Int32.ofNat o)), .val (.int (Int32.ofNat len)), .val .null, .val (.ref s.heap.size)] [.int (Int32.ofNat len), .ref s.heap.size, .ref a])) := c9.trans (by
      refine XS.astore X8.here hexec rfl (hb hbytes d39) rfl rfl rfl ?_
      refine XS.aloadN X8.here hexec rfl (hb hbytes d41) rfl rfl ?_
      refine XS.aload X8.here hexec rfl (hb hbytes d42) rfl rfl ?_
      refine XS.iloadN X8.here hexec rfl (hb hbytes d44) rfl ?_
      exact Steps.refl _)
    rw [n4]; exact hc
  obtain ⟨v11, T11, X11, E11, g11⟩ := X8.callS hexec (CodL.law l s.heap.size N) hown (wks W (staticW "java/lang/String" 47 CodL.yN)) (wk W CodL.tab) (W := 1) (Nat.le_of_ble_eq_true rfl) (Nat.le_of_ble_eq_true rfl) (Nat.le_refl _) (by show 0 + len + 0 ≤ len; omega) (g := (mkF m 45 #[.val (.ref a), .val (.ref b), .val (.int (Int32.ofNat o)), .val (.int (Int32.ofNat len)), .val .null, .val (.ref s.heap.size)] [.int (Int32.ofNat N.slots.size), .ref s.heap.size, .ref a])) rfl (by rw [hml]; rfl) c10 (argsL := [.ref s.heap.size, .int (Int32.ofNat N.slots.size)]) (rest := [.ref a]) rfl rfl (by show 2 * 0 + (1 + 0) ≤ _; decide) (hb hbytes d45) (⟨rfl, n1⟩)
  obtain ⟨rfl, q11⟩ := E11
  have hB11 := hB1.mv (X8.warmed.alike.symm.trans X11.warmed.alike) q11
  have c12 : Steps p.tables e below (s₁.setTop (entryFrame m #[.ref a, .ref b, .int (Int32.ofNat o), .int (Int32.ofNat len), .null] 6)) (T11.setTop (mkF m 48 #[.val (.ref a), .val (.ref b), .val (.int (Int32.ofNat o)), .val (.int (Int32.ofNat len)), .val .null, .val (.ref s.heap.size)] [.int 0, .ref a])) := g11
  obtain ⟨T13, X13, p13, bl13, sl13, st13⟩ := X11.finit hexec hown (wk W (.fieldLink "java/lang/String" 15 "java/lang/String" "coder" "B")) (Or.inr ⟨_, (wk W (.laysFinal "java/lang/String" "java/lang/String" "coder" "B"))⟩) (Or.inl ⟨rfl, hnm⟩) f2 (Or.inl rfl) hB11 (t := .byte) (by decide +kernel) rfl (g := (mkF m 48 #[.val (.ref a), .val (.ref b), .val (.int (Int32.ofNat o)), .val (.int (Int32.ofNat len)), .val .null, .val (.ref s.heap.size)] [.int 0, .ref a])) rfl (rest := []) rfl (hb hbytes d48)
  have c14 : Steps p.tables e below (s₁.setTop (entryFrame m #[.ref a, .ref b, .int (Int32.ofNat o), .int (Int32.ofNat len), .null] 6)) (T13.setTop (mkF m 54 #[.val (.ref a), .val (.ref b), .val (.int (Int32.ofNat o)), .val (.int (Int32.ofNat len)), .val .null, .val (.ref s.heap.size)] [.ref s.heap.size, .ref a])) := (c12.trans (st13 _ (Steps.refl _))).trans (by
    refine XS.aloadN X13.here hexec rfl (hb hbytes d51) rfl rfl ?_
    refine XS.aload X13.here hexec rfl (hb hbytes d52) rfl rfl ?_
    exact Steps.refl _)
  obtain ⟨T15, X15, p15, bl15, sl15, st15⟩ := X13.finit hexec hown (wk W (.fieldLink "java/lang/String" 9 "java/lang/String" "value" "[B")) (Or.inr ⟨_, (wk W (.laysFinal "java/lang/String" "java/lang/String" "value" "[B"))⟩) (Or.inl ⟨rfl, hnm⟩) f1 (Or.inl rfl) bl13 (t := (.array .byte)) (by decide +kernel) rfl (g := (mkF m 54 #[.val (.ref a), .val (.ref b), .val (.int (Int32.ofNat o)), .val (.int (Int32.ofNat len)), .val .null, .val (.ref s.heap.size)] [.ref s.heap.size, .ref a])) rfl (rest := []) rfl (hb hbytes d54)
  have c16 : Steps p.tables e below (s₁.setTop (entryFrame m #[.ref a, .ref b, .int (Int32.ofNat o), .int (Int32.ofNat len), .null] 6)) (T15.setTop (mkF m 57 #[.val (.ref a), .val (.ref b), .val (.int (Int32.ofNat o)), .val (.int (Int32.ofNat len)), .val .null, .val (.ref s.heap.size)] [])) := c14.trans (st15 _ (Steps.refl _))
  have ap := apart (Or.inr ⟨_, (wk W (.laysFinal "java/lang/String" "java/lang/String" "value" "[B"))⟩) (Or.inr ⟨_, (wk W (.laysFinal "java/lang/String" "java/lang/String" "coder" "B"))⟩) f1 f2 (t₁ := .array .byte) (t₂ := .byte) (by decide +kernel) (by decide +kernel) (by decide)
  have al := X8.warmed.alike.symm.trans X15.warmed.alike
  have n7 : T11.heap[s.heap.size]? = some N := by rw [q11]; exact n1.1
  exact ⟨T15, none, _, _, _, X15, by simp, rfl, by omega, (fun _ => rfl), ⟨rfl, _, N, bl15, ((Same.refl D _).set _ (by simp)).set _ (by simp), sl15, (Cell.slots_setSlot_ne _ ap).trans sl13, n1.keep al (p15.other hne (p13.other hne n7)), n2, by rw [al.findClass]; exact n3, n4, n5, fun y c h1 h2 => p15.other h1 (p13.other h1 (by rw [q11]; exact n6 y c h2)), by rw [p15.2.2, p13.2.2, q11]; exact z8⟩, fun fs hl => c16.trans (X15.returnOut hexec hret (hb hbytes d57) hl)⟩
end New4
namespace New1
def yN : MethodName := ⟨"java/lang/String", "<init>", "([C)V"⟩
abbrev yB : ByteArray := jdk_42_method_3_code
theorem d0 : decode yB 0 = .ok (.aload_n 0, 1) := by decide +kernel
theorem d1 : decode yB 1 = .ok (.aload_n 1, 1) := by decide +kernel
theorem d2 : decode yB 2 = .ok (.iconst 0, 1) := by decide +kernel
theorem d3 : decode yB 3 = .ok (.aload_n 1, 1) := by decide +kernel
theorem d4 : decode yB 4 = .ok (.arraylength, 1) := by decide +kernel
theorem d5 : decode yB 5 = .ok (.aconst_null, 1) := by decide +kernel
theorem d6 : decode yB 6 = .ok (.invokespecial 27, 3) := by decide +kernel
theorem d9 : decode yB 9 = .ok (.return_, 1) := by decide +kernel
def site : List Cond := [New4.tab] ++ initW "java/lang/String" 27 New4.yN
def tab : Cond := tabOf yN yB 2 none site
def P (a : Addr) (D : Cell) (fV fC : Field) (b : Addr) (A : Cell) (z : Int32) (args : Array Value) (s : State) : Prop := args = #[.ref a, .ref b] ∧ Blank "java/lang/String" a D s ∧ Found "java/lang/String" "value" "[B" fV s ∧ Found "java/lang/String" "coder" "B" fC s ∧ Ch b A s ∧ StaticIs s "java/lang/String" "COMPACT_STRINGS" "Z" (.int z) ∧ ¬ z = 0 ∧ 0 < A.slots.size ∧ A.slots.size ≤ 536870912 ∧ ∀ i, i < A.slots.size → ¬ 255 < cv A i
def E (a : Addr) (D : Cell) (fV fC : Field) (A : Cell) (r : Option Value) (s u : State) : Prop := Got a D fV fC A 0 A.slots.size r s u
/-- new String(chars), not empty, no char above 255: a Latin-1 String of their low bytes -/
theorem law (l : Launch) (a : Addr) (D : Cell) (fV fC : Field) (b : Addr) (A : Cell) (z : Int32) : Law l yN 2 1 3 52 yB 2 none site (P a D fV fC b A z) (E a D fV fC A) [⟨a, fC.slot⟩, ⟨a, fV.slot⟩] 1 A.slots.size := by
  refine Law.of_walk (plainFor_of_name (by decide +kernel)) (by decide +kernel) (by decide +kernel) (by decide) (fun _ _ h => by rw [h.1]; rfl) (fun _ U U' hal hh h => ⟨h.1, h.2.1.mv hal hh, h.2.2.1.al hal, h.2.2.2.1.al hal, h.2.2.2.2.1.mv hal hh, h.2.2.2.2.2.1.there hal hh, h.2.2.2.2.2.2⟩) (fun r U U' V V' h1 hal h2 h => Got.mv r U U' V V' h1 hal h2 h) ?_
  intro p e s m args below meth c s₁ X0 hexec hbytes hml hret hlk hnm hown hh0 W hP
  obtain ⟨rfl, hB, f1, f2, hA, s1, hz, l0, l2, hp⟩ := hP
  have c1 : Steps p.tables e below (s₁.setTop (entryFrame m #[.ref a, .ref b] 2)) (s₁.setTop (mkF m 0 #[.val (.ref a), .val (.ref b)] [])) := entry rfl
  have c2 : Steps p.tables e below (s₁.setTop (entryFrame m #[.ref a, .ref b] 2)) (s₁.setTop (mkF m 6 #[.val (.ref a), .val (.ref b)] [.null, .int (Int32.ofNat A.slots.size), .int 0, .ref b, .ref a])) := c1.trans (by
    refine XS.aloadN X0.here hexec rfl (hb hbytes d0) rfl rfl ?_
    refine XS.aloadN X0.here hexec rfl (hb hbytes d1) rfl rfl ?_
    refine iconstV X0.here hexec rfl 0 (hb hbytes d2) (by decide) ?_
    refine XS.aloadN X0.here hexec rfl (hb hbytes d3) rfl rfl ?_
    refine X0.alen hexec (hA.1.mv X0.warmed.alike hh0) rfl rfl (hb hbytes d4) ?_
    refine XS.aconstNull X0.here hexec rfl (hb hbytes d5) ?_
    exact Steps.refl _)
  obtain ⟨v3, T3, X3, E3, g3⟩ := X0.callN hexec (New4.law l a D fV fC b A z 0 A.slots.size) rfl hown (wks W (initW "java/lang/String" 27 New4.yN)) (W New4.tab (by simp only [site, List.mem_cons, List.mem_append, true_or, or_true])) (W := 0) (Nat.le_of_ble_eq_true rfl) (Nat.le_of_ble_eq_true rfl) (Nat.le_refl _) (by show 0 + A.slots.size ≤ A.slots.size; omega) (g := (mkF m 6 #[.val (.ref a), .val (.ref b)] [.null, .int (Int32.ofNat A.slots.size), .int (Int32.ofNat 0), .ref b, .ref a])) rfl (by rw [hml]; rfl) c2 (argsL := [.ref b, .int (Int32.ofNat 0), .int (Int32.ofNat A.slots.size), .null]) (rest := []) rfl rfl (by show 2 * 0 + 0 ≤ _; decide) (hb hbytes d6) (⟨rfl, hB.mv X0.warmed.alike hh0, f1.al X0.warmed.alike, f2.al X0.warmed.alike, hA.mv X0.warmed.alike hh0, s1.there X0.warmed.alike hh0, hz, l0, by omega, l2, fun i hi => by rw [Nat.zero_add]; exact hp i hi⟩)
  have e0 := Got.mv _ s₁ s _ _ hh0.symm (Vm.Alike.refl _) rfl E3
  obtain rfl := e0.1
  have c4 : Steps p.tables e below (s₁.setTop (entryFrame m #[.ref a, .ref b] 2)) (T3.setTop (mkF m 9 #[.val (.ref a), .val (.ref b)] [])) := g3
  exact ⟨T3, none, _, _, _, X3, by simp, rfl, by omega, (fun _ => rfl), e0, fun fs hl => c4.trans (X3.returnOut hexec hret (hb hbytes d9) hl)⟩
theorem pays {l : Launch} {R : Room} {p : Program} {e : Env} {below : List Frame} {s : State} {sargs : Array Value} {len W : Nat} (a : Addr) (D : Cell) (fV fC : Field) (b : Addr) (A : Cell) (z : Int32) (htab : tab.before sargs s = true) (hfr : 4 ≤ R.frames) (hlo : W + 65 ≤ R.locals) :
    Back l R p e below s sargs yN len W (fun A₁ a₁ => A₁.cells + 1 ≤ R.cells ∧ A₁.slots + A.slots.size ≤ R.slots ∧ P a D fV fC b A z a₁ A₁.U) (fun A₁ _ v₁ B₁ => E a D fV fC A v₁ A₁.U B₁.U ∧ B₁.locs = A₁.locs ++ [⟨a, fC.slot⟩, ⟨a, fV.slot⟩] ∧ B₁.cells = A₁.cells + 1 ∧ B₁.slots = A₁.slots + A.slots.size) :=
  (law l a D fV fC b A z).pays htab hfr (by omega)
end New1
/-- the byte, read back as charAt reads it, is the char -/
theorem lo8_mask {x : Int32} (h0 : ¬ x < 0) (h1 : ¬ 255 < x) : lo8 x &&& 255 = x := by
  have t : ∀ k : Fin 256, lo8 (Int32.ofNat k.val) &&& 255 = Int32.ofNat k.val := by decide +kernel
  rw [Int32.lt_iff_toInt_lt] at h0 h1
  have e0 : (0 : Int32).toInt = 0 := rfl
  have e1 : (255 : Int32).toInt = 255 := rfl
  obtain ⟨k, hk⟩ : ∃ k : Nat, x.toInt = k := ⟨x.toInt.toNat, by omega⟩
  have hx : x = Int32.ofNat k := Int32.toInt_inj.mp (by rw [hk, Int32.toInt_ofNat_small (by omega)])
  rw [hx]
  exact t ⟨k, by omega⟩
end StrChars
namespace StrChars.Road
open Jvm Sem ClassFile Op Lib Jvm.Stand Jvm.Free Jvm.Free.XT
open Jvm.Lib.Cold (StaticIs)
abbrev ST : String := "java/lang/String"
/-- every table word that New1's law asks, flat -/
abbrev words : List Jvm.Cond := [.code New1.yN New1.yB 2 none, .initialized ST, .methodLink ST 27 New4.yN, .instanceMethod New4.yN,
  .code New4.yN New4.yB 6 none, .fieldLink ST 38 ST "COMPACT_STRINGS" "Z", .laysFinal ST ST "value" "[B", .fieldLink ST 9 ST "value" "[B", .laysFinal ST ST "coder" "B", .fieldLink ST 15 ST "coder" "B",
  .methodLink ST 1 Lib.objectInit, .instanceMethod Lib.objectInit, .code Lib.objectInit ⟨#[0xb1]⟩ 1 none, .methodLink ST 177 Cmp3.yN, .static Cmp3.yN, .methodLink ST 47 CodL.yN, .static CodL.yN,
  .code Cmp3.yN Cmp3.yB 6 (some (.array .byte)), .initialized U16, .arrayClass .byte, .methodLink U16 115 Cmp5.yN, .static Cmp5.yN, .code Cmp5.yN Cmp5.yB 7 (some .int), .code CodL.yN CodL.yB 2 (some .byte)]
theorem tab_of {a : Array Value} {s : State} (h : ∀ w ∈ words, w.before a s = true) : New1.tab.before a s = true := by
  have h5 : Cmp5.tab.before a s = true := unparts (wk h (.code Cmp5.yN Cmp5.yB 7 (some .int))) (wks h (.initialized Cmp5.yN.cls :: Cmp5.site))
  have hc : CodL.tab.before a s = true := unparts (wk h (.code CodL.yN CodL.yB 2 (some .byte))) (wks h (.initialized CodL.yN.cls :: CodL.site))
  have q5 : ∀ w ∈ Cmp5.tab :: words, w.before a s = true := fun w hw => (List.mem_cons.mp hw).elim (fun e => e ▸ h5) (h w)
  have h3 : Cmp3.tab.before a s = true := unparts (wk q5 (.code Cmp3.yN Cmp3.yB 6 (some (.array .byte)))) (wks q5 (.initialized Cmp3.yN.cls :: Cmp3.site))
  have q3 : ∀ w ∈ Cmp3.tab :: CodL.tab :: words, w.before a s = true := fun w hw => (List.mem_cons.mp hw).elim (fun e => e ▸ h3) fun hw => (List.mem_cons.mp hw).elim (fun e => e ▸ hc) (h w)
  have h4 : New4.tab.before a s = true := unparts (wk q3 (.code New4.yN New4.yB 6 none)) (wks q3 (.initialized New4.yN.cls :: New4.site))
  have q4 : ∀ w ∈ New4.tab :: words, w.before a s = true := fun w hw => (List.mem_cons.mp hw).elim (fun e => e ▸ h4) (h w)
  exact unparts (wk q4 (.code New1.yN New1.yB 2 none)) (wks q4 (.initialized New1.yN.cls :: New1.site))
/-- the words ride from the start Z to the walk's own state -/
theorem moved {Z s : State} {a0 args : Array Value} (hZ : Z.Warmed39 s.vm) (hw : ∀ d ∈ words, d.before a0 Z = true) : ∀ d ∈ words, d.before args s = true := fun d hd => by
  have q := hw d hd
  have t : ∀ d ∈ words, d = .arrayClass .byte ∨ (d.onTables && d.keepsFace) = true := by decide +kernel
  rcases t d hd with rfl | t
  · exact RoadKit.mvA hZ q
  · exact RoadKit.mv hZ q t
/-- WHAT COMES BACK, over the tables of the start Z: h the heap at the call, h' behind it -/
def Q (Z : State) (x : Addr) (A : Cell) (h : Heap) (v : Option Value) (h' : Heap) (L : List Loc) : Prop := v = none ∧ (∀ y ∈ L, y.base = x) ∧ RoadKit.Keep h h' [x] ∧ h'.size = h.size + 1 ∧ RoadKit.Exa Z h' x ST ∧ RoadKit.Fld Z h' x ST "value" "[B" (.ref h.size) ∧ RoadKit.Fld Z h' x ST "coder" "B" (.int 0) ∧
  (∃ V : Cell, RoadKit.Arr Z h' h.size V .byte ∧ V.vm = .none ∧ Z.vm.findClass "[B" = some V.cls ∧ V.slots.size = A.slots.size ∧ ∀ j, j < A.slots.size → V.slots[j]? = some (.int (lo8 (cv A j)))) ∧
  ∀ (O n d : String) (w : Value), RoadKit.Fld Z h x O n d w → RoadKit.slotOf Z O n d ≠ RoadKit.slotOf Z ST "value" "[B" → RoadKit.slotOf Z O n d ≠ RoadKit.slotOf Z ST "coder" "B" → RoadKit.Fld Z h' x O n d w
/-- **new String(chars) AT A CALL, IN THE ROAD'S FORM**: for specialBack behind newO: x the fresh String, b the char[] with the cell A -/
theorem back {p : Program} {l : Launch} {e : Env} {R : Room} {s : State} {args : Array Value} {below : List Frame} {len W : Nat} {Z : State} {a0 : Array Value} {h : Heap} (hZ : Z.Warmed39 s.vm) (hw : ∀ d ∈ words, d.before a0 Z = true) {kI : Nat} (wi : (Jvm.Cond.instantiable ST kI).before a0 Z = true)
    {x b : Addr} {A : Cell} {z : Int32} {v0 c0 : Value} (E : RoadKit.Exa Z h x ST) (V : RoadKit.Fld Z h x ST "value" "[B" v0) (C : RoadKit.Fld Z h x ST "coder" "B" c0) (K : RoadKit.Arr Z h b A .char) (hty : Typed .char A) (S : RoadKit.Sta Z h ST "COMPACT_STRINGS" "Z" (.int z)) (hz : ¬ z = 0)
    (l0 : 0 < A.slots.size) (l2 : A.slots.size ≤ 536870912) (hp : ∀ i, i < A.slots.size → ¬ 255 < cv A i) (hfr : 4 ≤ R.frames) (hlo : W + 65 ≤ R.locals) :
    Back l R p e below s args New1.yN len W (fun P a => a = #[.ref x, .ref b] ∧ P.U.heap = h ∧ P.cells + 1 ≤ R.cells ∧ P.slots + A.slots.size ≤ R.slots)
      (fun P _ v B => ∃ L, Q Z x A h v B.U.heap L ∧ B.locs = P.locs ++ L ∧ B.cells = P.cells + 1 ∧ B.slots = P.slots + A.slots.size) := by
  intro m meth c P g ig mk a X hg hsize hdg hW hn hp'
  obtain ⟨rfl, rfl, r1, r2⟩ := hp'
  have al : Z.vm.Alike P.U.vm := hZ.alike.trans X.warmed.alike
  obtain ⟨D, cfV, kV, iV, fV, hD, gV, stV, knV, obV, asV, slV⟩ := id V
  obtain ⟨D', cfC, kC, iC, fC, hD', gC, stC, -, -, asC, slC⟩ := id C
  cases hD.symm.trans hD'
  obtain ⟨D2, kD, e1, e2, e3, e4, e5⟩ := id E
  cases hD.symm.trans e1
  obtain ⟨c2, k2, i1, i2, i3, -⟩ := Cond.instantiable_spec wi
  cases e2.symm.trans i1
  cases e3.symm.trans i2
  obtain ⟨kU, u1, u2⟩ := al.2.2 _ _ e3
  have hB : Blank ST x D P.U := ⟨hD, ⟨knV, fun q hq => by rw [hq] at obV; cases obV⟩, by rw [al.findClass]; exact e2, kU, u1, by rw [u2]; exact i3, by rw [u2]; exact e5 i3⟩
  have F1 : Found ST "value" "[B" fV P.U := ⟨SBG.found_only al ⟨cfV, kV, iV, gV⟩, stV⟩
  have F2 : Found ST "coder" "B" fC P.U := ⟨SBG.found_only al ⟨cfC, kC, iC, gC⟩, stC⟩
  have hA : Ch b A P.U := ⟨⟨K.1, State.isArrayOf_alike al K.2.1, K.2.2, by omega⟩, hty⟩
  have hS : StaticIs P.U ST "COMPACT_STRINGS" "Z" (.int z) := by
    obtain ⟨cfS, iS, kS, fS, st, cS, t1, t2, t3, t4, t5, t6, t7⟩ := S
    exact StaticIs.there (s := { Z with heap := P.U.heap }) ⟨cfS, iS, kS, fS, st, cS, t1, t2, t3, t4, t5, (fun q => by rw [q] at t6; cases t6), t7⟩ al rfl
  obtain ⟨v, B, X', ⟨⟨hv, E', V', q1, q2, q3, q4, q5, q6, q7, q8, q9, q10, q11⟩, hl, hc, hs⟩, st⟩ := New1.pays x D fV fC b A z (tab_of (moved hZ hw)) hfr hlo m meth c P g ig mk _ X hg hsize hdg hW hn ⟨r1, r2, rfl, hB, F1, F2, hA, hS, hz, l0, l2, hp⟩
  have al' : Z.vm.Alike B.U.vm := hZ.alike.trans X'.warmed.alike
  have hsz : E'.slots.size = D.slots.size := by
    obtain ⟨-, -, -, kB, w1, w2, w3⟩ := q1
    obtain ⟨kB', y1, y2⟩ := al'.2.2 _ _ e3
    rw [q2.2.1] at w1
    cases w1.symm.trans y1
    rw [w3, e5 i3, y2]
  refine ⟨v, B, X', ⟨_, ⟨hv, ?_, ⟨by omega, fun y cy hy hn' => q10 y cy (by simpa using hn') hy, fun y cy hy => ?_⟩, q11, ⟨E', _, q1.1, by rw [q2.2.1]; exact e2, by rw [q2.2.1]; exact e3, by rw [q2.1]; exact obV, fun _ => by rw [hsz]; exact e5 i3⟩,
    ⟨E', cfV, kV, iV, fV, q1.1, gV, stV, by rw [q2.1]; exact knV, by rw [q2.1]; exact obV, by rw [q2.2.1]; exact asV, q3⟩, ⟨E', cfC, kC, iC, fC, q1.1, gC, stC, by rw [q2.1]; exact knV, by rw [q2.1]; exact obV, by rw [q2.2.1]; exact asC, q4⟩,
    ⟨V', ⟨q5.1, State.isArrayOf_alike al'.symm q5.2.1, q5.2.2.1⟩, q6, by rw [← al'.findClass]; exact q7, q8, fun j hj => by have := q9 j hj; rwa [Nat.zero_add] at this⟩, fun O n d w F n1 n2 => ?_⟩, hl, hc, hs⟩, st⟩
  · intro y hy
    simp only [List.mem_cons, List.not_mem_nil, or_false] at hy
    rcases hy with rfl | rfl <;> rfl
  · by_cases q : y = x
    · subst q
      cases hD.symm.trans hy
      exact ⟨E', q1.1, q2.2.1, q2.1, hsz⟩
    · exact ⟨cy, q10 y cy q hy, rfl, rfl, rfl⟩
  · obtain ⟨D3, cf, k, i, f, g1, g2, g3, g4, g5, g6, g7⟩ := F
    cases hD.symm.trans g1
    simp only [RoadKit.slotOf, g2, gV, gC, Option.map_some, Option.getD_some] at n1 n2
    exact ⟨E', cf, k, i, f, q1.1, g2, g3, by rw [q2.1]; exact g4, by rw [q2.1]; exact g5, by rw [q2.2.1]; exact g6, by rw [q2.2.2 f.slot (by simp [n1, n2])]; exact g7⟩
end StrChars.Road
namespace StrChars.Road
open Jvm Sem ClassFile Op Lib Jvm.Stand Jvm.Free Jvm.Free.XT
/-- WHAT COMES BACK, the byte[] as a list of values -/
def QA (Z : State) (x : Addr) (zn : Int32) (cs : List Int32) (h : Heap) (v : Option Value) (h' : Heap) (L : List Loc) : Prop := v = none ∧ (∀ y ∈ L, y.base = x) ∧ RoadKit.Keep h h' [x] ∧ h'.size = h.size + 1 ∧ RoadKit.Exa Z h' x ST ∧ RoadKit.Fld Z h' x ST "value" "[B" (.ref h.size) ∧ RoadKit.Fld Z h' x ST "coder" "B" (.int 0) ∧
  (∃ kb, Z.vm.findClass "[B" = some kb ∧ RoadKit.Arv Z h' h.size kb .byte zn (cs.map fun c => .int (lo8 c)) (.int 0)) ∧
  ∀ (O n d : String) (w : Value), RoadKit.Fld Z h x O n d w → RoadKit.slotOf Z O n d ≠ RoadKit.slotOf Z ST "value" "[B" → RoadKit.slotOf Z O n d ≠ RoadKit.slotOf Z ST "coder" "B" → RoadKit.Fld Z h' x O n d w
/-- **new String(chars) AT A CALL, THE ARRAYS AS LISTS**: the char[] at b holds cs, not empty, no char above 255 -/
theorem backArv {p : Program} {l : Launch} {e : Env} {R : Room} {s : State} {args : Array Value} {below : List Frame} {len W : Nat} {Z : State} {a0 : Array Value} {h : Heap} (hZ : Z.Warmed39 s.vm) (hw : ∀ d ∈ words, d.before a0 Z = true) {kI : Nat} (wi : (Jvm.Cond.instantiable ST kI).before a0 Z = true)
    {x b : Addr} {k : ClassId} {zn z : Int32} {cs : List Int32} {dv v0 c0 : Value} (E : RoadKit.Exa Z h x ST) (V : RoadKit.Fld Z h x ST "value" "[B" v0) (C : RoadKit.Fld Z h x ST "coder" "B" c0) (K : RoadKit.Arv Z h b k .char zn (cs.map Value.int) dv) (S : RoadKit.Sta Z h ST "COMPACT_STRINGS" "Z" (.int z)) (hz : ¬ z = 0)
    (hlen : zn.toNatClampNeg = cs.length) (h0 : 0 < cs.length) (hbig : cs.length ≤ 536870912) (hall : ∀ c ∈ cs, ¬ 255 < c) (hfr : 4 ≤ R.frames) (hlo : W + 65 ≤ R.locals) :
    Back l R p e below s args New1.yN len W (fun P a => a = #[.ref x, .ref b] ∧ P.U.heap = h ∧ P.cells + 1 ≤ R.cells ∧ P.slots + cs.length ≤ R.slots)
      (fun P _ v B => ∃ L, QA Z x zn cs h v B.U.heap L ∧ B.locs = P.locs ++ L ∧ B.cells = P.cells + 1 ∧ B.slots = P.slots + cs.length) := by
  obtain ⟨A, K1, K2, K3, K4, K5, K6⟩ := K
  have e : A.slots.size = cs.length := K3.trans hlen
  have hat : ∀ (i : Nat) (hi : i < cs.length), A.slots[i]? = some (.int cs[i]) := fun i hi => by rw [K5 i (by omega)]; simp [List.getD_eq_getElem?_getD, hi]
  have hcv : ∀ (i : Nat) (hi : i < cs.length), cv A i = cs[i] := fun i hi => by unfold cv; rw [hat i hi]
  have hty : Typed .char A := fun i v hv => by
    have hi : i < A.slots.size := (Array.getElem?_eq_some_iff.mp hv).1
    have q := K5 i hi
    rw [hv] at q
    rw [Option.some.inj q]
    exact K6 i hi
  refine Back.mono (back hZ hw wi E V C K1 hty S hz (by omega) (by omega) (fun i hi => by rw [hcv i (by omega)]; exact hall _ (List.getElem_mem _)) hfr hlo) (fun P a hp => ⟨hp.1, hp.2.1, hp.2.2.1, by rw [e]; exact hp.2.2.2⟩) (fun P a v B hp hq => ?_)
  obtain ⟨L, ⟨q1, q2, q3, q4, q5, q6, q7, ⟨V', v1, v2, v3, v4, v5⟩, q9⟩, hl, hc, hs⟩ := hq
  refine ⟨L, ⟨q1, q2, q3, q4, q5, q6, q7, ⟨V'.cls, v3, V', v1, rfl, by rw [v4, e, hlen], K4, fun i hi => ?_, fun i hi => ?_⟩, q9⟩, hl, hc, by rw [hs, e]⟩
  · have hi' : i < cs.length := by omega
    rw [v5 i (by omega), hcv i hi']; simp [List.getD_eq_getElem?_getD, hi']
  · have hi' : i < cs.length := by omega
    simp only [List.getD_eq_getElem?_getD, List.getElem?_map, List.getElem?_eq_getElem hi', Option.map_some, Option.getD_some]
    exact fits_lo8 _
end StrChars.Road
namespace StrChars.Road
open Jvm Sem ClassFile Op Lib Jvm.Stand Jvm.Free Jvm.Free.XT
/-- WHAT COMES BACK, in the writer's own shape -/
def QV (Z : State) (x : Addr) (N : Int32) (bs : List Int32) (h : Heap) (n0 : Nat) (v : Option Value) (h' : Heap) (L : List Loc) : Prop := v = none ∧ RoadKit.Fr n0 L ∧ RoadKit.Keep h h' [x] ∧ RoadKit.Exa Z h' x ST ∧ RoadKit.Fld Z h' x ST "coder" "B" (.int 0) ∧
  ∃ (t : Addr) (kb : ClassId), n0 ≤ t ∧ h.size ≤ t ∧ ¬ t = x ∧ RoadKit.Fld Z h' x ST "value" "[B" (.ref t) ∧ RoadKit.Arv Z h' t kb .byte N (bs.map Value.int) (.int 0)
/-- **new String(chars) AT A CALL, FOR THE WRITER**: a char[] of n known ints, each 0 to 255 -/
theorem backV {p : Program} {l : Launch} {e : Env} {R : Room} {s : State} {args : Array Value} {below : List Frame} {len W : Nat} {Z : State} {a0 : Array Value} {h : Heap} (hZ : Z.Warmed39 s.vm) (hw : ∀ d ∈ words, d.before a0 Z = true) {kI : Nat} (wi : (Jvm.Cond.instantiable ST kI).before a0 Z = true)
    {x b : Addr} {kC : ClassId} {cs bs : List Int32} {d v0 c0 : Value} {z N : Int32} {n n0 : Nat} (hx0 : n0 ≤ x) (hh0 : n0 ≤ h.size) (E : RoadKit.Exa Z h x ST) (V : RoadKit.Fld Z h x ST "value" "[B" v0) (C : RoadKit.Fld Z h x ST "coder" "B" c0) (K : RoadKit.Arv Z h b kC .char N (cs.map Value.int) d) (S : RoadKit.Sta Z h ST "COMPACT_STRINGS" "Z" (.int z)) (hz : ¬ z = 0)
    (hn : cs.length = n) (hN : N = Int32.ofNat n) (l0 : 0 < n) (l2 : n ≤ 4000) (hp : ∀ c ∈ cs, ¬ c < 0 ∧ ¬ (255 : Int32) < c) (hb : bs = cs.map (fun c => c.toInt8.toInt32)) (hfr : 4 ≤ R.frames) (hlo : W + 65 ≤ R.locals) :
    Back l R p e below s args (⟨"java/lang/String", "<init>", "([C)V"⟩ : MethodName) len W (fun P a => a = #[.ref x, .ref b] ∧ P.U.heap = h ∧ P.cells + 1 ≤ R.cells ∧ P.slots + n ≤ R.slots)
      (fun P _ v B => ∃ L, QV Z x N bs h n0 v B.U.heap L ∧ B.locs = P.locs ++ L ∧ B.cells = P.cells + 1 ∧ B.slots = P.slots + n) := by
  subst hn hN hb
  refine Back.mono (backArv hZ hw wi E V C K S hz (n32 (by omega)) l0 (by omega) (fun c hc => (hp c hc).2) hfr hlo) (fun P a hp => hp) (fun P a v B hp hq => ?_)
  obtain ⟨L, ⟨q1, q2, q3, q4, q5, q6, q7, ⟨kb, v1, v2⟩, q9⟩, hl, hc, hs⟩ := hq
  exact ⟨L, ⟨q1, fun y hy => by rw [q2 y hy]; exact hx0, q3, q5, q7, h.size, kb, hh0, Nat.le_refl _, Nat.ne_of_gt E.lt, q6, by rw [List.map_map]; exact v2⟩, hl, hc, hs⟩
end StrChars.Road
namespace StrChars
open Jvm Sem ClassFile Op Lib Jvm.Stand Jvm.Free.XT Jvm.Free.ALB Jvm.Free.JM Jvm.Free
open Jvm.Lib.Cold (StaticIs)
def hi8 (x : Int32) : Int32 := lo8 (x >>> ((8 : Int32) &&& 31))
/-- what StringUTF16.getChar makes of two bytes -/
def pairCh (u v : Int32) : Int32 := (((u &&& 255) <<< ((0 : Int32) &&& 31)) ||| ((v &&& 255) <<< ((8 : Int32) &&& 31))).toUInt32.toUInt16.toUInt32.toInt32
theorem lo8_and (x : Int32) : (lo8 x &&& 255).toBitVec.toNat = x.toBitVec.toNat % 256 := by
  have h : (lo8 x).toBitVec = (x.toBitVec.signExtend 8).signExtend 32 := by rw [lo8, Int8.toBitVec_toInt32, Int32.toBitVec_toInt8]
  rw [Int32.toBitVec_and, BitVec.toNat_and, h]
  have e : ((x.toBitVec.signExtend 8).signExtend 32).toNat % 256 = x.toBitVec.toNat % 256 := by
    rw [BitVec.toNat_signExtend]
    have hlt := x.toBitVec.isLt
    simp only [BitVec.toNat_setWidth, BitVec.toNat_signExtend]
    split <;> split <;> omega
  rw [← e]
  exact Nat.and_two_pow_sub_one_eq_mod _ 8
theorem pair_says {c : Int32} (h0 : ¬ c < 0) (h1 : ¬ 65535 < c) : pairCh (lo8 c) (hi8 c) = c := by
  rw [Int32.lt_iff_toInt_lt] at h0 h1
  have e0 : (0 : Int32).toInt = 0 := rfl
  have e1 : (65535 : Int32).toInt = 65535 := rfl
  have hc : c.toInt = c.toBitVec.toNat := by
    have := c.toBitVec.isLt
    have e : c.toInt = c.toBitVec.toInt := rfl
    rw [e] at h0 h1
    rw [e]
    rw [BitVec.toInt_eq_toNat_cond] at h0 h1 ⊢
    split at h0 <;> split <;> omega
  have hn : c.toBitVec.toNat < 65536 := by omega
  have a1 := lo8_and c
  have a2 : (hi8 c &&& 255).toBitVec.toNat = c.toBitVec.toNat / 256 := by
    rw [hi8, lo8_and]
    have e : ((8 : Int32) &&& 31) = 8 := by decide
    rw [e, Int32.toBitVec_shiftRight]
    have e2 : ((8 : Int32).toBitVec.smod 32) = 8#32 := by decide
    rw [e2, BitVec.sshiftRight_eq', BitVec.toNat_sshiftRight_of_msb_false (by rw [BitVec.msb_eq_false_iff_two_mul_lt]; omega)]
    show c.toBitVec.toNat >>> 8 % 256 = _
    rw [Nat.shiftRight_eq_div_pow]
    omega
  unfold pairCh
  apply Int32.toBitVec_inj.mp
  apply BitVec.eq_of_toNat_eq
  have f0 : ((0 : Int32) &&& 31) = 0 := by decide
  have f8 : ((8 : Int32) &&& 31) = 8 := by decide
  rw [f0, f8]
  have g : (((lo8 c &&& 255) <<< (0 : Int32)) ||| ((hi8 c &&& 255) <<< (8 : Int32))).toBitVec.toNat = c.toBitVec.toNat := by
    rw [Int32.toBitVec_or, Int32.toBitVec_shiftLeft, Int32.toBitVec_shiftLeft]
    have s0 : ((0 : Int32).toBitVec.smod 32) = 0#32 := by decide
    have s8 : ((8 : Int32).toBitVec.smod 32) = 8#32 := by decide
    rw [s0, s8, BitVec.toNat_or]
    simp only [BitVec.shiftLeft_eq', BitVec.toNat_shiftLeft, a1, a2]
    show (c.toBitVec.toNat % 256) <<< 0 % 2 ^ 32 ||| (c.toBitVec.toNat / 256) <<< 8 % 2 ^ 32 = _
    rw [Nat.shiftLeft_zero, Nat.mod_eq_of_lt (show c.toBitVec.toNat % 256 < 2 ^ 32 by omega), Nat.mod_eq_of_lt (show (c.toBitVec.toNat / 256) <<< 8 < 2 ^ 32 by rw [Nat.shiftLeft_eq]; omega), Nat.or_comm, ← Nat.shiftLeft_add_eq_or_of_lt (by omega), Nat.shiftLeft_eq]
    omega
  show BitVec.toNat (((((lo8 c &&& 255) <<< (0 : Int32)) ||| ((hi8 c &&& 255) <<< (8 : Int32))).toBitVec.setWidth 16).setWidth 32) = _
  rw [BitVec.toNat_setWidth, BitVec.toNat_setWidth, g]
  omega
end StrChars
namespace StrChars
open Jvm Sem ClassFile Op Lib Jvm.Stand Jvm.Free.XT Jvm.Free.ALB Jvm.Free.JM Jvm.Free
open Jvm.Lib.Cold (StaticIs)
/-- charAt's cast of a byte read back -/
def chr8 (u : Int32) : Int32 := (u &&& 255).toUInt32.toUInt16.toUInt32.toInt32
theorem chr8_lo8 {c : Int32} (h0 : ¬ c < 0) (h1 : ¬ 255 < c) : chr8 (lo8 c) = c := by
  have t : ∀ k : Fin 256, (Int32.ofNat k.val).toUInt32.toUInt16.toUInt32.toInt32 = Int32.ofNat k.val := by decide +kernel
  unfold chr8
  rw [lo8_mask h0 h1]
  rw [Int32.lt_iff_toInt_lt] at h0 h1
  have e0 : (0 : Int32).toInt = 0 := rfl
  have e1 : (255 : Int32).toInt = 255 := rfl
  obtain ⟨k, hk⟩ : ∃ k : Nat, c.toInt = k := ⟨c.toInt.toNat, by omega⟩
  have hx : c = Int32.ofNat k := Int32.toInt_inj.mp (by rw [hk, Int32.toInt_ofNat_small (by omega)])
  rw [hx]
  exact t ⟨k, by omega⟩
theorem narrow_ch {c : Int32} (h0 : ¬ c < 0) (h1 : ¬ 65535 < c) : narrow .char (.int c) = .int c := by
  have q : narrow .char (.int (pairCh (lo8 c) (hi8 c))) = .int (pairCh (lo8 c) (hi8 c)) := narrow_c _
  rwa [pair_says h0 h1] at q
/-- the array's cell V codes the n chars f 0 .. f (n - 1) by the coder cd, as the JDK does: coder 1 just where some char is above 255 -/
def Cod (cd : Int32) (n : Nat) (f : Nat → Int32) (V : Cell) : Prop := (cd = 0 ∧ V.slots.size = n ∧ ∀ j, j < n → V.slots[j]? = some (.int (lo8 (f j))) ∧ ¬ 255 < f j) ∨ (cd = 1 ∧ V.slots.size = 2 * n ∧ (∀ j, j < n → V.slots[2 * j]? = some (.int (lo8 (f j))) ∧ V.slots[2 * j + 1]? = some (.int (hi8 (f j)))) ∧ ∃ j, j < n ∧ 255 < f j)
theorem Cod.cd {cd : Int32} {n : Nat} {f : Nat → Int32} {V : Cell} (h : Cod cd n f V) : cd = 0 ∨ cd = 1 := h.imp (fun q => q.1) fun q => q.1
/-- **x is a String of the n chars f 0 .. f (n - 1)**, Latin-1 or UTF-16; its array at t has the cell V -/
def Txt (x t : Addr) (V : Cell) (cd : Int32) (n : Nat) (f : Nat → Int32) (U : State) : Prop := Exact "java/lang/String" x U ∧ Has x "java/lang/String" "value" "[B" (.ref t) U ∧ Has x "java/lang/String" "coder" "B" (.int cd) U ∧ XT.Arr .byte t V U ∧ Cod cd n f V ∧ ∀ j, j < n → ¬ f j < 0 ∧ ¬ 65535 < f j
theorem Txt.mv {x t : Addr} {V : Cell} {cd : Int32} {n : Nat} {f : Nat → Int32} {U U' : State} (h : Txt x t V cd n f U) (hal : U.vm.Alike U'.vm) (hh : U'.heap = U.heap) : Txt x t V cd n f U' := ⟨h.1.mv hal hh, h.2.1.mv hal hh, h.2.2.1.mv hal hh, h.2.2.2.1.mv hal hh, h.2.2.2.2⟩
namespace IsL
def yN : MethodName := ⟨"java/lang/String", "isLatin1", "()Z"⟩
abbrev yB : ByteArray := jdk_42_method_154_code
theorem d0 : decode yB 0 = .ok (.getstatic 38, 3) := by decide +kernel
theorem d3 : decode yB 3 = .ok (.ifCond (.eq) 14, 3) := by decide +kernel
theorem d6 : decode yB 6 = .ok (.aload_n 0, 1) := by decide +kernel
theorem d7 : decode yB 7 = .ok (.getfield 15, 3) := by decide +kernel
theorem d10 : decode yB 10 = .ok (.ifCond (.ne) 7, 3) := by decide +kernel
theorem d13 : decode yB 13 = .ok (.iconst 1, 1) := by decide +kernel
theorem d14 : decode yB 14 = .ok (.goto 4, 3) := by decide +kernel
theorem d17 : decode yB 17 = .ok (.iconst 0, 1) := by decide +kernel
theorem d18 : decode yB 18 = .ok (.ireturn, 1) := by decide +kernel
def site : List Cond := [.fieldLink "java/lang/String" 38 "java/lang/String" "COMPACT_STRINGS" "Z", .fieldLink "java/lang/String" 15 "java/lang/String" "coder" "B"]
def tab : Cond := tabOf yN yB 1 (some .boolean) site
def P (x : Addr) (cd z : Int32) (args : Array Value) (s : State) : Prop := args = #[.ref x] ∧ Has x "java/lang/String" "coder" "B" (.int cd) s ∧ (cd = 0 ∨ cd = 1) ∧ StaticIs s "java/lang/String" "COMPACT_STRINGS" "Z" (.int z) ∧ ¬ z = 0
def E (cd : Int32) (r : Option Value) (s u : State) : Prop := XT.PureE (some (.int (1 - cd))) r s u
theorem law (l : Launch) (x : Addr) (cd z : Int32) : Law l yN 1 0 0 0 yB 1 (some .boolean) site (P x cd z) (E cd) [] 0 0 := by
  refine Law.of_walk (plainFor_of_name (by decide +kernel)) (by decide +kernel) (by decide +kernel) (by decide) (fun _ _ h => by rw [h.1]; rfl) (fun _ U U' hal hh h => ⟨h.1, h.2.1.mv hal hh, h.2.2.1, h.2.2.2.1.there hal hh, h.2.2.2.2⟩) (fun r U U' V V' h1 hal h2 h => XT.PureE.mv r U U' V V' h1 hal h2 h) ?_
  intro p e s m args below meth c s₁ X0 hexec hbytes hml hret hlk hnm hown hh0 W hP
  obtain ⟨rfl, hx, hc, s1, hz⟩ := hP
  have c1 : Steps p.tables e below (s₁.setTop (entryFrame m #[.ref x] 1)) (s₁.setTop (mkF m 0 #[.val (.ref x)] [])) := entry rfl
  obtain ⟨T2, X2, q2, st2⟩ := X0.sget hexec hown (wk W (.fieldLink "java/lang/String" 38 "java/lang/String" "COMPACT_STRINGS" "Z")) s1 (fun _ _ h => by rw [hh0]; exact h) (g := (mkF m 0 #[.val (.ref x)] [])) rfl (hb hbytes d0)
  have hh2 := q2.trans hh0
  have c3 : Steps p.tables e below (s₁.setTop (entryFrame m #[.ref x] 1)) (T2.setTop (mkF m 7 #[.val (.ref x)] [.ref x])) := (c1.trans (st2 _ (Steps.refl _))).trans (by
    refine XS.ifNo X2.here hexec rfl (hb hbytes d3) rfl (i0_eq_f hz) ?_
    refine XS.aloadN X2.here hexec rfl (hb hbytes d6) rfl rfl ?_
    exact Steps.refl _)
  obtain ⟨T4, X4, q4, st4⟩ := X2.hget hexec hown (wk W (.fieldLink "java/lang/String" 15 "java/lang/String" "coder" "B")) (hx.mv X2.warmed.alike hh2) (g := (mkF m 7 #[.val (.ref x)] [.ref x])) rfl (rest := []) rfl (hb hbytes d7)
  have c5 : Steps p.tables e below (s₁.setTop (entryFrame m #[.ref x] 1)) (T4.setTop (mkF m 10 #[.val (.ref x)] [.int cd])) := c3.trans (st4 _ (Steps.refl _))
  have c6 : Steps p.tables e below (s₁.setTop (entryFrame m #[.ref x] 1)) (T4.setTop (mkF m 18 #[.val (.ref x)] [.int (1 - cd)])) := by
    rcases hc with rfl | rfl
    · exact c5.trans (by
        refine XS.ifNo X4.here hexec rfl (hb hbytes d10) rfl (i0_ne_f rfl) ?_
        refine iconstV X4.here hexec rfl 1 (hb hbytes d13) (by decide) ?_
        refine XS.goto X4.here hexec rfl (pc0 := 14) rfl (hb hbytes d14) (by decide) rfl ?_
        exact Steps.refl _)
    · exact c5.trans (by
        refine XS.ifYes X4.here hexec rfl (pc0 := 10) rfl (hb hbytes d10) rfl (i0_ne_t (by decide)) (by decide) rfl ?_
        refine iconstV X4.here hexec rfl 0 (hb hbytes d17) (by decide) ?_
        exact Steps.refl _)
  exact ⟨T4, some (.int (1 - cd)), _, _, _, X4, rfl, rfl, rfl, (fun h => by cases h), ⟨rfl, q4.trans hh2⟩, fun fs hl => c6.trans (X4.ireturnOut hexec hret (by rcases hc with rfl | rfl <;> rfl) (Or.inr (Or.inl rfl)) (hb hbytes d18) hl)⟩
end IsL
namespace LChA
def yN : MethodName := ⟨"java/lang/StringLatin1", "charAt", "([BI)C"⟩
abbrev yB : ByteArray := jdk_43_method_2_code
theorem d0 : decode yB 0 = .ok (.iload_n 1, 1) := by decide +kernel
theorem d1 : decode yB 1 = .ok (.aload_n 0, 1) := by decide +kernel
theorem d2 : decode yB 2 = .ok (.arraylength, 1) := by decide +kernel
theorem d3 : decode yB 3 = .ok (.invokestatic 9, 3) := by decide +kernel
theorem d6 : decode yB 6 = .ok (.aload_n 0, 1) := by decide +kernel
theorem d7 : decode yB 7 = .ok (.iload_n 1, 1) := by decide +kernel
theorem d8 : decode yB 8 = .ok (.baload, 1) := by decide +kernel
theorem d9 : decode yB 9 = .ok (.sipush 255, 3) := by decide +kernel
theorem d12 : decode yB 12 = .ok (.iand, 1) := by decide +kernel
theorem d13 : decode yB 13 = .ok (.i2c, 1) := by decide +kernel
theorem d14 : decode yB 14 = .ok (.ireturn, 1) := by decide +kernel
def site : List Cond := [JO.Str_checkIndex.tab] ++ staticW "java/lang/StringLatin1" 9 JO.Str_checkIndex.yN
def tab : Cond := tabOf yN yB 2 (some .char) site
def P (t : Addr) (V : Cell) (i : Nat) (u : Int32) (fm : Value) (args : Array Value) (s : State) : Prop := args = #[.ref t, .int (Int32.ofNat i)] ∧ XT.Arr .byte t V s ∧ V.slots[i]? = some (.int u) ∧ (StaticIs s "jdk/internal/util/Preconditions" "SIOOBE_FORMATTER" "Ljava/util/function/BiFunction;" fm ∧ fm.isRef = true)
def E (u : Int32) (r : Option Value) (s w : State) : Prop := XT.PureE (some (.int (chr8 u))) r s w
theorem law (l : Launch) (t : Addr) (V : Cell) (i : Nat) (u : Int32) (fm : Value) : Law l yN 2 2 2 27 yB 2 (some .char) site (P t V i u fm) (E u) [] 0 0 := by
  refine Law.of_walk (plainFor_of_name (by decide +kernel)) (by decide +kernel) (by decide +kernel) (by decide) (fun _ _ h => by rw [h.1]; rfl) (fun _ U U' hal hh h => ⟨h.1, h.2.1.mv hal hh, h.2.2.1, h.2.2.2.1.there hal hh, h.2.2.2.2⟩) (fun r U U' V V' h1 hal h2 h => XT.PureE.mv r U U' V V' h1 hal h2 h) ?_
  intro p e s m args below meth c s₁ X0 hexec hbytes hml hret hlk hnm hown hh0 W hP
  obtain ⟨rfl, hV, hu, s1, rf⟩ := hP
  have v31 := hV.2.2.2
  have hi : i < V.slots.size := (Array.getElem?_eq_some_iff.mp hu).1
  have c1 : Steps p.tables e below (s₁.setTop (entryFrame m #[.ref t, .int (Int32.ofNat i)] 2)) (s₁.setTop (mkF m 0 #[.val (.ref t), .val (.int (Int32.ofNat i))] [])) := entry rfl
  have c2 : Steps p.tables e below (s₁.setTop (entryFrame m #[.ref t, .int (Int32.ofNat i)] 2)) (s₁.setTop (mkF m 3 #[.val (.ref t), .val (.int (Int32.ofNat i))] [.int (Int32.ofNat V.slots.size), .int (Int32.ofNat i)])) := c1.trans (by
    refine XS.iloadN X0.here hexec rfl (hb hbytes d0) rfl ?_
    refine XS.aloadN X0.here hexec rfl (hb hbytes d1) rfl rfl ?_
    refine X0.alen hexec (hV.mv X0.warmed.alike hh0) rfl rfl (hb hbytes d2) ?_
    exact Steps.refl _)
  obtain ⟨v3, T3, X3, E3, g3⟩ := X0.callS hexec (JO.Str_checkIndex.law l (Int32.ofNat i) (Int32.ofNat V.slots.size) fm) hown (wks W (staticW "java/lang/StringLatin1" 9 JO.Str_checkIndex.yN)) (wk W JO.Str_checkIndex.tab) (W := 0) (Nat.le_of_ble_eq_true rfl) (Nat.le_of_ble_eq_true rfl) (Nat.le_refl _) (Nat.le_refl _) (g := (mkF m 3 #[.val (.ref t), .val (.int (Int32.ofNat i))] [.int (Int32.ofNat V.slots.size), .int (Int32.ofNat i)])) rfl (by rw [hml]; rfl) c2 (argsL := [.int (Int32.ofNat i), .int (Int32.ofNat V.slots.size)]) (rest := []) rfl rfl (by show 2 * 0 + 0 ≤ _; decide) (hb hbytes d3) (⟨rfl, rf, s1.there X0.warmed.alike hh0, Int32.ofNat_not_neg (by omega), lt32 v31 hi⟩)
  obtain ⟨rfl, q3⟩ := E3
  have hh3 := q3.trans hh0
  have c4 : Steps p.tables e below (s₁.setTop (entryFrame m #[.ref t, .int (Int32.ofNat i)] 2)) (T3.setTop (mkF m 14 #[.val (.ref t), .val (.int (Int32.ofNat i))] [.int (chr8 u)])) := Steps.trans g3 (by
    refine XS.aloadN X3.here hexec rfl (hb hbytes d6) rfl rfl ?_
    refine XS.iloadN X3.here hexec rfl (hb hbytes d7) rfl ?_
    refine X3.aget hexec (hV.mv X3.warmed.alike hh3) rfl hu rfl rfl (hb hbytes d8) ?_
    refine sipushV X3.here hexec rfl 255 (hb hbytes d9) (by decide) ?_
    refine XS.iand X3.here hexec rfl (hb hbytes d12) rfl ?_
    refine i2c X3.here hexec rfl (hb hbytes d13) rfl ?_
    exact Steps.refl _)
  exact ⟨T3, some (.int (chr8 u)), _, _, _, X3, rfl, rfl, rfl, (fun h => by cases h), ⟨rfl, hh3⟩, fun fs hl => c4.trans (X3.ireturnOut hexec hret (narrow_c _) (Or.inr (Or.inr (Or.inr (Or.inl rfl)))) (hb hbytes d14) hl)⟩
end LChA
end StrChars
namespace StrChars.Road
open Jvm Sem ClassFile Op Lib Jvm.Stand Jvm.Free Jvm.Free.XT
open Jvm.Lib.Cold (StaticIs)
theorem consq {a : Array Value} {s : State} {c : Jvm.Cond} {L : List Jvm.Cond} (h0 : c.before a s = true) (h : ∀ w ∈ L, w.before a s = true) : ∀ w ∈ c :: L, w.before a s = true := fun w hw => (List.mem_cons.mp hw).elim (fun e => e ▸ h0) (h w)
/-- the bytes of the chars cs, low before high -/
def wideBytes : List Int32 → List Value
  | [] => []
  | c :: cs => .int (lo8 c) :: .int (hi8 c) :: wideBytes cs
theorem wide_lo (d : Value) : ∀ (cs : List Int32) (j : Nat), j < cs.length → (wideBytes cs).getD (2 * j) d = .int (lo8 (cs.getD j 0))
  | [], j, h => absurd h (Nat.not_lt_zero j)
  | c :: cs, 0, _ => rfl
  | c :: cs, j + 1, h => by
    have q := wide_lo d cs j (by simpa using h)
    rw [show 2 * (j + 1) = 2 * j + 1 + 1 from by omega]
    simpa [wideBytes] using q
theorem wide_hi (d : Value) : ∀ (cs : List Int32) (j : Nat), j < cs.length → (wideBytes cs).getD (2 * j + 1) d = .int (hi8 (cs.getD j 0))
  | [], j, h => absurd h (Nat.not_lt_zero j)
  | c :: cs, 0, _ => rfl
  | c :: cs, j + 1, h => by
    have q := wide_hi d cs j (by simpa using h)
    rw [show 2 * (j + 1) + 1 = 2 * j + 1 + 1 + 1 from by omega]
    simpa [wideBytes] using q
theorem low_at (d : Value) (cs : List Int32) (j : Nat) (h : j < cs.length) : (cs.map fun c => Value.int (lo8 c)).getD j d = .int (lo8 (cs.getD j 0)) := by
  simp [List.getD_eq_getElem?_getD, h]
/-- an array of N2 bytes vs codes the chars cs by the coder cd -/
def CodA (cs : List Int32) (cd N2 : Int32) (vs : List Value) : Prop := (cd = 0 ∧ N2 = Int32.ofNat cs.length ∧ vs = (cs.map fun c => Value.int (lo8 c)) ∧ ∀ c ∈ cs, ¬ 255 < c) ∨ (cd = 1 ∧ N2 = Int32.ofNat (2 * cs.length) ∧ vs = wideBytes cs ∧ ∃ c ∈ cs, 255 < c)
theorem CodA.cod {cs : List Int32} {cd N2 : Int32} {vs : List Value} {V : Cell} (h : CodA cs cd N2 vs) (hn : 2 * cs.length < 2 ^ 31) (hs : V.slots.size = N2.toNatClampNeg) (hv : RoadKit.Has V vs (.int 0)) : Cod cd cs.length (fun j => cs.getD j 0) V := by
  rcases h with ⟨rfl, rfl, rfl, h⟩ | ⟨rfl, rfl, rfl, c, hc, hw⟩
  · rw [n32 (by omega)] at hs
    exact Or.inl ⟨rfl, hs, fun j hj => ⟨by rw [hv j (by omega), low_at _ _ _ hj], by
      have e : cs.getD j 0 = cs[j] := by simp [List.getD_eq_getElem?_getD, hj]
      show ¬ 255 < cs.getD j 0
      rw [e]; exact h _ (List.getElem_mem _)⟩⟩
  · rw [n32 (by omega)] at hs
    obtain ⟨j, hj, rfl⟩ := List.getElem_of_mem hc
    exact Or.inr ⟨rfl, hs, fun j hj => ⟨by rw [hv _ (by omega), wide_lo _ _ _ hj], by rw [hv _ (by omega), wide_hi _ _ _ hj]⟩, j, hj, by
      have e : cs.getD j 0 = cs[j] := by simp [List.getD_eq_getElem?_getD, hj]
      show 255 < cs.getD j 0
      rw [e]; exact hw⟩
/-- an object of exactly java/lang/String, its two fields found: as the laws ask it -/
theorem strObj {Z U : State} {a0 : Array Value} {kI : Nat} (wi : (Jvm.Cond.instantiable ST kI).before a0 Z = true) (al : Z.vm.Alike U.vm) {x : Addr} {v0 c0 : Value} (E : RoadKit.Exa Z U.heap x ST) (V : RoadKit.Fld Z U.heap x ST "value" "[B" v0) (C : RoadKit.Fld Z U.heap x ST "coder" "B" c0) :
    ∃ (D : Cell) (fV fC : Field), Blank ST x D U ∧ Found ST "value" "[B" fV U ∧ Found ST "coder" "B" fC U ∧ D.slots[fV.slot]? = some v0 ∧ D.slots[fC.slot]? = some c0 ∧ RoadKit.slotOf Z ST "value" "[B" = fV.slot ∧ RoadKit.slotOf Z ST "coder" "B" = fC.slot := by
  obtain ⟨D, cfV, kV, iV, fV, hD, gV, stV, knV, obV, asV, slV⟩ := V
  obtain ⟨D', cfC, kC, iC, fC, hD', gC, stC, -, -, asC, slC⟩ := C
  cases hD.symm.trans hD'
  obtain ⟨D2, kD, e1, e2, e3, e4, e5⟩ := E
  cases hD.symm.trans e1
  obtain ⟨c2, k2, i1, i2, i3, -⟩ := Cond.instantiable_spec wi
  cases e2.symm.trans i1
  cases e3.symm.trans i2
  obtain ⟨kU, u1, u2⟩ := al.2.2 _ _ e3
  exact ⟨D, fV, fC, ⟨hD, ⟨knV, fun q hq => by rw [hq] at obV; cases obV⟩, by rw [al.findClass]; exact e2, kU, u1, by rw [u2]; exact i3, by rw [u2]; exact e5 i3⟩, ⟨SBG.found_only al ⟨cfV, kV, iV, gV⟩, stV⟩, ⟨SBG.found_only al ⟨cfC, kC, iC, gC⟩, stC⟩, slV, slC, by simp [RoadKit.slotOf, gV], by simp [RoadKit.slotOf, gC]⟩
theorem sta_is {Z U : State} (al : Z.vm.Alike U.vm) {C n d : String} {v : Value} (S : RoadKit.Sta Z U.heap C n d v) : StaticIs U C n d v := by
  obtain ⟨cfS, iS, kS, fS, st, cS, t1, t2, t3, t4, t5, t6, t7⟩ := S
  exact StaticIs.there (s := { Z with heap := U.heap }) ⟨cfS, iS, kS, fS, st, cS, t1, t2, t3, t4, t5, (fun q => by rw [q] at t6; cases t6), t7⟩ al rfl
end StrChars.Road
namespace StrChars.Road
open Jvm Sem ClassFile Op Lib Jvm.Stand Jvm.Free Jvm.Free.XT
open Jvm.Lib.Cold (StaticIs)
/-- the road's facts of a String, as the laws ask it -/
theorem txt_of {Z U : State} {a0 : Array Value} {kI : Nat} (wi : (Jvm.Cond.instantiable ST kI).before a0 Z = true) (al : Z.vm.Alike U.vm) {x t : Addr} {kb : ClassId} {cs : List Int32} {cd N2 : Int32} {vs : List Value} (E : RoadKit.Exa Z U.heap x ST) (V : RoadKit.Fld Z U.heap x ST "value" "[B" (.ref t)) (C : RoadKit.Fld Z U.heap x ST "coder" "B" (.int cd)) (K : RoadKit.Arv Z U.heap t kb .byte N2 vs (.int 0)) (hc : CodA cs cd N2 vs) (hb : ∀ c ∈ cs, ¬ c < 0 ∧ ¬ (65535 : Int32) < c) (l2 : cs.length ≤ 4000) :
    ∃ A, Txt x t A cd cs.length (fun j => cs.getD j 0) U := by
  obtain ⟨A, K1, K2, K3, K4, K5, K6⟩ := K
  have hcod := hc.cod (by omega) K3 K5
  obtain ⟨D, fV, fC, hB, F1, F2, g1, g2, -, -⟩ := strObj wi al E V C
  exact ⟨A, ⟨_, hB.2.2.1, D, hB.1, rfl, by cases q : D.vm <;> first | rfl | exact absurd q (hB.2.1.2 _)⟩, Has.of hB F1 g1, Has.of hB F2 g2, ⟨K1.1, State.isArrayOf_alike al K1.2.1, K1.2.2, by rcases hcod with ⟨-, q, -⟩ | ⟨-, q, -⟩ <;> omega⟩, hcod, fun j hj => by
    have e : cs.getD j 0 = cs[j] := by simp [List.getD_eq_getElem?_getD, hj]
    show ¬ cs.getD j 0 < 0 ∧ ¬ 65535 < cs.getD j 0
    rw [e]; exact hb _ (List.getElem_mem _)⟩
end StrChars.Road
namespace StrChars
open Jvm Sem ClassFile Op Lib Jvm.Stand Jvm.Free.XT Jvm.Free.ALB Jvm.Free.JM Jvm.Free
open Jvm.Lib.Cold (StaticIs)
namespace ChN
def yN : MethodName := ⟨"java/lang/String", "charAt", "(I)C"⟩
abbrev yB : ByteArray := jdk_42_method_56_code
theorem d0 : decode yB 0 = .ok (.aload_n 0, 1) := by decide +kernel
theorem d1 : decode yB 1 = .ok (.invokevirtual 492, 3) := by decide +kernel
theorem d4 : decode yB 4 = .ok (.ifCond (.eq) 12, 3) := by decide +kernel
theorem d7 : decode yB 7 = .ok (.aload_n 0, 1) := by decide +kernel
theorem d8 : decode yB 8 = .ok (.getfield 9, 3) := by decide +kernel
theorem d11 : decode yB 11 = .ok (.iload_n 1, 1) := by decide +kernel
theorem d12 : decode yB 12 = .ok (.invokestatic 495, 3) := by decide +kernel
theorem d15 : decode yB 15 = .ok (.ireturn, 1) := by decide +kernel
def site : List Cond := [.fieldLink "java/lang/String" 9 "java/lang/String" "value" "[B", IsL.tab, LChA.tab] ++ virtW "java/lang/String" 492 "java/lang/String" IsL.yN IsL.yN ++ staticW "java/lang/String" 495 LChA.yN
def tab : Cond := tabOf yN yB 2 (some .char) site
def P (x t : Addr) (V : Cell) (n : Nat) (f : Nat → Int32) (z : Int32) (fm : Value) (i : Nat) (args : Array Value) (s : State) : Prop := args = #[.ref x, .int (Int32.ofNat i)] ∧ Txt x t V 0 n f s ∧ i < n ∧ StaticIs s "java/lang/String" "COMPACT_STRINGS" "Z" (.int z) ∧ ¬ z = 0 ∧ StaticIs s "jdk/internal/util/Preconditions" "SIOOBE_FORMATTER" "Ljava/util/function/BiFunction;" fm ∧ fm.isRef = true
def E (f : Nat → Int32) (i : Nat) (r : Option Value) (s u : State) : Prop := XT.PureE (some (.int (f i))) r s u
/-- charAt(i) of a Latin-1 String of n chars, i < n: f i -/
theorem law (l : Launch) (x t : Addr) (V : Cell) (n : Nat) (f : Nat → Int32) (z : Int32) (fm : Value) (i : Nat) : Law l yN 2 1 3 40 yB 2 (some .char) site (P x t V n f z fm i) (E f i) [] 0 0 := by
  refine Law.of_walk (plainFor_of_name (by decide +kernel)) (by decide +kernel) (by decide +kernel) (by decide) (fun _ _ h => by rw [h.1]; rfl) (fun _ U U' hal hh h => ⟨h.1, h.2.1.mv hal hh, h.2.2.1, h.2.2.2.1.there hal hh, h.2.2.2.2.1, h.2.2.2.2.2.1.there hal hh, h.2.2.2.2.2.2⟩) (fun r U U' V V' h1 hal h2 h => XT.PureE.mv r U U' V V' h1 hal h2 h) ?_
  intro p e s m args below meth c s₁ X0 hexec hbytes hml hret hlk hnm hown hh0 W hP
  obtain ⟨rfl, hx, hi, s1, hz, s3, rf⟩ := hP
  have v31 := hx.2.2.2.1.2.2.2
  have hr := hx.2.2.2.2.2 i hi
  have hx0 := hx.mv X0.warmed.alike hh0
  have c1 : Steps p.tables e below (s₁.setTop (entryFrame m #[.ref x, .int (Int32.ofNat i)] 2)) (s₁.setTop (mkF m 1 #[.val (.ref x), .val (.int (Int32.ofNat i))] [.ref x])) := Steps.trans (entry rfl) (by
    show Steps p.tables e below (s₁.setTop (mkF m 0 #[.val (.ref x), .val (.int (Int32.ofNat i))] [])) _
    refine XS.aloadN X0.here hexec rfl (hb hbytes d0) rfl rfl ?_
    exact Steps.refl _)
  obtain ⟨v2, T2, X2, E2, g2⟩ := X0.callV hexec (IsL.law l x 0 z) hown (wks W (virtW "java/lang/String" 492 "java/lang/String" IsL.yN IsL.yN)) rfl (by decide) (wk W IsL.tab) (W := 0) (Nat.le_of_ble_eq_true rfl) (Nat.le_of_ble_eq_true rfl) (Nat.le_refl _) (Nat.le_refl _) (hx0.1.fc X0.warmed.alike) hx0.1.is (g := (mkF m 1 #[.val (.ref x), .val (.int (Int32.ofNat i))] [.ref x])) rfl (by rw [hml]; rfl) c1 (argsL := []) (rest := []) rfl rfl (by show 2 * 0 + 0 ≤ _; decide) (hb hbytes d1) (⟨rfl, hx0.2.2.1, hx.2.2.2.2.1.cd, s1.there X0.warmed.alike hh0, hz⟩)
  obtain ⟨rfl, q2⟩ := E2
  have hh2 := q2.trans hh0
  have hx2 := hx.mv X2.warmed.alike hh2
  obtain ⟨-, k1, k2⟩ | ⟨k0, -⟩ := hx.2.2.2.2.1
  · have c3 : Steps p.tables e below (s₁.setTop (entryFrame m #[.ref x, .int (Int32.ofNat i)] 2)) (T2.setTop (mkF m 8 #[.val (.ref x), .val (.int (Int32.ofNat i))] [.ref x])) := Steps.trans g2 (by
      refine XS.ifNo X2.here hexec rfl (hb hbytes d4) rfl (i0_eq_f (by decide)) ?_
      refine XS.aloadN X2.here hexec rfl (hb hbytes d7) rfl rfl ?_
      exact Steps.refl _)
    obtain ⟨T4, X4, q4, st4⟩ := X2.hget hexec hown (wk W (.fieldLink "java/lang/String" 9 "java/lang/String" "value" "[B")) hx2.2.1 (g := (mkF m 8 #[.val (.ref x), .val (.int (Int32.ofNat i))] [.ref x])) rfl (rest := []) rfl (hb hbytes d8)
    have hh4 := q4.trans hh2
    have c5 : Steps p.tables e below (s₁.setTop (entryFrame m #[.ref x, .int (Int32.ofNat i)] 2)) (T4.setTop (mkF m 12 #[.val (.ref x), .val (.int (Int32.ofNat i))] [.int (Int32.ofNat i), .ref t])) := (c3.trans (st4 _ (Steps.refl _))).trans (by
      refine XS.iloadN X4.here hexec rfl (hb hbytes d11) rfl ?_
      exact Steps.refl _)
    obtain ⟨v6, T6, X6, E6, g6⟩ := X4.callS hexec (LChA.law l t V i (lo8 (f i)) fm) hown (wks W (staticW "java/lang/String" 495 LChA.yN)) (wk W LChA.tab) (W := 0) (Nat.le_of_ble_eq_true rfl) (Nat.le_of_ble_eq_true rfl) (Nat.le_refl _) (Nat.le_refl _) (g := (mkF m 12 #[.val (.ref x), .val (.int (Int32.ofNat i))] [.int (Int32.ofNat i), .ref t])) rfl (by rw [hml]; rfl) c5 (argsL := [.ref t, .int (Int32.ofNat i)]) (rest := []) rfl rfl (by show 2 * 0 + 0 ≤ _; decide) (hb hbytes d12) (⟨rfl, hx.2.2.2.1.mv X4.warmed.alike hh4, (k2 i hi).1, s3.there X4.warmed.alike hh4, rf⟩)
    obtain ⟨rfl, q6⟩ := E6
    rw [chr8_lo8 hr.1 (k2 i hi).2] at g6
    exact ⟨T6, some (.int (f i)), _, _, _, X6, rfl, rfl, rfl, (fun h => by cases h), ⟨rfl, q6.trans hh4⟩, fun fs hl => Steps.trans g6 (X6.ireturnOut hexec hret (narrow_ch hr.1 hr.2) (Or.inr (Or.inr (Or.inr (Or.inl rfl)))) (hb hbytes d15) hl)⟩
  · exact absurd k0 (by decide)
theorem pays {l : Launch} {R : Room} {p : Program} {e : Env} {below : List Frame} {s : State} {sargs : Array Value} {len W : Nat} (x t : Addr) (V : Cell) (n : Nat) (f : Nat → Int32) (z : Int32) (fm : Value) (i : Nat) (htab : tab.before sargs s = true) (hfr : 4 ≤ R.frames) (hlo : W + 53 ≤ R.locals) :
    Back l R p e below s sargs yN len W (fun A₁ a₁ => A₁.cells + 0 ≤ R.cells ∧ A₁.slots + 0 ≤ R.slots ∧ P x t V n f z fm i a₁ A₁.U) (fun A₁ _ v₁ B₁ => E f i v₁ A₁.U B₁.U ∧ B₁.locs = A₁.locs ++ [] ∧ B₁.cells = A₁.cells + 0 ∧ B₁.slots = A₁.slots + 0) :=
  (law l x t V n f z fm i).pays htab hfr (by omega)
end ChN
end StrChars
namespace StrChars.Road
open Jvm Sem ClassFile Op Lib Jvm.Stand Jvm.Free Jvm.Free.XT
open Jvm.Lib.Cold (StaticIs)
/-- the words of String.charAt(int), the Latin-1 road alone -/
abbrev wordsChN : List Jvm.Cond := [.code ChN.yN ChN.yB 2 (some .char), .initialized ST, .fieldLink ST 9 ST "value" "[B", .fieldLink ST 38 ST "COMPACT_STRINGS" "Z", .fieldLink ST 15 ST "coder" "B", .code IsL.yN IsL.yB 1 (some .boolean), .methodLink ST 492 IsL.yN, .declares IsL.yN, .selects ST IsL.yN IsL.yN, .instanceMethod IsL.yN,
  .methodLink ST 495 LChA.yN, .static LChA.yN, .code LChA.yN LChA.yB 2 (some .char), .initialized "java/lang/StringLatin1", .methodLink "java/lang/StringLatin1" 9 JO.Str_checkIndex.yN, .static JO.Str_checkIndex.yN, .code JO.Str_checkIndex.yN JO.Str_checkIndex.yB 2 none,
  .fieldLink ST 1053 "jdk/internal/util/Preconditions" "SIOOBE_FORMATTER" "Ljava/util/function/BiFunction;", .methodLink ST 1059 JC.PreCheck.yN, .static JC.PreCheck.yN, .code JC.PreCheck.yN JC.PreCheck.yB 3 (some .int), .initialized "jdk/internal/util/Preconditions"]
theorem tabChN_of {a : Array Value} {s : State} (h : ∀ w ∈ wordsChN, w.before a s = true) : ChN.tab.before a s = true := by
  have hp : JC.PreCheck.tab.before a s = true := unparts (wk h (.code JC.PreCheck.yN JC.PreCheck.yB 3 (some .int))) (wks h (.initialized JC.PreCheck.yN.cls :: JC.PreCheck.site))
  have qk := consq hp h
  have hk : JO.Str_checkIndex.tab.before a s = true := unparts (wk qk (.code JO.Str_checkIndex.yN JO.Str_checkIndex.yB 2 none)) (wks qk (.initialized JO.Str_checkIndex.yN.cls :: JO.Str_checkIndex.site))
  have ql := consq hk h
  have hl : LChA.tab.before a s = true := unparts (wk ql (.code LChA.yN LChA.yB 2 (some .char))) (wks ql (.initialized LChA.yN.cls :: LChA.site))
  have hi : IsL.tab.before a s = true := unparts (wk h (.code IsL.yN IsL.yB 1 (some .boolean))) (wks h (.initialized IsL.yN.cls :: IsL.site))
  have q := consq hi (consq hl h)
  exact unparts (wk q (.code ChN.yN ChN.yB 2 (some .char))) (wks q (.initialized ChN.yN.cls :: ChN.site))
theorem movedChN {Z s : State} {a0 args : Array Value} (hZ : Z.Warmed39 s.vm) (hw : ∀ d ∈ wordsChN, d.before a0 Z = true) : ∀ d ∈ wordsChN, d.before args s = true := fun d hd => by
  have t : ∀ d ∈ wordsChN, (d.onTables && d.keepsFace) = true := by decide +kernel
  exact RoadKit.mv hZ (hw d hd) (t d hd)
/-- **charAt(i) OF A LATIN-1 STRING**, i < n: the char -/
theorem chN {p : Program} {l : Launch} {e : Env} {R : Room} {s : State} {args : Array Value} {below : List Frame} {len W : Nat} {Z : State} {a0 : Array Value} {h : Heap} (hZ : Z.Warmed39 s.vm) (hw : ∀ d ∈ wordsChN, d.before a0 Z = true) {kI : Nat} (wi : (Jvm.Cond.instantiable ST kI).before a0 Z = true)
    {x t : Addr} {kb : ClassId} {cs : List Int32} {N2 z : Int32} {vs : List Value} {fm : Value} {i : Nat} {j : Int32} (E : RoadKit.Exa Z h x ST) (V : RoadKit.Fld Z h x ST "value" "[B" (.ref t)) (C : RoadKit.Fld Z h x ST "coder" "B" (.int 0)) (K : RoadKit.Arv Z h t kb .byte N2 vs (.int 0)) (hc : CodA cs 0 N2 vs) (hb : ∀ c ∈ cs, ¬ c < 0 ∧ ¬ (65535 : Int32) < c)
    (S : RoadKit.Sta Z h ST "COMPACT_STRINGS" "Z" (.int z)) (hz : ¬ z = 0) (F : RoadKit.Sta Z h "jdk/internal/util/Preconditions" "SIOOBE_FORMATTER" "Ljava/util/function/BiFunction;" fm) (rf : fm.isRef = true) (l2 : cs.length ≤ 4000) (hi : i < cs.length) (hj : j = Int32.ofNat i) (hfr : 4 ≤ R.frames) (hlo : W + 53 ≤ R.locals) :
    Back l R p e below s args (⟨"java/lang/String", "charAt", "(I)C"⟩ : MethodName) len W (fun P a => a = #[.ref x, .int j] ∧ P.U.heap = h ∧ P.cells + 0 ≤ R.cells ∧ P.slots + 0 ≤ R.slots)
      (fun P _ v B => ∃ L, (v = some (.int (cs.getD i 0)) ∧ L = [] ∧ B.U.heap = h) ∧ B.locs = P.locs ++ L ∧ B.cells = P.cells + 0 ∧ B.slots = P.slots + 0) := by
  subst hj
  intro m meth c P g ig mk a X hg hsize hdg hW hn hp'
  obtain ⟨rfl, rfl, r1, r2⟩ := hp'
  have al : Z.vm.Alike P.U.vm := hZ.alike.trans X.warmed.alike
  obtain ⟨A, hx⟩ := txt_of wi al E V C K hc hb l2
  obtain ⟨v, B, X', ⟨⟨hv, hh⟩, hl, hk, hs⟩, st⟩ := ChN.pays x t A cs.length (fun j => cs.getD j 0) z fm i (tabChN_of (movedChN hZ hw)) hfr hlo m meth c P g ig mk _ X hg hsize hdg hW hn ⟨r1, r2, rfl, hx, hi, sta_is al S, hz, sta_is al F, rf⟩
  exact ⟨v, B, X', ⟨[], ⟨hv, rfl, hh⟩, hl, hk, hs⟩, st⟩
/-- what backV says of its String, as the contracts of this text ask it: cs's low bytes, coder 0 -/
theorem codOf {cs : List Int32} {n : Nat} (hn : cs.length = n) (hb : ∀ c ∈ cs, ¬ 255 < c) : CodA cs 0 (Int32.ofNat n) ((cs.map lo8).map Value.int) := Or.inl ⟨rfl, by rw [hn], by simp [List.map_map, Function.comp_def], hb⟩
end StrChars.Road
end Jvm.Pilot.@@N@@

namespace Jvm.Pilot.@@N@@
open Jvm Jvm.ClassFile Sem Op Lib Jvm.Free Jvm.Stand Jvm.LawKit Jvm.RoadKit Bundle Jvm.Pilot.@@N@@.Jvm.D
theorem own_w {Z : State} {a0 : Array Value} (hw : ∀ d ∈ tables_1, d.before a0 Z = true) (i : Nat) {d : Jvm.Cond} (h : tables_1[i]? = some d) : d.before a0 Z = true := hw _ (List.mem_of_getElem? h)
/-! own layer: a body's rest as one predicate (OFin), a contract (OMet), calls that give the plain facts back -/
def OFin (p : Program) (e : Env) (below : List Frame) (s : State) (kc ks : Nat) (Q : Option Value → Heap → List Loc → Prop) (S : State) : Prop :=
  ∃ s₂ o, Steps p.tables e below S s₂ ∧ s₂.status = .running ∧ Ended s₂ below o ∧ ∃ v L, o = .returned v ∧ Q v s₂.heap L ∧ FrameEnd s o s₂ L kc ks
def OMet (l : Launch) (Z : State) (y : MethodName) (bytes : ByteArray) (maxL : Nat) (ret : Option FieldType) (rm : Room) (as' : Array Value) (h0 : Heap) (Q : Option Value → Heap → List Loc → Prop) : Prop :=
  ∀ ws : List Jvm.Cond, MetFree l y (head1 (Jvm.Cond.code y bytes maxL ret :: ws) rm) (fun a U => a = as' ∧ Z.Warmed39 U.vm ∧ U.heap = h0) (fun _ _ _ _ _ => True) (fun _ U o U' => ∃ v L, o = .returned v ∧ Q v U'.heap L ∧ FrameEnd U o U' L rm.cells rm.slots)
def OCtx (Z : State) (p : Program) (s : State) (m : MethodId) (meth : Method) (c : Code) (cls nam : String) (bytes : ByteArray) (maxL : Nat) (ret : Option FieldType) : Prop :=
  p.tables.exec = Jvm.exec ∧ Z.Warmed39 s.vm ∧ c.code = bytes ∧ c.maxLocals = maxL ∧ s.vm.findClass cls = some m.cls ∧ meth.sig.returnType = ret ∧ meth.locks = false ∧ meth.name = nam
section OwnLayer
variable {p : Program} {l : Launch} {e : Env} {R : Room} {s : State} {m : MethodId} {args : Array Value} {below : List Frame} {meth : Method} {c : Code} {T : State} {locs : List Loc} {cells slots : Nat} {Z : State} {a0 : Array Value} {h : Heap}
variable {kc ks : Nat} {Q : Option Value → Heap → List Loc → Prop}
theorem own_st {A B : State} (hs : ∀ t, Steps p.tables e below B t → Steps p.tables e below A t) (k : OFin p e below s kc ks Q B) : OFin p e below s kc ks Q A := by
  obtain ⟨s₂, o, h1, r⟩ := k; exact ⟨s₂, o, hs _ h1, r⟩
theorem own_at {g g' : JFrame} (q : g = g') (k : OFin p e below s kc ks Q (T.setTop g')) : OFin p e below s kc ks Q (T.setTop g) := q ▸ k
theorem own_mono {Q' : Option Value → Heap → List Loc → Prop} {S : State} (k : OFin p e below s kc ks Q S) (q : ∀ v h L, Q v h L → Q' v h L) : OFin p e below s kc ks Q' S := by
  obtain ⟨s₂, o, h1, h2, h3, v, L, h4, h5, h6⟩ := k; exact ⟨s₂, o, h1, h2, h3, v, L, h4, q _ _ _ h5, h6⟩
theorem own_enter {y : MethodName} {bytes : ByteArray} {maxL : Nat} {ret : Option FieldType} {rm : Room} {as' : Array Value} {h0 : Heap} (hp : plainFor y = true)
    (hB : ∀ (p : Program) (e : Env) (s : State) (m : MethodId) (below : List Frame) (meth : Method) (c : Code) (T : State), Stand p l e rm s m as' below meth c T [] 0 0 → OCtx Z p s m meth c y.cls y.name bytes maxL ret → T.heap = h0 → OFin p e below s rm.cells rm.slots Q (T.setTop (entryFrame m as' maxL))) :
    OMet l Z y bytes maxL ret rm as' h0 Q := by
  intro ws
  refine MetFree.of_bodySF hp hisR ?_
  intro p e s m args below meth c s₁ Bd hml0 hP hK
  obtain ⟨rfl, hZ, hh⟩ := hP
  exact hB p e s m below meth c s₁ (Stand.of_body Bd) ⟨Bd.exec, hZ, Bd.bytes, hml0, findClass_of_methodNamed Bd.named, Bd.returns, BodyLoose.notSynchronized Bd, (name_of_methodNamed Bd.named Bd.method).1⟩ (by rw [← hh, Bd.state]; rfl)
theorem own_ret (X : Stand p l e R s m args below meth c T locs cells slots) (hx : p.tables.exec = Jvm.exec) {t : FieldType} (hret : meth.sig.returnType = some t) (hlk : meth.locks = false) {pc : Nat} {Ls : Array Slot} {w : Value} {i : Instr} {rest : List Value} (hn : narrow t w = w)
    (hi : (i = .ireturn ∧ (t = .int ∨ t = .boolean ∨ t = .byte ∨ t = .char ∨ t = .short) ∧ ∃ z, w = .int z) ∨ (i = .lreturn ∧ t = .long ∧ ∃ z, w = .long z) ∨ (i = .dreturn ∧ t = .double ∧ ∃ z, w = .double z) ∨ (i = .freturn ∧ t = .float ∧ ∃ z, w = .float z) ∨ (i = .areturn ∧ t.isReference = true ∧ w.isRef = true))
    (hd : decode c.code pc = .ok (i, 1)) (hc : cells ≤ kc) (hs : slots ≤ ks) (hq : Q (some w) T.heap locs) : OFin p e below s kc ks Q (T.setTop (mkF m pc Ls (w :: rest))) := by
  obtain ⟨fs, hr, hrun, hended, hW, hsame⟩ := X.leave (v := some w) (fun h => by rw [hret] at h; cases h) hlk
  exact ⟨_, _, retOut X hx hret hn hi hd hr, hrun, hended, _, _, rfl, hq, ⟨_, rfl⟩, hW, hsame.mono hc hs⟩
theorem own_retV (X : Stand p l e R s m args below meth c T locs cells slots) (hx : p.tables.exec = Jvm.exec) (hret : meth.sig.returnType = none) (hlk : meth.locks = false) {pc : Nat} {Ls : Array Slot}
    (hd : decode c.code pc = .ok (.return_, 1)) (hc : cells ≤ kc) (hs : slots ≤ ks) (hq : Q none T.heap locs) : OFin p e below s kc ks Q (T.setTop (mkF m pc Ls [])) := by
  obtain ⟨fs, hr, hrun, hended, hW, hsame⟩ := X.leave (v := none) (fun _ => rfl) hlk
  exact ⟨_, _, X.returnOut hx hret hd hr, hrun, hended, _, _, rfl, hq, ⟨_, rfl⟩, hW, hsame.mono hc hs⟩
theorem own_back {y : MethodName} {bytes : ByteArray} {maxL : Nat} {ret : Option FieldType} {rm : Room} {len W : Nat} {as' : Array Value} (hM : OMet l Z y bytes maxL ret rm as' h Q) (hZ : Z.Warmed39 s.vm) (wc : (Jvm.Cond.code y bytes maxL ret).before a0 Z = true) (wz : (Jvm.Cond.initialized y.cls).before a0 Z = true) (hf : rm.frames + 1 ≤ R.frames) (hl : W + (maxL + 11) + rm.locals ≤ R.locals) :
    Back l R p e below s args y len W (fun A a => a = as' ∧ A.U.heap = h ∧ A.cells + rm.cells ≤ R.cells ∧ A.slots + rm.slots ≤ R.slots)
      (fun A _ v B => ∃ L, Q v B.U.heap L ∧ B.locs = A.locs ++ L ∧ B.cells = A.cells + rm.cells ∧ B.slots = A.slots + rm.slots) := backOf (hM []) hZ wc wz hf hl
theorem own_static (X : Stand p l e R s m args below meth c T locs cells slots) (hx : p.tables.exec = Jvm.exec) (hZ : Z.Warmed39 s.vm) {own : String} {index : Nat} {y : MethodName} {bytes : ByteArray} {maxL : Nat} {ret : Option FieldType} {rm : Room} {W : Nat} {argsL rest : List Value}
    (hown : s.vm.findClass own = some m.cls) (w1 : (Jvm.Cond.methodLink own index y).before a0 Z = true) (w2 : (Jvm.Cond.static y).before a0 Z = true) (wz : (Jvm.Cond.initialized y.cls).before a0 Z = true) (wc : (Jvm.Cond.code y bytes maxL ret).before a0 Z = true)
    (hM : OMet l Z y bytes maxL ret rm argsL.toArray h Q) (eT : T.heap = h) {g : JFrame} (hg : g.method = m) (hsize : g.locals.size = c.maxLocals) (hlen : ∀ sig, parseMethodDescriptor y.desc = some sig → argsL.length = sig.parameters.length)
    (hstack : g.stack = argsL.reverse ++ rest) (hW : 2 * g.monitorRoom + (rest.map fun v => v.category).sum ≤ W) (hdg : decode c.code g.pc = .ok (.invokestatic index, 3))
    (hf : rm.frames + 1 ≤ R.frames) (hl : W + (maxL + 11) + rm.locals ≤ R.locals) (hc : cells + rm.cells ≤ R.cells) (hs : slots + rm.slots ≤ R.slots)
    (hy : y.cls ≠ "java/lang/invoke/MethodHandle" ∧ y.cls ≠ "java/lang/invoke/VarHandle" := by decide) :
    ∃ (v : Option Value) (T' : State) (L : List Loc), Stand p l e R s m args below meth c T' (locs ++ L) (cells + rm.cells) (slots + rm.slots) ∧ Q v T'.heap L ∧
      ∀ target, Steps p.tables e below (T'.setTop { g with pc := g.pc + 3, stack := v.toList ++ rest }) target → Steps p.tables e below (T.setTop g) target := by
  obtain ⟨v, vm₁, ⟨T', L', k', n'⟩, -, X', ⟨L, hQ, l1, y1, z1⟩, st⟩ := Jvm.LawKit.callS X hx hown (mvT hZ w1) (mvT hZ w2) (mvT hZ wz) (mvT hZ wc) hy (own_back (W := W) hM hZ wc wz hf hl) hg hsize hlen hstack hW hdg (fun _ _ => ⟨rfl, eT, hc, hs⟩)
  dsimp only [Pt.U, Pt.locs, Pt.cells, Pt.slots] at X' l1 y1 z1 st hQ
  subst l1 y1 z1
  exact ⟨v, T', L, X', hQ, st⟩
theorem own_init (X : Stand p l e R s m args below meth c T locs cells slots) (hx : p.tables.exec = Jvm.exec) (hZ : Z.Warmed39 s.vm) {own : String} {index : Nat} {y : MethodName} {bytes : ByteArray} {maxL : Nat} {rm : Room} {W : Nat} {a : Addr} {argsL rest : List Value} (hy1 : y.name = "<init>")
    (hown : s.vm.findClass own = some m.cls) (w1 : (Jvm.Cond.methodLink own index y).before a0 Z = true) (w2 : (Jvm.Cond.instanceMethod y).before a0 Z = true) (wz : (Jvm.Cond.initialized y.cls).before a0 Z = true) (wc : (Jvm.Cond.code y bytes maxL none).before a0 Z = true)
    (hM : OMet l Z y bytes maxL none rm (.ref a :: argsL).toArray h Q) (eT : T.heap = h) {g : JFrame} (hg : g.method = m) (hsize : g.locals.size = c.maxLocals) (hlen : ∀ sig, parseMethodDescriptor y.desc = some sig → argsL.length = sig.parameters.length)
    (hstack : g.stack = argsL.reverse ++ .ref a :: rest) (hW : 2 * g.monitorRoom + (rest.map fun v => v.category).sum ≤ W) (hdg : decode c.code g.pc = .ok (.invokespecial index, 3))
    (hf : rm.frames + 1 ≤ R.frames) (hl : W + (maxL + 11) + rm.locals ≤ R.locals) (hc : cells + rm.cells ≤ R.cells) (hs : slots + rm.slots ≤ R.slots)
    (hy : y.cls ≠ "java/lang/invoke/MethodHandle" ∧ y.cls ≠ "java/lang/invoke/VarHandle" := by decide) :
    ∃ (v : Option Value) (T' : State) (L : List Loc), Stand p l e R s m args below meth c T' (locs ++ L) (cells + rm.cells) (slots + rm.slots) ∧ Q v T'.heap L ∧
      ∀ target, Steps p.tables e below (T'.setTop { g with pc := g.pc + 3, stack := v.toList ++ rest }) target → Steps p.tables e below (T.setTop g) target := by
  obtain ⟨v, vm₁, ⟨T', L', k', n'⟩, -, X', ⟨L, hQ, l1, y1, z1⟩, st⟩ := X.specialBack hx hy1 hown (mvT hZ w1) (mvT hZ w2) (mvT hZ wc) hy (own_back (W := W) hM hZ wc wz hf hl) hg hsize (Steps.refl _) hlen hstack hW hdg (fun _ _ => ⟨rfl, eT, hc, hs⟩)
  dsimp only [Pt.U, Pt.locs, Pt.cells, Pt.slots] at X' l1 y1 z1 st hQ
  subst l1 y1 z1
  exact ⟨v, T', L, X', hQ, fun t k => st.trans k⟩
theorem own_virtual (X : Stand p l e R s m args below meth c T locs cells slots) (hx : p.tables.exec = Jvm.exec) (hZ : Z.Warmed39 s.vm) {own C : String} {index : Nat} {y z : MethodName} {bytes : ByteArray} {maxL : Nat} {ret : Option FieldType} {rm : Room} {W : Nat} {a : Addr} {argsL rest : List Value}
    (hown : s.vm.findClass own = some m.cls) (w1 : (Jvm.Cond.methodLink own index y).before a0 Z = true) (w2 : (Jvm.Cond.declares y).before a0 Z = true) (hnf : NotFace s y) (w3 : (Jvm.Cond.selects C y z).before a0 Z = true) (w4 : (Jvm.Cond.instanceMethod z).before a0 Z = true) (wz : (Jvm.Cond.initialized z.cls).before a0 Z = true) (wc : (Jvm.Cond.code z bytes maxL ret).before a0 Z = true)
    (hM : OMet l Z z bytes maxL ret rm (.ref a :: argsL).toArray h Q) (eT : T.heap = h) (E : Exa Z h a C) {g : JFrame} (hg : g.method = m) (hsize : g.locals.size = c.maxLocals) (hlen : ∀ sig, parseMethodDescriptor y.desc = some sig → argsL.length = sig.parameters.length)
    (hstack : g.stack = argsL.reverse ++ .ref a :: rest) (hW : 2 * g.monitorRoom + (rest.map fun v => v.category).sum ≤ W) (hdg : decode c.code g.pc = .ok (.invokevirtual index, 3))
    (hf : rm.frames + 1 ≤ R.frames) (hl : W + (maxL + 11) + rm.locals ≤ R.locals) (hc : cells + rm.cells ≤ R.cells) (hs : slots + rm.slots ≤ R.slots)
    (hy : y.cls ≠ "java/lang/invoke/MethodHandle" ∧ y.cls ≠ "java/lang/invoke/VarHandle" := by decide) :
    ∃ (v : Option Value) (T' : State) (L : List Loc), Stand p l e R s m args below meth c T' (locs ++ L) (cells + rm.cells) (slots + rm.slots) ∧ Q v T'.heap L ∧
      ∀ target, Steps p.tables e below (T'.setTop { g with pc := g.pc + 3, stack := v.toList ++ rest }) target → Steps p.tables e below (T.setTop g) target := by
  obtain ⟨cq, kq, qa, qb, qc⟩ := isOf hZ eT E
  obtain ⟨v, vm₁, ⟨T', L', k', n'⟩, -, X', ⟨L, hQ, l1, y1, z1⟩, st⟩ := X.virtualBack hx hown (mvT hZ w1) (mvT hZ w2) hnf (mvT hZ w3) (mvT hZ w4) hy (own_back (W := W) hM hZ wc wz hf hl) qa qc hg hsize (Steps.refl _) hlen hstack hW hdg (fun _ _ => ⟨rfl, eT, hc, hs⟩)
  dsimp only [Pt.U, Pt.locs, Pt.cells, Pt.slots] at X' l1 y1 z1 st hQ
  subst l1 y1 z1
  exact ⟨v, T', L, X', hQ, fun t k => st.trans k⟩
end OwnLayer
/-! own layer 2: an array as a function of the place -/
def OArr (Z : State) (h : Heap) (a : Addr) (ty : FieldType) (N : Nat) (f : Nat → Value) : Prop := ∃ c : Cell, Arr Z h a c ty ∧ c.slots.size = N ∧ N < 2 ^ 31 ∧ ∀ i, i < N → c.slots[i]? = some (f i)
section OwnArr
variable {Z : State} {h h' : Heap} {a b : Addr} {ty : FieldType} {N : Nat} {f : Nat → Value} {ws : List Addr} {sl : Nat} {v : Value}
theorem OArr.lt (F : OArr Z h a ty N f) : a < h.size := by obtain ⟨c, A, -⟩ := F; exact A.lt
theorem OArr.ext (F : OArr Z h a ty N f) (E : Ext h h') : OArr Z h' a ty N f := by obtain ⟨c, A, r⟩ := F; exact ⟨c, A.ext E, r⟩
theorem OArr.other (F : OArr Z h b ty N f) (W : Wr h h' a sl v) (q : b ≠ a) : OArr Z h' b ty N f := by obtain ⟨c, A, r⟩ := F; exact ⟨c, A.other W q, r⟩
theorem OArr.keep (F : OArr Z h a ty N f) (K : Keep h h' ws) (q : a ∉ ws) : OArr Z h' a ty N f := by obtain ⟨c, A, r⟩ := F; exact ⟨c, ⟨K.2.1 a c A.1 q, A.2⟩, r⟩
theorem OArr.set (F : OArr Z h a ty N f) {j : Nat} (W : Wr h h' a j v) : OArr Z h' a ty N (fun i => if i = j then v else f i) := by
  obtain ⟨c, A, S, B, H⟩ := F
  refine ⟨_, A.same W, by rw [sz_set]; exact S, B, fun i hi => ?_⟩
  show (c.slots.setIfInBounds j v)[i]? = some (if i = j then v else f i)
  by_cases q : i = j
  · subst q; simp [S, hi]
  · rw [Array.getElem?_setIfInBounds_ne (Ne.symm q), if_neg q]; exact H i hi
theorem OArr.setI {g : Nat → Int32} (F : OArr Z h a ty N (fun i => .int (g i))) {j : Nat} {x : Int32} (W : Wr h h' a j (.int x)) : OArr Z h' a ty N (fun i => .int (if i = j then x else g i)) := by
  have q := F.set W
  have e : (fun i => if i = j then Value.int x else Value.int (g i)) = fun i => Value.int (if i = j then x else g i) := by funext i; split <;> rfl
  rw [e] at q; exact q
theorem OArr.setJ {g : Nat → Int64} (F : OArr Z h a ty N (fun i => .long (g i))) {j : Nat} {x : Int64} (W : Wr h h' a j (.long x)) : OArr Z h' a ty N (fun i => .long (if i = j then x else g i)) := by
  have q := F.set W
  have e : (fun i => if i = j then Value.long x else Value.long (g i)) = fun i => Value.long (if i = j then x else g i) := by funext i; split <;> rfl
  rw [e] at q; exact q
theorem own_clamp (z : Int32) : z.toNatClampNeg < 2 ^ 31 := by have := z.toInt_lt; simp only [Int32.toNatClampNeg]; omega
theorem OArr.new {k : ClassId} {z : Int32} (A : Arr Z h a (newA k ty z) ty) (q : z.toNatClampNeg = N) : OArr Z h a ty N (fun _ => defaultValue ty) :=
  ⟨_, A, by rw [sz_new]; exact q, by rw [← q]; exact own_clamp z, fun i hi => by rw [← q] at hi; simp [newA, hi]⟩
theorem OArr.of {k : ClassId} {z : Int32} {vs : List Value} {dv : Value} (A : Arv Z h a k ty z vs dv) (q : z.toNatClampNeg = N) (r : ∀ i, i < N → vs.getD i dv = f i) : OArr Z h a ty N f := by
  obtain ⟨c, A1, -, S, -, H, -⟩ := A
  exact ⟨c, A1, by rw [S]; exact q, by rw [← q]; exact own_clamp z, fun i hi => by rw [← r i hi]; exact H i (by rw [S, q]; exact hi)⟩
theorem OArr.congr {g : Nat → Value} (F : OArr Z h a ty N f) (r : ∀ i, i < N → f i = g i) : OArr Z h a ty N g := by
  obtain ⟨c, A, S, B, H⟩ := F; exact ⟨c, A, S, B, fun i hi => by rw [← r i hi]; exact H i hi⟩
theorem own_inb {c : Cell} {j : Int32} {i : Nat} (S : c.slots.size = N) (h0 : ¬ j < 0) (hj : j.toNatClampNeg = i) (hi : i < N) : ¬ (j < 0 ∨ c.slots.size ≤ j.toNatClampNeg) := by
  rintro (q | q)
  · exact h0 q
  · rw [S, hj] at q; omega
theorem own_hv {c : Cell} {j : Int32} {i : Nat} (H : ∀ i, i < N → c.slots[i]? = some (f i)) (hj : j.toNatClampNeg = i) (hi : i < N) : c.slots[j.toNatClampNeg]? = some (f i) := by rw [hj]; exact H i hi
theorem own_len {c : Cell} {z : Int32} (S : c.slots.size = N) (q : N.toInt32 = z) : c.slots.size.toInt32 = z := by rw [S]; exact q
theorem own_wrj {j : Int32} {i : Nat} (W : Wr h h' a j.toNatClampNeg v) (hj : j.toNatClampNeg = i) : Wr h h' a i v := hj ▸ W
theorem own_nb (x : Int32) : nar .byte (x.toInt8.toInt32) = x.toInt8.toInt32 := by show (x.toInt8.toInt32).toInt8.toInt32 = _; simp
theorem own_nwb (x : Int32) : narrow .byte (.int x.toInt8.toInt32) = .int x.toInt8.toInt32 := by show Value.int ((x.toInt8.toInt32).toInt8.toInt32) = _; simp
end OwnArr
/-! own layer 5: a call that a 'Back' of the pasted String laws pays -/
section OwnBack
variable {p : Program} {l : Launch} {e : Env} {R : Room} {s : State} {m : MethodId} {args : Array Value} {below : List Frame} {meth : Method} {c : Code} {T : State} {locs : List Loc} {cells slots : Nat} {Z : State} {a0 : Array Value} {h : Heap}
theorem own_initB (Q : Option Value → Heap → List Loc → Prop) (kc ks : Nat) (X : Stand p l e R s m args below meth c T locs cells slots) (hx : p.tables.exec = Jvm.exec) (hZ : Z.Warmed39 s.vm) {own : String} {index : Nat} {y : MethodName} {bytes : ByteArray} {maxL : Nat} {W : Nat} {a : Addr} {argsL rest : List Value} (hy1 : y.name = "<init>")
    (hown : s.vm.findClass own = some m.cls) (w1 : (Jvm.Cond.methodLink own index y).before a0 Z = true) (w2 : (Jvm.Cond.instanceMethod y).before a0 Z = true) (wc : (Jvm.Cond.code y bytes maxL none).before a0 Z = true)
    (hK : Back l R p e below s args y 3 W (fun A b => b = (.ref a :: argsL).toArray ∧ A.U.heap = h ∧ A.cells + kc ≤ R.cells ∧ A.slots + ks ≤ R.slots) (fun A _ v B => ∃ L, Q v B.U.heap L ∧ B.locs = A.locs ++ L ∧ B.cells = A.cells + kc ∧ B.slots = A.slots + ks))
    (eT : T.heap = h) {g : JFrame} (hg : g.method = m) (hsize : g.locals.size = c.maxLocals) (hlen : ∀ sig, parseMethodDescriptor y.desc = some sig → argsL.length = sig.parameters.length)
    (hstack : g.stack = argsL.reverse ++ .ref a :: rest) (hW : 2 * g.monitorRoom + (rest.map fun v => v.category).sum ≤ W) (hdg : decode c.code g.pc = .ok (.invokespecial index, 3))
    (hc : cells + kc ≤ R.cells) (hs : slots + ks ≤ R.slots)
    (hy : y.cls ≠ "java/lang/invoke/MethodHandle" ∧ y.cls ≠ "java/lang/invoke/VarHandle" := by decide) :
    ∃ (v : Option Value) (T' : State) (L : List Loc), Stand p l e R s m args below meth c T' (locs ++ L) (cells + kc) (slots + ks) ∧ Q v T'.heap L ∧
      ∀ target, Steps p.tables e below (T'.setTop { g with pc := g.pc + 3, stack := v.toList ++ rest }) target → Steps p.tables e below (T.setTop g) target := by
  obtain ⟨v, vm₁, ⟨T', L', k', n'⟩, -, X', ⟨L, hQ, l1, y1, z1⟩, st⟩ := X.specialBack hx hy1 hown (mvT hZ w1) (mvT hZ w2) (mvT hZ wc) hy hK hg hsize (Steps.refl _) hlen hstack hW hdg (fun _ _ => ⟨rfl, eT, hc, hs⟩)
  dsimp only [Pt.U, Pt.locs, Pt.cells, Pt.slots] at X' l1 y1 z1 st hQ
  subst l1 y1 z1
  exact ⟨v, T', L, X', hQ, fun t k => st.trans k⟩
theorem own_virtualB (Q : Option Value → Heap → List Loc → Prop) (kc ks : Nat) (X : Stand p l e R s m args below meth c T locs cells slots) (hx : p.tables.exec = Jvm.exec) (hZ : Z.Warmed39 s.vm) {own C : String} {index : Nat} {y z : MethodName} {W : Nat} {a : Addr} {argsL rest : List Value}
    (hown : s.vm.findClass own = some m.cls) (w1 : (Jvm.Cond.methodLink own index y).before a0 Z = true) (w2 : (Jvm.Cond.declares y).before a0 Z = true) (hnf : NotFace s y) (w3 : (Jvm.Cond.selects C y z).before a0 Z = true) (w4 : (Jvm.Cond.instanceMethod z).before a0 Z = true)
    (hK : Back l R p e below s args z 3 W (fun A b => b = (.ref a :: argsL).toArray ∧ A.U.heap = h ∧ A.cells + kc ≤ R.cells ∧ A.slots + ks ≤ R.slots) (fun A _ v B => ∃ L, Q v B.U.heap L ∧ B.locs = A.locs ++ L ∧ B.cells = A.cells + kc ∧ B.slots = A.slots + ks))
    (eT : T.heap = h) (E : Exa Z h a C) {g : JFrame} (hg : g.method = m) (hsize : g.locals.size = c.maxLocals) (hlen : ∀ sig, parseMethodDescriptor y.desc = some sig → argsL.length = sig.parameters.length)
    (hstack : g.stack = argsL.reverse ++ .ref a :: rest) (hW : 2 * g.monitorRoom + (rest.map fun v => v.category).sum ≤ W) (hdg : decode c.code g.pc = .ok (.invokevirtual index, 3))
    (hc : cells + kc ≤ R.cells) (hs : slots + ks ≤ R.slots)
    (hy : y.cls ≠ "java/lang/invoke/MethodHandle" ∧ y.cls ≠ "java/lang/invoke/VarHandle" := by decide) :
    ∃ (v : Option Value) (T' : State) (L : List Loc), Stand p l e R s m args below meth c T' (locs ++ L) (cells + kc) (slots + ks) ∧ Q v T'.heap L ∧
      ∀ target, Steps p.tables e below (T'.setTop { g with pc := g.pc + 3, stack := v.toList ++ rest }) target → Steps p.tables e below (T.setTop g) target := by
  obtain ⟨cq, kq, qa, qb, qc⟩ := isOf hZ eT E
  obtain ⟨v, vm₁, ⟨T', L', k', n'⟩, -, X', ⟨L, hQ, l1, y1, z1⟩, st⟩ := X.virtualBack hx hown (mvT hZ w1) (mvT hZ w2) hnf (mvT hZ w3) (mvT hZ w4) hy hK qa qc hg hsize (Steps.refl _) hlen hstack hW hdg (fun _ _ => ⟨rfl, eT, hc, hs⟩)
  dsimp only [Pt.U, Pt.locs, Pt.cells, Pt.slots] at X' l1 y1 z1 st hQ
  subst l1 y1 z1
  exact ⟨v, T', L, X', hQ, fun t k => st.trans k⟩
end OwnBack
theorem own_pn1 : plainFor (⟨"io/countersign/TimestampFormReadDigitsPinLaw", "ch", "(JI)C"⟩ : MethodName) = true := plainFor_of_name (by first | (simp [plainName, overriddenIn]; done) | decide +kernel)
theorem own_ef1_JI (m : MethodId) (x0 : Int64) (x1 : Int32) : entryFrame m #[(.long x0), (.int x1)] 5 = mkF m 0 #[.val (.long x0), .second, .val (.int x1), .unset, .unset] [] := by first | (simp [entryFrame, mkF, argsToLocals, Value.category]; done) | rfl
theorem own_d1_0 : decode method_3_code 0 = .ok (.lload_n 0, 1) := by decide +kernel
theorem own_d1_1 : decode method_3_code 1 = .ok (.bipush 9, 2) := by decide +kernel
theorem own_d1_3 : decode method_3_code 3 = .ok (.iload_n 2, 1) := by decide +kernel
theorem own_d1_4 : decode method_3_code 4 = .ok (.imul, 1) := by decide +kernel
theorem own_d1_5 : decode method_3_code 5 = .ok (.lushr, 1) := by decide +kernel
theorem own_d1_6 : decode method_3_code 6 = .ok (.ldc2_w 37, 3) := by decide +kernel
theorem own_d1_9 : decode method_3_code 9 = .ok (.land, 1) := by decide +kernel
theorem own_d1_10 : decode method_3_code 10 = .ok (.l2i, 1) := by decide +kernel
theorem own_d1_11 : decode method_3_code 11 = .ok (.istore_n 3, 1) := by decide +kernel
theorem own_d1_12 : decode method_3_code 12 = .ok (.lload_n 0, 1) := by decide +kernel
theorem own_d1_13 : decode method_3_code 13 = .ok (.bipush 9, 2) := by decide +kernel
theorem own_d1_15 : decode method_3_code 15 = .ok (.iload_n 2, 1) := by decide +kernel
theorem own_d1_16 : decode method_3_code 16 = .ok (.imul, 1) := by decide +kernel
theorem own_d1_17 : decode method_3_code 17 = .ok (.bipush 8, 2) := by decide +kernel
theorem own_d1_19 : decode method_3_code 19 = .ok (.iadd, 1) := by decide +kernel
theorem own_d1_20 : decode method_3_code 20 = .ok (.lushr, 1) := by decide +kernel
theorem own_d1_21 : decode method_3_code 21 = .ok (.lconst 1, 1) := by decide +kernel
theorem own_d1_22 : decode method_3_code 22 = .ok (.land, 1) := by decide +kernel
theorem own_d1_23 : decode method_3_code 23 = .ok (.lconst 0, 1) := by decide +kernel
theorem own_d1_24 : decode method_3_code 24 = .ok (.lcmp, 1) := by decide +kernel
theorem own_d1_25 : decode method_3_code 25 = .ok (.ifCond .eq 7, 3) := by decide +kernel
theorem own_d1_32 : decode method_3_code 32 = .ok (.iconst 0, 1) := by decide +kernel
theorem own_d1_33 : decode method_3_code 33 = .ok (.istore 4, 2) := by decide +kernel
theorem own_d1_35 : decode method_3_code 35 = .ok (.iload 4, 2) := by decide +kernel
theorem own_d1_37 : decode method_3_code 37 = .ok (.ifCond .eq 14, 3) := by decide +kernel
theorem own_d1_51 : decode method_3_code 51 = .ok (.iload_n 3, 1) := by decide +kernel
theorem own_d1_52 : decode method_3_code 52 = .ok (.i2c, 1) := by decide +kernel
theorem own_d1_53 : decode method_3_code 53 = .ok (.ireturn, 1) := by decide +kernel
theorem own_d1_28 : decode method_3_code 28 = .ok (.iconst 1, 1) := by decide +kernel
theorem own_d1_29 : decode method_3_code 29 = .ok (.goto 4, 3) := by decide +kernel
theorem own_d1_40 : decode method_3_code 40 = .ok (.bipush 48, 2) := by decide +kernel
theorem own_d1_42 : decode method_3_code 42 = .ok (.iload_n 3, 1) := by decide +kernel
theorem own_d1_43 : decode method_3_code 43 = .ok (.bipush 10, 2) := by decide +kernel
theorem own_d1_45 : decode method_3_code 45 = .ok (.irem, 1) := by decide +kernel
theorem own_d1_46 : decode method_3_code 46 = .ok (.iadd, 1) := by decide +kernel
theorem own_d1_47 : decode method_3_code 47 = .ok (.i2c, 1) := by decide +kernel
theorem own_d1_48 : decode method_3_code 48 = .ok (.goto 5, 3) := by decide +kernel
theorem own_pn2 : plainFor (⟨"io/countersign/TimestampFormReadDigitsPinLaw", "fine", "([CIII)Z"⟩ : MethodName) = true := plainFor_of_name (by first | (simp [plainName, overriddenIn]; done) | decide +kernel)
theorem own_ef2_RIII (m : MethodId) (x0 : Addr) (x1 : Int32) (x2 : Int32) (x3 : Int32) : entryFrame m #[(.ref x0), (.int x1), (.int x2), (.int x3)] 5 = mkF m 0 #[.val (.ref x0), .val (.int x1), .val (.int x2), .val (.int x3), .unset] [] := by first | (simp [entryFrame, mkF, argsToLocals, Value.category]; done) | rfl
theorem own_d2_0 : decode method_4_code 0 = .ok (.iload_n 3, 1) := by decide +kernel
theorem own_d2_1 : decode method_4_code 1 = .ok (.iload_n 2, 1) := by decide +kernel
theorem own_d2_2 : decode method_4_code 2 = .ok (.if_icmp .lt 5, 3) := by decide +kernel
theorem own_d2_7 : decode method_4_code 7 = .ok (.aload_n 0, 1) := by decide +kernel
theorem own_d2_8 : decode method_4_code 8 = .ok (.iload_n 1, 1) := by decide +kernel
theorem own_d2_9 : decode method_4_code 9 = .ok (.iload_n 3, 1) := by decide +kernel
theorem own_d2_10 : decode method_4_code 10 = .ok (.iadd, 1) := by decide +kernel
theorem own_d2_11 : decode method_4_code 11 = .ok (.caload, 1) := by decide +kernel
theorem own_d2_12 : decode method_4_code 12 = .ok (.istore 4, 2) := by decide +kernel
theorem own_d2_14 : decode method_4_code 14 = .ok (.iload 4, 2) := by decide +kernel
theorem own_d2_16 : decode method_4_code 16 = .ok (.bipush 48, 2) := by decide +kernel
theorem own_d2_18 : decode method_4_code 18 = .ok (.if_icmp .lt 14, 3) := by decide +kernel
theorem own_d2_32 : decode method_4_code 32 = .ok (.iconst 0, 1) := by decide +kernel
theorem own_d2_33 : decode method_4_code 33 = .ok (.ireturn, 1) := by decide +kernel
theorem own_d2_21 : decode method_4_code 21 = .ok (.iload 4, 2) := by decide +kernel
theorem own_d2_23 : decode method_4_code 23 = .ok (.bipush 57, 2) := by decide +kernel
theorem own_d2_25 : decode method_4_code 25 = .ok (.if_icmp .gt 7, 3) := by decide +kernel
theorem own_d2_28 : decode method_4_code 28 = .ok (.iconst 1, 1) := by decide +kernel
theorem own_d2_29 : decode method_4_code 29 = .ok (.goto 4, 3) := by decide +kernel
theorem own_d2_5 : decode method_4_code 5 = .ok (.iconst 1, 1) := by decide +kernel
theorem own_d2_6 : decode method_4_code 6 = .ok (.ireturn, 1) := by decide +kernel
theorem own_pn3 : plainFor (⟨"io/countersign/TimestampFormReadDigitsPinLaw", "term", "([CIII[I)J"⟩ : MethodName) = true := plainFor_of_name (by first | (simp [plainName, overriddenIn]; done) | decide +kernel)
theorem own_ef3_RIIIR (m : MethodId) (x0 : Addr) (x1 : Int32) (x2 : Int32) (x3 : Int32) (x4 : Addr) : entryFrame m #[(.ref x0), (.int x1), (.int x2), (.int x3), (.ref x4)] 5 = mkF m 0 #[.val (.ref x0), .val (.int x1), .val (.int x2), .val (.int x3), .val (.ref x4)] [] := by first | (simp [entryFrame, mkF, argsToLocals, Value.category]; done) | rfl
theorem own_d3_0 : decode method_5_code 0 = .ok (.iload_n 3, 1) := by decide +kernel
theorem own_d3_1 : decode method_5_code 1 = .ok (.iload_n 2, 1) := by decide +kernel
theorem own_d3_2 : decode method_5_code 2 = .ok (.if_icmp .lt 5, 3) := by decide +kernel
theorem own_d3_7 : decode method_5_code 7 = .ok (.aload_n 0, 1) := by decide +kernel
theorem own_d3_8 : decode method_5_code 8 = .ok (.iload_n 1, 1) := by decide +kernel
theorem own_d3_9 : decode method_5_code 9 = .ok (.iload_n 3, 1) := by decide +kernel
theorem own_d3_10 : decode method_5_code 10 = .ok (.iadd, 1) := by decide +kernel
theorem own_d3_11 : decode method_5_code 11 = .ok (.caload, 1) := by decide +kernel
theorem own_d3_12 : decode method_5_code 12 = .ok (.bipush 48, 2) := by decide +kernel
theorem own_d3_14 : decode method_5_code 14 = .ok (.isub, 1) := by decide +kernel
theorem own_d3_15 : decode method_5_code 15 = .ok (.i2l, 1) := by decide +kernel
theorem own_d3_16 : decode method_5_code 16 = .ok (.aload 4, 2) := by decide +kernel
theorem own_d3_18 : decode method_5_code 18 = .ok (.iload_n 2, 1) := by decide +kernel
theorem own_d3_19 : decode method_5_code 19 = .ok (.iconst 1, 1) := by decide +kernel
theorem own_d3_20 : decode method_5_code 20 = .ok (.isub, 1) := by decide +kernel
theorem own_d3_21 : decode method_5_code 21 = .ok (.iload_n 3, 1) := by decide +kernel
theorem own_d3_22 : decode method_5_code 22 = .ok (.isub, 1) := by decide +kernel
theorem own_d3_23 : decode method_5_code 23 = .ok (.iaload, 1) := by decide +kernel
theorem own_d3_24 : decode method_5_code 24 = .ok (.i2l, 1) := by decide +kernel
theorem own_d3_25 : decode method_5_code 25 = .ok (.lmul, 1) := by decide +kernel
theorem own_d3_26 : decode method_5_code 26 = .ok (.lreturn, 1) := by decide +kernel
theorem own_d3_5 : decode method_5_code 5 = .ok (.lconst 0, 1) := by decide +kernel
theorem own_d3_6 : decode method_5_code 6 = .ok (.lreturn, 1) := by decide +kernel
theorem own_d10_5 : decode prog_24_method_4_code 5 = .ok (.iload 4, 2) := by decide +kernel
theorem own_d10_7 : decode prog_24_method_4_code 7 = .ok (.iload_n 1, 1) := by decide +kernel
theorem own_d10_8 : decode prog_24_method_4_code 8 = .ok (.iload_n 2, 1) := by decide +kernel
theorem own_d10_9 : decode prog_24_method_4_code 9 = .ok (.iadd, 1) := by decide +kernel
theorem own_d10_10 : decode prog_24_method_4_code 10 = .ok (.if_icmp .ge 42, 3) := by decide +kernel
theorem own_d10_52 : decode prog_24_method_4_code 52 = .ok (.iload_n 3, 1) := by decide +kernel
theorem own_d10_53 : decode prog_24_method_4_code 53 = .ok (.ireturn, 1) := by decide +kernel
theorem own_d10_13 : decode prog_24_method_4_code 13 = .ok (.aload_n 0, 1) := by decide +kernel
theorem own_d10_14 : decode prog_24_method_4_code 14 = .ok (.iload 4, 2) := by decide +kernel
theorem own_d10_16 : decode prog_24_method_4_code 16 = .ok (.invokevirtual 54, 3) := by decide +kernel
theorem own_pd0 : parseMethodDescriptor "(I)C" = some ⟨[.int], some .char⟩ := by decide +kernel
theorem own_d10_19 : decode prog_24_method_4_code 19 = .ok (.bipush 48, 2) := by decide +kernel
theorem own_d10_21 : decode prog_24_method_4_code 21 = .ok (.isub, 1) := by decide +kernel
theorem own_d10_22 : decode prog_24_method_4_code 22 = .ok (.istore 5, 2) := by decide +kernel
theorem own_d10_24 : decode prog_24_method_4_code 24 = .ok (.iload 5, 2) := by decide +kernel
theorem own_d10_26 : decode prog_24_method_4_code 26 = .ok (.ifCond .lt 10, 3) := by decide +kernel
theorem own_d10_36 : decode prog_24_method_4_code 36 = .ok (.iconst (-1), 1) := by decide +kernel
theorem own_d10_37 : decode prog_24_method_4_code 37 = .ok (.ireturn, 1) := by decide +kernel
theorem own_d10_29 : decode prog_24_method_4_code 29 = .ok (.iload 5, 2) := by decide +kernel
theorem own_d10_31 : decode prog_24_method_4_code 31 = .ok (.bipush 9, 2) := by decide +kernel
theorem own_d10_33 : decode prog_24_method_4_code 33 = .ok (.if_icmp .le 5, 3) := by decide +kernel
theorem own_d10_38 : decode prog_24_method_4_code 38 = .ok (.iload_n 3, 1) := by decide +kernel
theorem own_d10_39 : decode prog_24_method_4_code 39 = .ok (.bipush 10, 2) := by decide +kernel
theorem own_d10_41 : decode prog_24_method_4_code 41 = .ok (.imul, 1) := by decide +kernel
theorem own_d10_42 : decode prog_24_method_4_code 42 = .ok (.iload 5, 2) := by decide +kernel
theorem own_d10_44 : decode prog_24_method_4_code 44 = .ok (.iadd, 1) := by decide +kernel
theorem own_d10_45 : decode prog_24_method_4_code 45 = .ok (.istore_n 3, 1) := by decide +kernel
theorem own_d10_46 : decode prog_24_method_4_code 46 = .ok (.iinc 4 1, 3) := by decide +kernel
theorem own_d10_49 : decode prog_24_method_4_code 49 = .ok (.goto (-44), 3) := by decide +kernel
theorem own_pn10 : plainFor (⟨"io/countersign/TimestampForm", "readDigits", "(Ljava/lang/String;II)I"⟩ : MethodName) = true := plainFor_of_name (by first | (simp [plainName, overriddenIn]; done) | decide +kernel)
theorem own_ef10_RII (m : MethodId) (x0 : Addr) (x1 : Int32) (x2 : Int32) : entryFrame m #[(.ref x0), (.int x1), (.int x2)] 6 = mkF m 0 #[.val (.ref x0), .val (.int x1), .val (.int x2), .unset, .unset, .unset] [] := by first | (simp [entryFrame, mkF, argsToLocals, Value.category]; done) | rfl
theorem own_d10_0 : decode prog_24_method_4_code 0 = .ok (.iconst 0, 1) := by decide +kernel
theorem own_d10_1 : decode prog_24_method_4_code 1 = .ok (.istore_n 3, 1) := by decide +kernel
theorem own_d10_2 : decode prog_24_method_4_code 2 = .ok (.iload_n 1, 1) := by decide +kernel
theorem own_d10_3 : decode prog_24_method_4_code 3 = .ok (.istore 4, 2) := by decide +kernel
theorem own_pd1 : parseMethodDescriptor "([CIII[I)J" = some ⟨[(.array .char), .int, .int, .int, (.array .int)], some .long⟩ := by decide +kernel
theorem own_pd2 : parseMethodDescriptor "([C)V" = some ⟨[(.array .char)], none⟩ := by decide +kernel
theorem own_pd3 : parseMethodDescriptor "(Ljava/lang/String;II)I" = some ⟨[(.object "java/lang/String"), .int, .int], some .int⟩ := by decide +kernel
theorem own_pd4 : parseMethodDescriptor "([CIII)Z" = some ⟨[(.array .char), .int, .int, .int], some .boolean⟩ := by decide +kernel
theorem own_pn0 : plainFor (⟨"io/countersign/TimestampFormReadDigitsPinLaw", "law", "(JJII)Z"⟩ : MethodName) = true := plainFor_of_name (by first | (simp [plainName, overriddenIn]; done) | decide +kernel)
theorem own_ef0_JJII (m : MethodId) (x0 : Int64) (x1 : Int64) (x2 : Int32) (x3 : Int32) : entryFrame m #[(.long x0), (.long x1), (.int x2), (.int x3)] maxLocals = mkF m 0 #[.val (.long x0), .second, .val (.long x1), .second, .val (.int x2), .val (.int x3), .unset, .unset, .unset, .unset, .unset, .unset, .unset, .unset, .unset] [] := by first | (simp [entryFrame, mkF, argsToLocals, Value.category, maxLocals]; done) | rfl
theorem own_pd5 : parseMethodDescriptor "(JI)C" = some ⟨[.long, .int], some .char⟩ := by decide +kernel
def own_b (q : Int64) (k : Int32) : Int32 := (((q.toUInt64 >>> ((9 * k) &&& 0x3f).toInt64.toUInt64).toInt64) &&& 255).toInt32
def own_mo (q : Int64) (k : Int32) : Int32 := lcmpW (((q.toUInt64 >>> (((9 * k) + 8) &&& 0x3f).toInt64.toUInt64).toInt64) &&& 1) 0
def own_ch (q : Int64) (k : Int32) : Int32 := if own_mo q k = 0 then (own_b q k).toUInt32.toUInt16.toUInt32.toInt32 else (48 + (own_b q k % 10)).toUInt32.toUInt16.toUInt32.toInt32
theorem own_u16 (x : Int32) : ¬ x.toUInt32.toUInt16.toUInt32.toInt32 < 0 ∧ x.toUInt32.toUInt16.toUInt32.toInt32.toBitVec.toNat = x.toBitVec.toNat % 65536 := by
  have e : x.toUInt32.toUInt16.toUInt32.toInt32.toBitVec.toNat = x.toUInt32.toUInt16.toNat := UInt16.toNat_toUInt32 _
  have e2 : x.toUInt32.toUInt16.toNat = x.toBitVec.toNat % 65536 := UInt32.toNat_toUInt16 _
  have h := x.toUInt32.toUInt16.toNat_lt
  refine ⟨?_, by rw [e, e2]⟩
  rw [Int32.lt_iff_toInt_lt, show x.toUInt32.toUInt16.toUInt32.toInt32.toInt = x.toUInt32.toUInt16.toUInt32.toInt32.toBitVec.toInt from rfl, BitVec.toInt_eq_toNat_bmod, e, Int.bmod_def]
  show ¬ _ < 0
  omega
theorem own_i2c {x : Int32} (h0 : 0 ≤ x.toInt) (h1 : x.toInt ≤ 255) : x.toUInt32.toUInt16.toUInt32.toInt32 = x := by
  apply Int32.toInt_inj.mp
  have e := (own_u16 x).2
  have hn : x.toInt = x.toBitVec.toNat := by
    rw [show x.toInt = x.toBitVec.toInt from rfl, BitVec.toInt_eq_toNat_cond]
    rw [show x.toInt = x.toBitVec.toInt from rfl, BitVec.toInt_eq_toNat_cond] at h0
    split
    · rfl
    · rename_i hq; rw [if_neg hq] at h0; have := x.toBitVec.isLt; omega
  rw [show x.toUInt32.toUInt16.toUInt32.toInt32.toInt = x.toUInt32.toUInt16.toUInt32.toInt32.toBitVec.toInt from rfl, BitVec.toInt_eq_toNat_cond, e]
  split <;> omega
theorem own_b_r (q : Int64) (k : Int32) : 0 ≤ (own_b q k).toInt ∧ (own_b q k).toInt ≤ 255 := by
  unfold own_b
  generalize (q.toUInt64 >>> ((9 * k) &&& 0x3f).toInt64.toUInt64).toInt64 = y
  have e : (y &&& 255).toInt = y.toInt % 2 ^ 8 := Jvm.Kit.i64_mask y 255 (k := 8) (by decide) (by decide)
  rw [Jvm.Kit.i32_of_i64 (by omega) (by omega)]
  omega
theorem own_ch_r (q : Int64) (k : Int32) : 0 ≤ (own_ch q k).toInt ∧ (own_ch q k).toInt ≤ 255 := by
  have h := own_b_r q k
  unfold own_ch
  generalize own_b q k = b at h
  split
  · rw [own_i2c h.1 h.2]; exact h
  · have e : (b % 10).toInt = b.toInt % 10 := by rw [Int32.toInt_mod]; show Int.tmod _ 10 = _; exact Int.tmod_eq_emod_of_nonneg h.1
    have e2 : (48 + b % 10).toInt = 48 + b.toInt % 10 := by rw [Jvm.Kit.i32_add (by show _ ≤ 48 + _; omega) (by show 48 + _ < _; omega), e]; rfl
    rw [own_i2c (by omega) (by omega)]; omega
theorem own_nwc0 (u : UInt32) : u % 65536 % 65536 = u % 65536 := UInt32.toNat_inj.1 (by rw [UInt32.toNat_mod, UInt32.toNat_mod]; exact Nat.mod_mod _ _)
theorem own_nwc (x : Int32) : narrow .char (.int x.toUInt32.toUInt16.toUInt32.toInt32) = .int x.toUInt32.toUInt16.toUInt32.toInt32 := by
  show Value.int (x.toUInt32.toUInt16.toUInt32.toInt32.toUInt32.toUInt16.toUInt32.toInt32) = _
  simp [own_nwc0]
def own_fi (ct j x : Int32) : Int32 := if j < ct then (if x < 48 then 0 else if 57 < x then 0 else 1) else 1
def own_te (ct j x pw : Int32) : Int64 := if j < ct then (x - 48).toInt64 * pw.toInt64 else 0
def own_pw : Nat → Int32
  | 0 => 1
  | n + 1 => own_pw n * 10
def own_rd (f : Nat → Int32) : Nat → Nat → Int32 → Int32
  | 0, _, v => v
  | n + 1, i, v => if f i - 48 < 0 then -1 else if 9 < f i - 48 then -1 else own_rd f n (i + 1) (v * 10 + (f i - 48))
def own_sum (f : Nat → Int32) : Nat → Nat → Int32
  | 0, _ => 0
  | n + 1, i => (f i - 48) * own_pw n + own_sum f n (i + 1)
def own_T (f : Nat → Int32) (sn cn j : Nat) : Int64 := own_te (Int32.ofNat cn) (Int32.ofNat j) (f (sn + j)) (own_pw (cn - 1 - j))
def own_g (f : Nat → Int32) (sn cn j : Nat) : Int32 := own_fi (Int32.ofNat cn) (Int32.ofNat j) (f (sn + j))
def own_tot (f : Nat → Int32) (sn cn : Nat) : Int64 := own_T f sn cn 0 + own_T f sn cn 1 + own_T f sn cn 2 + own_T f sn cn 3 + own_T f sn cn 4 + own_T f sn cn 5 + own_T f sn cn 6 + own_T f sn cn 7 + own_T f sn cn 8
theorem own_lt {a b : Int32} : a < b ↔ a.toInt < b.toInt := Int32.lt_iff_toInt_lt
theorem own_tn {a : Nat} (ha : a < 1000) : (Int32.ofNat a).toInt = a := Int32.toInt_ofNat_small (by omega)
theorem own_nlt {a b : Nat} (ha : a < 1000) (hb : b < 1000) : Int32.ofNat a < Int32.ofNat b ↔ a < b := by rw [own_lt, own_tn ha, own_tn hb]; omega
theorem own_d48 {x : Int32} (h : 0 ≤ x.toInt ∧ x.toInt ≤ 255) : (x - 48 < 0 ↔ x < 48) ∧ (9 < x - 48 ↔ 57 < x) := by
  have e : (x - 48).toInt = x.toInt - 48 := Jvm.Kit.i32_sub (by show _ ≤ _ - 48; omega) (by show _ - 48 < _; omega)
  rw [own_lt, own_lt, own_lt, own_lt, e]
  have e0 : (0 : Int32).toInt = 0 := rfl
  have e1 : (48 : Int32).toInt = 48 := rfl
  have e2 : (9 : Int32).toInt = 9 := rfl
  have e3 : (57 : Int32).toInt = 57 := rfl
  rw [e0, e1, e2, e3]; omega
theorem own_bad {f : Nat → Int32} (hf : ∀ j, 0 ≤ (f j).toInt ∧ (f j).toInt ≤ 255) : ∀ (n i : Nat) (v : Int32), (∃ k, k < n ∧ (f (i + k) < 48 ∨ 57 < f (i + k))) → own_rd f n i v = -1
  | 0, _, _, ⟨k, hk, _⟩ => absurd hk (Nat.not_lt_zero k)
  | n + 1, i, v, ⟨k, hk, hb⟩ => by
    obtain ⟨d1, d2⟩ := own_d48 (hf i)
    show (if f i - 48 < 0 then -1 else if 9 < f i - 48 then -1 else own_rd f n (i + 1) (v * 10 + (f i - 48))) = -1
    by_cases c1 : f i - 48 < 0
    · rw [if_pos c1]
    · rw [if_neg c1]
      by_cases c2 : 9 < f i - 48
      · rw [if_pos c2]
      · rw [if_neg c2]
        cases k with
        | zero => rw [Nat.add_zero] at hb; exact absurd hb (by rw [← d1, ← d2]; simp [c1, c2])
        | succ k => exact own_bad hf n (i + 1) _ ⟨k, by omega, by rw [show i + 1 + k = i + (k + 1) by omega]; exact hb⟩
theorem own_good {f : Nat → Int32} (hf : ∀ j, 0 ≤ (f j).toInt ∧ (f j).toInt ≤ 255) : ∀ (n i : Nat) (v : Int32), (∀ k, k < n → ¬ (f (i + k) < 48 ∨ 57 < f (i + k))) → own_rd f n i v = v * own_pw n + own_sum f n i
  | 0, i, v, _ => by show v = v * 1 + 0; simp
  | n + 1, i, v, h => by
    obtain ⟨d1, d2⟩ := own_d48 (hf i)
    have h0 := h 0 (by omega)
    rw [Nat.add_zero, ← d1, ← d2] at h0
    show (if f i - 48 < 0 then -1 else if 9 < f i - 48 then -1 else own_rd f n (i + 1) (v * 10 + (f i - 48))) = v * (own_pw n * 10) + ((f i - 48) * own_pw n + own_sum f n (i + 1))
    rw [if_neg (fun q => h0 (Or.inl q)), if_neg (fun q => h0 (Or.inr q)), own_good hf n (i + 1) _ (fun k hk => by rw [show i + 1 + k = i + (k + 1) by omega]; exact h (k + 1) (by omega))]
    rw [Int32.add_mul, Int32.mul_assoc, Int32.mul_comm 10, Int32.add_assoc]
def own_ok9 (g : Nat → Int32) : Int32 := if g 0 = 0 then 0 else if g 1 = 0 then 0 else if g 2 = 0 then 0 else if g 3 = 0 then 0 else if g 4 = 0 then 0 else if g 5 = 0 then 0 else if g 6 = 0 then 0 else if g 7 = 0 then 0 else if g 8 = 0 then 0 else 1
theorem own_ok0 {g : Nat → Int32} (h : own_ok9 g = 0) : ∃ j, j < 9 ∧ g j = 0 := by
  refine Classical.byContradiction fun hn => ?_
  have q : ∀ j, j < 9 → ¬ g j = 0 := fun j hj e => hn ⟨j, hj, e⟩
  unfold own_ok9 at h
  rw [if_neg (q 0 (by decide)), if_neg (q 1 (by decide)), if_neg (q 2 (by decide)), if_neg (q 3 (by decide)), if_neg (q 4 (by decide)), if_neg (q 5 (by decide)), if_neg (q 6 (by decide)), if_neg (q 7 (by decide)), if_neg (q 8 (by decide))] at h
  exact absurd h (by decide)
theorem own_ok1 {g : Nat → Int32} (h : ¬ own_ok9 g = 0) : ∀ j, j < 9 → ¬ g j = 0 := by
  intro j hj e
  apply h
  unfold own_ok9
  rcases (by omega : j = 0 ∨ j = 1 ∨ j = 2 ∨ j = 3 ∨ j = 4 ∨ j = 5 ∨ j = 6 ∨ j = 7 ∨ j = 8) with rfl | rfl | rfl | rfl | rfl | rfl | rfl | rfl | rfl <;> simp only [e, if_true, ite_self]
theorem own_T32 (f : Nat → Int32) {sn cn j : Nat} (hc : cn < 1000) (hj : j < 1000) : (own_T f sn cn j).toInt32 = if j < cn then (f (sn + j) - 48) * own_pw (cn - 1 - j) else 0 := by
  unfold own_T own_te
  by_cases q : j < cn
  · rw [if_pos ((own_nlt hj hc).mpr q), if_pos q, Int64.toInt32_mul, Int32.toInt32_toInt64, Int32.toInt32_toInt64]
  · rw [if_neg (fun w => q ((own_nlt hj hc).mp w)), if_neg q]; rfl
theorem own_tot_eq (f : Nat → Int32) (sn cn : Nat) (hcn : cn ≤ 9) : (own_tot f sn cn).toInt32 = own_sum f cn sn := by
  have hc : cn < 1000 := by omega
  unfold own_tot
  simp only [Int64.toInt32_add, own_T32 f hc (show 0 < 1000 by decide), own_T32 f hc (show 1 < 1000 by decide), own_T32 f hc (show 2 < 1000 by decide), own_T32 f hc (show 3 < 1000 by decide), own_T32 f hc (show 4 < 1000 by decide), own_T32 f hc (show 5 < 1000 by decide), own_T32 f hc (show 6 < 1000 by decide), own_T32 f hc (show 7 < 1000 by decide), own_T32 f hc (show 8 < 1000 by decide)]
  clear hc
  rcases (by omega : cn = 0 ∨ cn = 1 ∨ cn = 2 ∨ cn = 3 ∨ cn = 4 ∨ cn = 5 ∨ cn = 6 ∨ cn = 7 ∨ cn = 8 ∨ cn = 9) with rfl | rfl | rfl | rfl | rfl | rfl | rfl | rfl | rfl | rfl <;> simp [own_sum, Int32.add_assoc]
theorem own_law {f : Nat → Int32} (hf : ∀ j, 0 ≤ (f j).toInt ∧ (f j).toInt ≤ 255) {sn cn : Nat} (hcn : cn ≤ 9) {okv : Int32} (hok : okv = own_ok9 (own_g f sn cn)) :
    (okv = 0 → own_rd f cn sn 0 = -1) ∧ (¬ okv = 0 → own_rd f cn sn 0 = (own_tot f sn cn).toInt32) := by
  subst hok
  constructor
  · intro h
    obtain ⟨j, hj, e⟩ := own_ok0 h
    unfold own_g own_fi at e
    by_cases q : Int32.ofNat j < Int32.ofNat cn
    · rw [if_pos q] at e
      refine own_bad hf cn sn 0 ⟨j, (own_nlt (by omega) (by omega)).mp q, ?_⟩
      by_cases c1 : f (sn + j) < 48
      · exact Or.inl c1
      · by_cases c2 : 57 < f (sn + j)
        · exact Or.inr c2
        · rw [if_neg c1, if_neg c2] at e; exact absurd e (by decide)
    · rw [if_neg q] at e; exact absurd e (by decide)
  · intro h
    have q := own_ok1 h
    rw [own_tot_eq f sn cn hcn, own_good hf cn sn 0 (fun k hk hb => ?_)]
    · simp
    · have e := q k (by omega)
      unfold own_g own_fi at e
      rw [if_pos ((own_nlt (by omega) (by omega)).mpr hk)] at e
      rcases hb with hb | hb
      · rw [if_pos hb] at e; exact e rfl
      · by_cases c1 : f (sn + k) < 48
        · rw [if_pos c1] at e; exact e rfl
        · rw [if_neg c1, if_pos hb] at e; exact e rfl
theorem own_cl {j : Int32} {i : Nat} (h : j.toInt = i) : ¬ j < 0 ∧ j.toNatClampNeg = i := by
  constructor
  · rw [Int32.lt_iff_toInt_lt, h]; show ¬ (i : Int) < 0; omega
  · simp only [Int32.toNatClampNeg, h]; omega
theorem own_csA (cs : List Int32) (i : Nat) : (cs.map Value.int).getD i (.int 0) = .int (cs.getD i 0) := by
  simp only [List.getD_eq_getElem?_getD, List.getElem?_map]
  cases cs[i]? <;> rfl
theorem own_csr {cs : List Int32} (hp : ∀ c ∈ cs, ¬ c < 0 ∧ ¬ (255 : Int32) < c) (j : Nat) : 0 ≤ (cs.getD j 0).toInt ∧ (cs.getD j 0).toInt ≤ 255 := by
  rw [List.getD_eq_getElem?_getD]
  cases h : cs[j]? with
  | none => decide
  | some c =>
    have q := hp c (List.mem_of_getElem? h)
    rw [own_lt, own_lt] at q
    have e0 : (0 : Int32).toInt = 0 := rfl
    have e1 : (255 : Int32).toInt = 255 := rfl
    show 0 ≤ c.toInt ∧ c.toInt ≤ 255
    omega
theorem own_up {cs : List Int32} (h : ∀ c ∈ cs, ¬ c < 0 ∧ ¬ (255 : Int32) < c) : ∀ c ∈ cs, ¬ c < 0 ∧ ¬ (65535 : Int32) < c := fun c hc => ⟨(h c hc).1, fun q => (h c hc).2 (by rw [own_lt] at q ⊢; have e1 : (65535 : Int32).toInt = 65535 := rfl; have e2 : (255 : Int32).toInt = 255 := rfl; omega)⟩
theorem own_inc (i : Int32) (n : Nat) (hi : i.toInt = n) (hn : n ≤ 100) : ∃ z : Int32, i + (1 : Int32) = z ∧ z.toInt = (n + 1 : Nat) := by
  refine ⟨_, rfl, ?_⟩
  have e : (1 : Int32).toInt = 1 := rfl
  rw [Jvm.Kit.i32_add (by rw [e]; omega) (by rw [e]; omega), e]
  omega
theorem own_add {a b : Nat} (h : a + b < 1000) : (Int32.ofNat a + Int32.ofNat b).toInt = (a + b : Nat) := by
  rw [Jvm.Kit.i32_add (by rw [own_tn (by omega), own_tn (by omega)]; omega) (by rw [own_tn (by omega), own_tn (by omega)]; omega), own_tn (by omega), own_tn (by omega)]; omega
theorem own_kn {cn j : Nat} (hc : cn < 1000) (h : j < cn) : (Int32.ofNat cn - 1 - Int32.ofNat j).toInt = (cn - 1 - j : Nat) := by
  have e : (1 : Int32).toInt = 1 := rfl
  have e1 : (Int32.ofNat cn - 1).toInt = (cn : Int) - 1 := by rw [Jvm.Kit.i32_sub (by rw [own_tn hc, e]; omega) (by rw [own_tn hc, e]; omega), own_tn hc, e]
  rw [Jvm.Kit.i32_sub (by rw [e1, own_tn (by omega)]; omega) (by rw [e1, own_tn (by omega)]; omega), e1, own_tn (by omega)]; omega
set_option maxRecDepth 65536 in
set_option maxHeartbeats 40000000 in
theorem rmCh (l : Launch) (Z : State) (a0 : Array Value) (hw : ∀ d ∈ tables_1, d.before a0 Z = true) (q1 : Int64) (p2 : Int32) (h0 : Heap)  :
    OMet l Z (⟨"io/countersign/TimestampFormReadDigitsPinLaw", "ch", "(JI)C"⟩ : MethodName) method_3_code 5 (some .char) (⟨0, 0, 0, 0⟩ : Room) #[(.long q1), (.int p2)] h0 (fun v h L => v = some (.int (own_ch q1 p2)) ∧ h = h0 ∧ L = []) := by
  refine own_enter own_pn1 ?_
  intro p e s m below meth c T0 X0 hC e0
  obtain ⟨hx, hZ, hby, hml, hown, hret, hlk, hnm⟩ := hC
  have hown : s.vm.findClass "io/countersign/TimestampFormReadDigitsPinLaw" = some m.cls := hown
  refine own_at (own_ef1_JI m q1 p2) ?_
  show OFin p e below s _ _ _ (T0.setTop (mkF m 0 #[.val (.long q1), .second, .val (.int p2), .unset, .unset] []))
  refine own_st (fun _ kS => XS.lloadN X0.here hx rfl (hb hby own_d1_0) rfl kS) ?_
  show OFin p e below s _ _ _ (T0.setTop (mkF m 1 #[.val (.long q1), .second, .val (.int p2), .unset, .unset] [(.long q1)]))
  refine own_st (fun _ kS => XS.bipush X0.here hx rfl (hb hby own_d1_1) kS) ?_
  show OFin p e below s _ _ _ (T0.setTop (mkF m 3 #[.val (.long q1), .second, .val (.int p2), .unset, .unset] [(.int (9 : Int32)), (.long q1)]))
  refine own_st (fun _ kS => XS.iloadN X0.here hx rfl (hb hby own_d1_3) rfl kS) ?_
  show OFin p e below s _ _ _ (T0.setTop (mkF m 4 #[.val (.long q1), .second, .val (.int p2), .unset, .unset] [(.int p2), (.int (9 : Int32)), (.long q1)]))
  refine own_st (fun _ kS => XS.imul X0.here hx rfl (hb hby own_d1_4) rfl kS) ?_
  show OFin p e below s _ _ _ (T0.setTop (mkF m 5 #[.val (.long q1), .second, .val (.int p2), .unset, .unset] [(.int ((9 : Int32) * p2)), (.long q1)]))
  refine own_st (fun _ kS => XS.lushr X0.here hx rfl (hb hby own_d1_5) rfl kS) ?_
  show OFin p e below s _ _ _ (T0.setTop (mkF m 6 #[.val (.long q1), .second, .val (.int p2), .unset, .unset] [(.long ((q1.toUInt64 >>> (((9 : Int32) * p2) &&& 0x3f).toInt64.toUInt64).toInt64))]))
  refine own_st (X0.ldc2Long hx hown (mvT hZ (own_w hw 5 rfl)) (g := (mkF m 6 #[.val (.long q1), .second, .val (.int p2), .unset, .unset] [(.long ((q1.toUInt64 >>> (((9 : Int32) * p2) &&& 0x3f).toInt64.toUInt64).toInt64))])) rfl (hb hby own_d1_6)) ?_
  show OFin p e below s _ _ _ (T0.setTop (mkF m 9 #[.val (.long q1), .second, .val (.int p2), .unset, .unset] [(.long (255 : Int64)), (.long ((q1.toUInt64 >>> (((9 : Int32) * p2) &&& 0x3f).toInt64.toUInt64).toInt64))]))
  refine own_st (fun _ kS => XS.land X0.here hx rfl (hb hby own_d1_9) rfl kS) ?_
  show OFin p e below s _ _ _ (T0.setTop (mkF m 10 #[.val (.long q1), .second, .val (.int p2), .unset, .unset] [(.long (((q1.toUInt64 >>> (((9 : Int32) * p2) &&& 0x3f).toInt64.toUInt64).toInt64) &&& (255 : Int64)))]))
  refine own_st (fun _ kS => XS.l2i X0.here hx rfl (hb hby own_d1_10) rfl kS) ?_
  show OFin p e below s _ _ _ (T0.setTop (mkF m 11 #[.val (.long q1), .second, .val (.int p2), .unset, .unset] [(.int ((((q1.toUInt64 >>> (((9 : Int32) * p2) &&& 0x3f).toInt64.toUInt64).toInt64) &&& (255 : Int64)).toInt32))]))
  refine own_st (fun _ kS => XS.istoreN X0.here hx rfl (hb hby own_d1_11) rfl (l' := #[.val (.long q1), .second, .val (.int p2), .val (.int ((((q1.toUInt64 >>> (((9 : Int32) * p2) &&& 0x3f).toInt64.toUInt64).toInt64) &&& (255 : Int64)).toInt32)), .unset]) rfl kS) ?_
  show OFin p e below s _ _ _ (T0.setTop (mkF m 12 #[.val (.long q1), .second, .val (.int p2), .val (.int ((((q1.toUInt64 >>> (((9 : Int32) * p2) &&& 0x3f).toInt64.toUInt64).toInt64) &&& (255 : Int64)).toInt32)), .unset] []))
  refine own_st (fun _ kS => XS.lloadN X0.here hx rfl (hb hby own_d1_12) rfl kS) ?_
  show OFin p e below s _ _ _ (T0.setTop (mkF m 13 #[.val (.long q1), .second, .val (.int p2), .val (.int ((((q1.toUInt64 >>> (((9 : Int32) * p2) &&& 0x3f).toInt64.toUInt64).toInt64) &&& (255 : Int64)).toInt32)), .unset] [(.long q1)]))
  refine own_st (fun _ kS => XS.bipush X0.here hx rfl (hb hby own_d1_13) kS) ?_
  show OFin p e below s _ _ _ (T0.setTop (mkF m 15 #[.val (.long q1), .second, .val (.int p2), .val (.int ((((q1.toUInt64 >>> (((9 : Int32) * p2) &&& 0x3f).toInt64.toUInt64).toInt64) &&& (255 : Int64)).toInt32)), .unset] [(.int (9 : Int32)), (.long q1)]))
  refine own_st (fun _ kS => XS.iloadN X0.here hx rfl (hb hby own_d1_15) rfl kS) ?_
  show OFin p e below s _ _ _ (T0.setTop (mkF m 16 #[.val (.long q1), .second, .val (.int p2), .val (.int ((((q1.toUInt64 >>> (((9 : Int32) * p2) &&& 0x3f).toInt64.toUInt64).toInt64) &&& (255 : Int64)).toInt32)), .unset] [(.int p2), (.int (9 : Int32)), (.long q1)]))
  refine own_st (fun _ kS => XS.imul X0.here hx rfl (hb hby own_d1_16) rfl kS) ?_
  show OFin p e below s _ _ _ (T0.setTop (mkF m 17 #[.val (.long q1), .second, .val (.int p2), .val (.int ((((q1.toUInt64 >>> (((9 : Int32) * p2) &&& 0x3f).toInt64.toUInt64).toInt64) &&& (255 : Int64)).toInt32)), .unset] [(.int ((9 : Int32) * p2)), (.long q1)]))
  refine own_st (fun _ kS => XS.bipush X0.here hx rfl (hb hby own_d1_17) kS) ?_
  show OFin p e below s _ _ _ (T0.setTop (mkF m 19 #[.val (.long q1), .second, .val (.int p2), .val (.int ((((q1.toUInt64 >>> (((9 : Int32) * p2) &&& 0x3f).toInt64.toUInt64).toInt64) &&& (255 : Int64)).toInt32)), .unset] [(.int (8 : Int32)), (.int ((9 : Int32) * p2)), (.long q1)]))
  refine own_st (fun _ kS => XS.iadd X0.here hx rfl (hb hby own_d1_19) rfl kS) ?_
  show OFin p e below s _ _ _ (T0.setTop (mkF m 20 #[.val (.long q1), .second, .val (.int p2), .val (.int ((((q1.toUInt64 >>> (((9 : Int32) * p2) &&& 0x3f).toInt64.toUInt64).toInt64) &&& (255 : Int64)).toInt32)), .unset] [(.int (((9 : Int32) * p2) + (8 : Int32))), (.long q1)]))
  refine own_st (fun _ kS => XS.lushr X0.here hx rfl (hb hby own_d1_20) rfl kS) ?_
  show OFin p e below s _ _ _ (T0.setTop (mkF m 21 #[.val (.long q1), .second, .val (.int p2), .val (.int ((((q1.toUInt64 >>> (((9 : Int32) * p2) &&& 0x3f).toInt64.toUInt64).toInt64) &&& (255 : Int64)).toInt32)), .unset] [(.long ((q1.toUInt64 >>> ((((9 : Int32) * p2) + (8 : Int32)) &&& 0x3f).toInt64.toUInt64).toInt64))]))
  refine own_st (fun _ kS => XS.lconst X0.here hx rfl (hb hby own_d1_21) kS) ?_
  show OFin p e below s _ _ _ (T0.setTop (mkF m 22 #[.val (.long q1), .second, .val (.int p2), .val (.int ((((q1.toUInt64 >>> (((9 : Int32) * p2) &&& 0x3f).toInt64.toUInt64).toInt64) &&& (255 : Int64)).toInt32)), .unset] [(.long (1 : Int64)), (.long ((q1.toUInt64 >>> ((((9 : Int32) * p2) + (8 : Int32)) &&& 0x3f).toInt64.toUInt64).toInt64))]))
  refine own_st (fun _ kS => XS.land X0.here hx rfl (hb hby own_d1_22) rfl kS) ?_
  show OFin p e below s _ _ _ (T0.setTop (mkF m 23 #[.val (.long q1), .second, .val (.int p2), .val (.int ((((q1.toUInt64 >>> (((9 : Int32) * p2) &&& 0x3f).toInt64.toUInt64).toInt64) &&& (255 : Int64)).toInt32)), .unset] [(.long (((q1.toUInt64 >>> ((((9 : Int32) * p2) + (8 : Int32)) &&& 0x3f).toInt64.toUInt64).toInt64) &&& (1 : Int64)))]))
  refine own_st (fun _ kS => XS.lconst X0.here hx rfl (hb hby own_d1_23) kS) ?_
  show OFin p e below s _ _ _ (T0.setTop (mkF m 24 #[.val (.long q1), .second, .val (.int p2), .val (.int ((((q1.toUInt64 >>> (((9 : Int32) * p2) &&& 0x3f).toInt64.toUInt64).toInt64) &&& (255 : Int64)).toInt32)), .unset] [(.long (0 : Int64)), (.long (((q1.toUInt64 >>> ((((9 : Int32) * p2) + (8 : Int32)) &&& 0x3f).toInt64.toUInt64).toInt64) &&& (1 : Int64)))]))
  refine own_st (fun _ kS => XS.lcmp X0.here hx rfl (hb hby own_d1_24) rfl kS) ?_
  show OFin p e below s _ _ _ (T0.setTop (mkF m 25 #[.val (.long q1), .second, .val (.int p2), .val (.int ((((q1.toUInt64 >>> (((9 : Int32) * p2) &&& 0x3f).toInt64.toUInt64).toInt64) &&& (255 : Int64)).toInt32)), .unset] [(.int (lcmpW (((q1.toUInt64 >>> ((((9 : Int32) * p2) + (8 : Int32)) &&& 0x3f).toInt64.toUInt64).toInt64) &&& (1 : Int64)) (0 : Int64)))]))
  by_cases c1 : (lcmpW (((q1.toUInt64 >>> ((((9 : Int32) * p2) + (8 : Int32)) &&& 0x3f).toInt64.toUInt64).toInt64) &&& (1 : Int64)) (0 : Int64)) = (0 : Int32)
  · refine own_st (fun _ kS => XS.ifYes X0.here hx rfl (pc0 := 25) (pc' := 32) rfl (hb hby own_d1_25) rfl ((if0 _ _).trans (teq c1).1) (by decide) (by decide) kS) ?_
    show OFin p e below s _ _ _ (T0.setTop (mkF m 32 #[.val (.long q1), .second, .val (.int p2), .val (.int ((((q1.toUInt64 >>> (((9 : Int32) * p2) &&& 0x3f).toInt64.toUInt64).toInt64) &&& (255 : Int64)).toInt32)), .unset] []))
    refine own_st (fun _ kS => XS.iconst X0.here hx rfl (hb hby own_d1_32) kS) ?_
    show OFin p e below s _ _ _ (T0.setTop (mkF m 33 #[.val (.long q1), .second, .val (.int p2), .val (.int ((((q1.toUInt64 >>> (((9 : Int32) * p2) &&& 0x3f).toInt64.toUInt64).toInt64) &&& (255 : Int64)).toInt32)), .unset] [(.int (0 : Int32))]))
    refine own_st (fun _ kS => XS.istore X0.here hx rfl (hb hby own_d1_33) rfl (l' := #[.val (.long q1), .second, .val (.int p2), .val (.int ((((q1.toUInt64 >>> (((9 : Int32) * p2) &&& 0x3f).toInt64.toUInt64).toInt64) &&& (255 : Int64)).toInt32)), .val (.int (0 : Int32))]) rfl kS) ?_
    show OFin p e below s _ _ _ (T0.setTop (mkF m 35 #[.val (.long q1), .second, .val (.int p2), .val (.int ((((q1.toUInt64 >>> (((9 : Int32) * p2) &&& 0x3f).toInt64.toUInt64).toInt64) &&& (255 : Int64)).toInt32)), .val (.int (0 : Int32))] []))
    refine own_st (fun _ kS => XS.iload X0.here hx rfl (hb hby own_d1_35) rfl kS) ?_
    show OFin p e below s _ _ _ (T0.setTop (mkF m 37 #[.val (.long q1), .second, .val (.int p2), .val (.int ((((q1.toUInt64 >>> (((9 : Int32) * p2) &&& 0x3f).toInt64.toUInt64).toInt64) &&& (255 : Int64)).toInt32)), .val (.int (0 : Int32))] [(.int (0 : Int32))]))
    refine own_st (fun _ kS => XS.ifYes X0.here hx rfl (pc0 := 37) (pc' := 51) rfl (hb hby own_d1_37) rfl ((if0 _ _).trans (teq rfl).1) (by decide) (by decide) kS) ?_
    show OFin p e below s _ _ _ (T0.setTop (mkF m 51 #[.val (.long q1), .second, .val (.int p2), .val (.int ((((q1.toUInt64 >>> (((9 : Int32) * p2) &&& 0x3f).toInt64.toUInt64).toInt64) &&& (255 : Int64)).toInt32)), .val (.int (0 : Int32))] []))
    refine own_st (fun _ kS => XS.iloadN X0.here hx rfl (hb hby own_d1_51) rfl kS) ?_
    show OFin p e below s _ _ _ (T0.setTop (mkF m 52 #[.val (.long q1), .second, .val (.int p2), .val (.int ((((q1.toUInt64 >>> (((9 : Int32) * p2) &&& 0x3f).toInt64.toUInt64).toInt64) &&& (255 : Int64)).toInt32)), .val (.int (0 : Int32))] [(.int ((((q1.toUInt64 >>> (((9 : Int32) * p2) &&& 0x3f).toInt64.toUInt64).toInt64) &&& (255 : Int64)).toInt32))]))
    refine own_st (fun _ kS => XS.i2c X0.here hx rfl (hb hby own_d1_52) rfl kS) ?_
    show OFin p e below s _ _ _ (T0.setTop (mkF m 53 #[.val (.long q1), .second, .val (.int p2), .val (.int ((((q1.toUInt64 >>> (((9 : Int32) * p2) &&& 0x3f).toInt64.toUInt64).toInt64) &&& (255 : Int64)).toInt32)), .val (.int (0 : Int32))] [(.int (((((q1.toUInt64 >>> (((9 : Int32) * p2) &&& 0x3f).toInt64.toUInt64).toInt64) &&& (255 : Int64)).toInt32).toUInt32.toUInt16.toUInt32.toInt32))]))
    exact own_ret X0 hx (t := .char) hret hlk (own_nwc _) (Or.inl ⟨rfl, by simp, _, rfl⟩) (hb hby own_d1_53) (by decide) (by decide) ⟨by rw [show own_ch q1 p2 = _ from if_pos c1]; rfl, e0, rfl⟩
  · refine own_st (fun _ kS => XS.ifNo X0.here hx rfl (hb hby own_d1_25) rfl ((if0 _ _).trans (feq c1).1) kS) ?_
    show OFin p e below s _ _ _ (T0.setTop (mkF m 28 #[.val (.long q1), .second, .val (.int p2), .val (.int ((((q1.toUInt64 >>> (((9 : Int32) * p2) &&& 0x3f).toInt64.toUInt64).toInt64) &&& (255 : Int64)).toInt32)), .unset] []))
    refine own_st (fun _ kS => XS.iconst X0.here hx rfl (hb hby own_d1_28) kS) ?_
    show OFin p e below s _ _ _ (T0.setTop (mkF m 29 #[.val (.long q1), .second, .val (.int p2), .val (.int ((((q1.toUInt64 >>> (((9 : Int32) * p2) &&& 0x3f).toInt64.toUInt64).toInt64) &&& (255 : Int64)).toInt32)), .unset] [(.int (1 : Int32))]))
    refine own_st (fun _ kS => XS.goto X0.here hx rfl (pc0 := 29) (pc' := 33) rfl (hb hby own_d1_29) (by decide) (by decide) kS) ?_
    show OFin p e below s _ _ _ (T0.setTop (mkF m 33 #[.val (.long q1), .second, .val (.int p2), .val (.int ((((q1.toUInt64 >>> (((9 : Int32) * p2) &&& 0x3f).toInt64.toUInt64).toInt64) &&& (255 : Int64)).toInt32)), .unset] [(.int (1 : Int32))]))
    refine own_st (fun _ kS => XS.istore X0.here hx rfl (hb hby own_d1_33) rfl (l' := #[.val (.long q1), .second, .val (.int p2), .val (.int ((((q1.toUInt64 >>> (((9 : Int32) * p2) &&& 0x3f).toInt64.toUInt64).toInt64) &&& (255 : Int64)).toInt32)), .val (.int (1 : Int32))]) rfl kS) ?_
    show OFin p e below s _ _ _ (T0.setTop (mkF m 35 #[.val (.long q1), .second, .val (.int p2), .val (.int ((((q1.toUInt64 >>> (((9 : Int32) * p2) &&& 0x3f).toInt64.toUInt64).toInt64) &&& (255 : Int64)).toInt32)), .val (.int (1 : Int32))] []))
    refine own_st (fun _ kS => XS.iload X0.here hx rfl (hb hby own_d1_35) rfl kS) ?_
    show OFin p e below s _ _ _ (T0.setTop (mkF m 37 #[.val (.long q1), .second, .val (.int p2), .val (.int ((((q1.toUInt64 >>> (((9 : Int32) * p2) &&& 0x3f).toInt64.toUInt64).toInt64) &&& (255 : Int64)).toInt32)), .val (.int (1 : Int32))] [(.int (1 : Int32))]))
    refine own_st (fun _ kS => XS.ifNo X0.here hx rfl (hb hby own_d1_37) rfl ((if0 _ _).trans (feq (by decide)).1) kS) ?_
    show OFin p e below s _ _ _ (T0.setTop (mkF m 40 #[.val (.long q1), .second, .val (.int p2), .val (.int ((((q1.toUInt64 >>> (((9 : Int32) * p2) &&& 0x3f).toInt64.toUInt64).toInt64) &&& (255 : Int64)).toInt32)), .val (.int (1 : Int32))] []))
    refine own_st (fun _ kS => XS.bipush X0.here hx rfl (hb hby own_d1_40) kS) ?_
    show OFin p e below s _ _ _ (T0.setTop (mkF m 42 #[.val (.long q1), .second, .val (.int p2), .val (.int ((((q1.toUInt64 >>> (((9 : Int32) * p2) &&& 0x3f).toInt64.toUInt64).toInt64) &&& (255 : Int64)).toInt32)), .val (.int (1 : Int32))] [(.int (48 : Int32))]))
    refine own_st (fun _ kS => XS.iloadN X0.here hx rfl (hb hby own_d1_42) rfl kS) ?_
    show OFin p e below s _ _ _ (T0.setTop (mkF m 43 #[.val (.long q1), .second, .val (.int p2), .val (.int ((((q1.toUInt64 >>> (((9 : Int32) * p2) &&& 0x3f).toInt64.toUInt64).toInt64) &&& (255 : Int64)).toInt32)), .val (.int (1 : Int32))] [(.int ((((q1.toUInt64 >>> (((9 : Int32) * p2) &&& 0x3f).toInt64.toUInt64).toInt64) &&& (255 : Int64)).toInt32)), (.int (48 : Int32))]))
    refine own_st (fun _ kS => XS.bipush X0.here hx rfl (hb hby own_d1_43) kS) ?_
    show OFin p e below s _ _ _ (T0.setTop (mkF m 45 #[.val (.long q1), .second, .val (.int p2), .val (.int ((((q1.toUInt64 >>> (((9 : Int32) * p2) &&& 0x3f).toInt64.toUInt64).toInt64) &&& (255 : Int64)).toInt32)), .val (.int (1 : Int32))] [(.int (10 : Int32)), (.int ((((q1.toUInt64 >>> (((9 : Int32) * p2) &&& 0x3f).toInt64.toUInt64).toInt64) &&& (255 : Int64)).toInt32)), (.int (48 : Int32))]))
    refine own_st (fun _ kS => iremM (g := (mkF m 45 #[.val (.long q1), .second, .val (.int p2), .val (.int ((((q1.toUInt64 >>> (((9 : Int32) * p2) &&& 0x3f).toInt64.toUInt64).toInt64) &&& (255 : Int64)).toInt32)), .val (.int (1 : Int32))] [(.int (10 : Int32)), (.int ((((q1.toUInt64 >>> (((9 : Int32) * p2) &&& 0x3f).toInt64.toUInt64).toInt64) &&& (255 : Int64)).toInt32)), (.int (48 : Int32))])) X0 hx rfl (hb hby own_d1_45) rfl (by decide) kS) ?_
    show OFin p e below s _ _ _ (T0.setTop (mkF m 46 #[.val (.long q1), .second, .val (.int p2), .val (.int ((((q1.toUInt64 >>> (((9 : Int32) * p2) &&& 0x3f).toInt64.toUInt64).toInt64) &&& (255 : Int64)).toInt32)), .val (.int (1 : Int32))] [(.int (((((q1.toUInt64 >>> (((9 : Int32) * p2) &&& 0x3f).toInt64.toUInt64).toInt64) &&& (255 : Int64)).toInt32) % (10 : Int32))), (.int (48 : Int32))]))
    refine own_st (fun _ kS => XS.iadd X0.here hx rfl (hb hby own_d1_46) rfl kS) ?_
    show OFin p e below s _ _ _ (T0.setTop (mkF m 47 #[.val (.long q1), .second, .val (.int p2), .val (.int ((((q1.toUInt64 >>> (((9 : Int32) * p2) &&& 0x3f).toInt64.toUInt64).toInt64) &&& (255 : Int64)).toInt32)), .val (.int (1 : Int32))] [(.int ((48 : Int32) + (((((q1.toUInt64 >>> (((9 : Int32) * p2) &&& 0x3f).toInt64.toUInt64).toInt64) &&& (255 : Int64)).toInt32) % (10 : Int32))))]))
    refine own_st (fun _ kS => XS.i2c X0.here hx rfl (hb hby own_d1_47) rfl kS) ?_
    show OFin p e below s _ _ _ (T0.setTop (mkF m 48 #[.val (.long q1), .second, .val (.int p2), .val (.int ((((q1.toUInt64 >>> (((9 : Int32) * p2) &&& 0x3f).toInt64.toUInt64).toInt64) &&& (255 : Int64)).toInt32)), .val (.int (1 : Int32))] [(.int (((48 : Int32) + (((((q1.toUInt64 >>> (((9 : Int32) * p2) &&& 0x3f).toInt64.toUInt64).toInt64) &&& (255 : Int64)).toInt32) % (10 : Int32))).toUInt32.toUInt16.toUInt32.toInt32))]))
    refine own_st (fun _ kS => XS.goto X0.here hx rfl (pc0 := 48) (pc' := 53) rfl (hb hby own_d1_48) (by decide) (by decide) kS) ?_
    show OFin p e below s _ _ _ (T0.setTop (mkF m 53 #[.val (.long q1), .second, .val (.int p2), .val (.int ((((q1.toUInt64 >>> (((9 : Int32) * p2) &&& 0x3f).toInt64.toUInt64).toInt64) &&& (255 : Int64)).toInt32)), .val (.int (1 : Int32))] [(.int (((48 : Int32) + (((((q1.toUInt64 >>> (((9 : Int32) * p2) &&& 0x3f).toInt64.toUInt64).toInt64) &&& (255 : Int64)).toInt32) % (10 : Int32))).toUInt32.toUInt16.toUInt32.toInt32))]))
    exact own_ret X0 hx (t := .char) hret hlk (own_nwc _) (Or.inl ⟨rfl, by simp, _, rfl⟩) (hb hby own_d1_53) (by decide) (by decide) ⟨by rw [show own_ch q1 p2 = _ from if_neg c1]; rfl, e0, rfl⟩
set_option maxRecDepth 65536 in
set_option maxHeartbeats 40000000 in
theorem rmFi (l : Launch) (Z : State) (a0 : Array Value) (hw : ∀ d ∈ tables_1, d.before a0 Z = true) (a : Addr) (st : Int32) (ct : Int32) (j : Int32) (h0 : Heap) (f : Nat → Int32) (jn : Nat) (F0 : OArr Z h0 a .char 12 (fun i => .int (f i))) (hj : j < ct → (st + j).toInt = jn ∧ jn < 12) :
    OMet l Z (⟨"io/countersign/TimestampFormReadDigitsPinLaw", "fine", "([CIII)Z"⟩ : MethodName) method_4_code 5 (some .boolean) (⟨0, 0, 0, 0⟩ : Room) #[(.ref a), (.int st), (.int ct), (.int j)] h0 (fun v h L => v = some (.int (own_fi ct j (f jn))) ∧ h = h0 ∧ L = []) := by
  refine own_enter own_pn2 ?_
  intro p e s m below meth c T0 X0 hC e0
  obtain ⟨hx, hZ, hby, hml, hown, hret, hlk, hnm⟩ := hC
  have hown : s.vm.findClass "io/countersign/TimestampFormReadDigitsPinLaw" = some m.cls := hown
  refine own_at (own_ef2_RIII m a st ct j) ?_
  show OFin p e below s _ _ _ (T0.setTop (mkF m 0 #[.val (.ref a), .val (.int st), .val (.int ct), .val (.int j), .unset] []))
  refine own_st (fun _ kS => XS.iloadN X0.here hx rfl (hb hby own_d2_0) rfl kS) ?_
  show OFin p e below s _ _ _ (T0.setTop (mkF m 1 #[.val (.ref a), .val (.int st), .val (.int ct), .val (.int j), .unset] [(.int j)]))
  refine own_st (fun _ kS => XS.iloadN X0.here hx rfl (hb hby own_d2_1) rfl kS) ?_
  show OFin p e below s _ _ _ (T0.setTop (mkF m 2 #[.val (.ref a), .val (.int st), .val (.int ct), .val (.int j), .unset] [(.int ct), (.int j)]))
  by_cases c1 : j < ct
  · refine own_st (fun _ kS => XS.icmpYes X0.here hx rfl (pc0 := 2) (pc' := 7) rfl (hb hby own_d2_2) rfl (tlt c1).1 (by decide) (by decide) kS) ?_
    show OFin p e below s _ _ _ (T0.setTop (mkF m 7 #[.val (.ref a), .val (.int st), .val (.int ct), .val (.int j), .unset] []))
    refine own_st (fun _ kS => XS.aloadN X0.here hx rfl (hb hby own_d2_7) rfl rfl kS) ?_
    show OFin p e below s _ _ _ (T0.setTop (mkF m 8 #[.val (.ref a), .val (.int st), .val (.int ct), .val (.int j), .unset] [(.ref a)]))
    refine own_st (fun _ kS => XS.iloadN X0.here hx rfl (hb hby own_d2_8) rfl kS) ?_
    show OFin p e below s _ _ _ (T0.setTop (mkF m 9 #[.val (.ref a), .val (.int st), .val (.int ct), .val (.int j), .unset] [(.int st), (.ref a)]))
    refine own_st (fun _ kS => XS.iloadN X0.here hx rfl (hb hby own_d2_9) rfl kS) ?_
    show OFin p e below s _ _ _ (T0.setTop (mkF m 10 #[.val (.ref a), .val (.int st), .val (.int ct), .val (.int j), .unset] [(.int j), (.int st), (.ref a)]))
    refine own_st (fun _ kS => XS.iadd X0.here hx rfl (hb hby own_d2_10) rfl kS) ?_
    show OFin p e below s _ _ _ (T0.setTop (mkF m 11 #[.val (.ref a), .val (.int st), .val (.int ct), .val (.int j), .unset] [(.int (st + j)), (.ref a)]))
    obtain ⟨j1, j2⟩ := hj c1
    obtain ⟨q0, q1⟩ := own_cl j1
    obtain ⟨cl1, Ar1, S1, B1, H1⟩ := id F0
    refine own_st (X0.caload hx (j := (st + j)) (v := (.int (f jn))) (by rw [e0]; exact Ar1.1) (State.isArrayOf_alike hZ.alike Ar1.2.1) Ar1.2.2 (own_inb S1 q0 q1 j2) (own_hv H1 q1 j2) (g := (mkF m 11 #[.val (.ref a), .val (.int st), .val (.int ct), .val (.int j), .unset] [(.int (st + j)), (.ref a)])) rfl rfl (hb hby own_d2_11)) ?_
    clear Ar1 S1 B1 H1
    show OFin p e below s _ _ _ (T0.setTop (mkF m 12 #[.val (.ref a), .val (.int st), .val (.int ct), .val (.int j), .unset] [(.int (f jn))]))
    refine own_st (fun _ kS => XS.istore X0.here hx rfl (hb hby own_d2_12) rfl (l' := #[.val (.ref a), .val (.int st), .val (.int ct), .val (.int j), .val (.int (f jn))]) rfl kS) ?_
    show OFin p e below s _ _ _ (T0.setTop (mkF m 14 #[.val (.ref a), .val (.int st), .val (.int ct), .val (.int j), .val (.int (f jn))] []))
    refine own_st (fun _ kS => XS.iload X0.here hx rfl (hb hby own_d2_14) rfl kS) ?_
    show OFin p e below s _ _ _ (T0.setTop (mkF m 16 #[.val (.ref a), .val (.int st), .val (.int ct), .val (.int j), .val (.int (f jn))] [(.int (f jn))]))
    refine own_st (fun _ kS => XS.bipush X0.here hx rfl (hb hby own_d2_16) kS) ?_
    show OFin p e below s _ _ _ (T0.setTop (mkF m 18 #[.val (.ref a), .val (.int st), .val (.int ct), .val (.int j), .val (.int (f jn))] [(.int (48 : Int32)), (.int (f jn))]))
    by_cases c2 : (f jn) < (48 : Int32)
    · refine own_st (fun _ kS => XS.icmpYes X0.here hx rfl (pc0 := 18) (pc' := 32) rfl (hb hby own_d2_18) rfl (tlt c2).1 (by decide) (by decide) kS) ?_
      show OFin p e below s _ _ _ (T0.setTop (mkF m 32 #[.val (.ref a), .val (.int st), .val (.int ct), .val (.int j), .val (.int (f jn))] []))
      refine own_st (fun _ kS => XS.iconst X0.here hx rfl (hb hby own_d2_32) kS) ?_
      show OFin p e below s _ _ _ (T0.setTop (mkF m 33 #[.val (.ref a), .val (.int st), .val (.int ct), .val (.int j), .val (.int (f jn))] [(.int (0 : Int32))]))
      exact own_ret X0 hx (t := .boolean) hret hlk rfl (Or.inl ⟨rfl, by simp, _, rfl⟩) (hb hby own_d2_33) (by decide) (by decide) ⟨by simp only [own_fi, c1, c2, if_true, if_false], e0, rfl⟩
    · refine own_st (fun _ kS => XS.icmpNo X0.here hx rfl (hb hby own_d2_18) rfl (flt c2).1 kS) ?_
      show OFin p e below s _ _ _ (T0.setTop (mkF m 21 #[.val (.ref a), .val (.int st), .val (.int ct), .val (.int j), .val (.int (f jn))] []))
      refine own_st (fun _ kS => XS.iload X0.here hx rfl (hb hby own_d2_21) rfl kS) ?_
      show OFin p e below s _ _ _ (T0.setTop (mkF m 23 #[.val (.ref a), .val (.int st), .val (.int ct), .val (.int j), .val (.int (f jn))] [(.int (f jn))]))
      refine own_st (fun _ kS => XS.bipush X0.here hx rfl (hb hby own_d2_23) kS) ?_
      show OFin p e below s _ _ _ (T0.setTop (mkF m 25 #[.val (.ref a), .val (.int st), .val (.int ct), .val (.int j), .val (.int (f jn))] [(.int (57 : Int32)), (.int (f jn))]))
      by_cases c3 : (57 : Int32) < (f jn)
      · refine own_st (fun _ kS => XS.icmpYes X0.here hx rfl (pc0 := 25) (pc' := 32) rfl (hb hby own_d2_25) rfl (tlt c3).2.2.1 (by decide) (by decide) kS) ?_
        show OFin p e below s _ _ _ (T0.setTop (mkF m 32 #[.val (.ref a), .val (.int st), .val (.int ct), .val (.int j), .val (.int (f jn))] []))
        refine own_st (fun _ kS => XS.iconst X0.here hx rfl (hb hby own_d2_32) kS) ?_
        show OFin p e below s _ _ _ (T0.setTop (mkF m 33 #[.val (.ref a), .val (.int st), .val (.int ct), .val (.int j), .val (.int (f jn))] [(.int (0 : Int32))]))
        exact own_ret X0 hx (t := .boolean) hret hlk rfl (Or.inl ⟨rfl, by simp, _, rfl⟩) (hb hby own_d2_33) (by decide) (by decide) ⟨by simp only [own_fi, c1, c2, c3, if_true, if_false], e0, rfl⟩
      · refine own_st (fun _ kS => XS.icmpNo X0.here hx rfl (hb hby own_d2_25) rfl (flt c3).2.2.1 kS) ?_
        show OFin p e below s _ _ _ (T0.setTop (mkF m 28 #[.val (.ref a), .val (.int st), .val (.int ct), .val (.int j), .val (.int (f jn))] []))
        refine own_st (fun _ kS => XS.iconst X0.here hx rfl (hb hby own_d2_28) kS) ?_
        show OFin p e below s _ _ _ (T0.setTop (mkF m 29 #[.val (.ref a), .val (.int st), .val (.int ct), .val (.int j), .val (.int (f jn))] [(.int (1 : Int32))]))
        refine own_st (fun _ kS => XS.goto X0.here hx rfl (pc0 := 29) (pc' := 33) rfl (hb hby own_d2_29) (by decide) (by decide) kS) ?_
        show OFin p e below s _ _ _ (T0.setTop (mkF m 33 #[.val (.ref a), .val (.int st), .val (.int ct), .val (.int j), .val (.int (f jn))] [(.int (1 : Int32))]))
        exact own_ret X0 hx (t := .boolean) hret hlk rfl (Or.inl ⟨rfl, by simp, _, rfl⟩) (hb hby own_d2_33) (by decide) (by decide) ⟨by simp only [own_fi, c1, c2, c3, if_true, if_false], e0, rfl⟩
  · refine own_st (fun _ kS => XS.icmpNo X0.here hx rfl (hb hby own_d2_2) rfl (flt c1).1 kS) ?_
    show OFin p e below s _ _ _ (T0.setTop (mkF m 5 #[.val (.ref a), .val (.int st), .val (.int ct), .val (.int j), .unset] []))
    refine own_st (fun _ kS => XS.iconst X0.here hx rfl (hb hby own_d2_5) kS) ?_
    show OFin p e below s _ _ _ (T0.setTop (mkF m 6 #[.val (.ref a), .val (.int st), .val (.int ct), .val (.int j), .unset] [(.int (1 : Int32))]))
    exact own_ret X0 hx (t := .boolean) hret hlk rfl (Or.inl ⟨rfl, by simp, _, rfl⟩) (hb hby own_d2_6) (by decide) (by decide) ⟨by simp only [own_fi, c1, if_true, if_false], e0, rfl⟩
set_option maxRecDepth 65536 in
set_option maxHeartbeats 40000000 in
theorem rmTe (l : Launch) (Z : State) (a0 : Array Value) (hw : ∀ d ∈ tables_1, d.before a0 Z = true) (a : Addr) (st : Int32) (ct : Int32) (j : Int32) (b : Addr) (h0 : Heap) (f pw : Nat → Int32) (jn kn : Nat) (F0 : OArr Z h0 a .char 12 (fun i => .int (f i))) (F1 : OArr Z h0 b .int 9 (fun i => .int (pw i))) (hj : j < ct → (st + j).toInt = jn ∧ jn < 12 ∧ (ct - 1 - j).toInt = kn ∧ kn < 9) :
    OMet l Z (⟨"io/countersign/TimestampFormReadDigitsPinLaw", "term", "([CIII[I)J"⟩ : MethodName) method_5_code 5 (some .long) (⟨0, 0, 0, 0⟩ : Room) #[(.ref a), (.int st), (.int ct), (.int j), (.ref b)] h0 (fun v h L => v = some (.long (own_te ct j (f jn) (pw kn))) ∧ h = h0 ∧ L = []) := by
  refine own_enter own_pn3 ?_
  intro p e s m below meth c T0 X0 hC e0
  obtain ⟨hx, hZ, hby, hml, hown, hret, hlk, hnm⟩ := hC
  have hown : s.vm.findClass "io/countersign/TimestampFormReadDigitsPinLaw" = some m.cls := hown
  refine own_at (own_ef3_RIIIR m a st ct j b) ?_
  show OFin p e below s _ _ _ (T0.setTop (mkF m 0 #[.val (.ref a), .val (.int st), .val (.int ct), .val (.int j), .val (.ref b)] []))
  refine own_st (fun _ kS => XS.iloadN X0.here hx rfl (hb hby own_d3_0) rfl kS) ?_
  show OFin p e below s _ _ _ (T0.setTop (mkF m 1 #[.val (.ref a), .val (.int st), .val (.int ct), .val (.int j), .val (.ref b)] [(.int j)]))
  refine own_st (fun _ kS => XS.iloadN X0.here hx rfl (hb hby own_d3_1) rfl kS) ?_
  show OFin p e below s _ _ _ (T0.setTop (mkF m 2 #[.val (.ref a), .val (.int st), .val (.int ct), .val (.int j), .val (.ref b)] [(.int ct), (.int j)]))
  by_cases c1 : j < ct
  · refine own_st (fun _ kS => XS.icmpYes X0.here hx rfl (pc0 := 2) (pc' := 7) rfl (hb hby own_d3_2) rfl (tlt c1).1 (by decide) (by decide) kS) ?_
    show OFin p e below s _ _ _ (T0.setTop (mkF m 7 #[.val (.ref a), .val (.int st), .val (.int ct), .val (.int j), .val (.ref b)] []))
    refine own_st (fun _ kS => XS.aloadN X0.here hx rfl (hb hby own_d3_7) rfl rfl kS) ?_
    show OFin p e below s _ _ _ (T0.setTop (mkF m 8 #[.val (.ref a), .val (.int st), .val (.int ct), .val (.int j), .val (.ref b)] [(.ref a)]))
    refine own_st (fun _ kS => XS.iloadN X0.here hx rfl (hb hby own_d3_8) rfl kS) ?_
    show OFin p e below s _ _ _ (T0.setTop (mkF m 9 #[.val (.ref a), .val (.int st), .val (.int ct), .val (.int j), .val (.ref b)] [(.int st), (.ref a)]))
    refine own_st (fun _ kS => XS.iloadN X0.here hx rfl (hb hby own_d3_9) rfl kS) ?_
    show OFin p e below s _ _ _ (T0.setTop (mkF m 10 #[.val (.ref a), .val (.int st), .val (.int ct), .val (.int j), .val (.ref b)] [(.int j), (.int st), (.ref a)]))
    refine own_st (fun _ kS => XS.iadd X0.here hx rfl (hb hby own_d3_10) rfl kS) ?_
    show OFin p e below s _ _ _ (T0.setTop (mkF m 11 #[.val (.ref a), .val (.int st), .val (.int ct), .val (.int j), .val (.ref b)] [(.int (st + j)), (.ref a)]))
    obtain ⟨j1, j2, j3, j4⟩ := hj c1
    obtain ⟨q0, q1⟩ := own_cl j1
    obtain ⟨q2, q3⟩ := own_cl j3
    obtain ⟨cl2, Ar2, S2, B2, H2⟩ := id F0
    refine own_st (X0.caload hx (j := (st + j)) (v := (.int (f jn))) (by rw [e0]; exact Ar2.1) (State.isArrayOf_alike hZ.alike Ar2.2.1) Ar2.2.2 (own_inb S2 q0 q1 j2) (own_hv H2 q1 j2) (g := (mkF m 11 #[.val (.ref a), .val (.int st), .val (.int ct), .val (.int j), .val (.ref b)] [(.int (st + j)), (.ref a)])) rfl rfl (hb hby own_d3_11)) ?_
    clear Ar2 S2 B2 H2
    show OFin p e below s _ _ _ (T0.setTop (mkF m 12 #[.val (.ref a), .val (.int st), .val (.int ct), .val (.int j), .val (.ref b)] [(.int (f jn))]))
    refine own_st (fun _ kS => XS.bipush X0.here hx rfl (hb hby own_d3_12) kS) ?_
    show OFin p e below s _ _ _ (T0.setTop (mkF m 14 #[.val (.ref a), .val (.int st), .val (.int ct), .val (.int j), .val (.ref b)] [(.int (48 : Int32)), (.int (f jn))]))
    refine own_st (fun _ kS => XS.isub X0.here hx rfl (hb hby own_d3_14) rfl kS) ?_
    show OFin p e below s _ _ _ (T0.setTop (mkF m 15 #[.val (.ref a), .val (.int st), .val (.int ct), .val (.int j), .val (.ref b)] [(.int ((f jn) - (48 : Int32)))]))
    refine own_st (fun _ kS => XS.i2l X0.here hx rfl (hb hby own_d3_15) rfl kS) ?_
    show OFin p e below s _ _ _ (T0.setTop (mkF m 16 #[.val (.ref a), .val (.int st), .val (.int ct), .val (.int j), .val (.ref b)] [(.long (((f jn) - (48 : Int32)).toInt64))]))
    refine own_st (fun _ kS => XS.aload X0.here hx rfl (hb hby own_d3_16) rfl rfl kS) ?_
    show OFin p e below s _ _ _ (T0.setTop (mkF m 18 #[.val (.ref a), .val (.int st), .val (.int ct), .val (.int j), .val (.ref b)] [(.ref b), (.long (((f jn) - (48 : Int32)).toInt64))]))
    refine own_st (fun _ kS => XS.iloadN X0.here hx rfl (hb hby own_d3_18) rfl kS) ?_
    show OFin p e below s _ _ _ (T0.setTop (mkF m 19 #[.val (.ref a), .val (.int st), .val (.int ct), .val (.int j), .val (.ref b)] [(.int ct), (.ref b), (.long (((f jn) - (48 : Int32)).toInt64))]))
    refine own_st (fun _ kS => XS.iconst X0.here hx rfl (hb hby own_d3_19) kS) ?_
    show OFin p e below s _ _ _ (T0.setTop (mkF m 20 #[.val (.ref a), .val (.int st), .val (.int ct), .val (.int j), .val (.ref b)] [(.int (1 : Int32)), (.int ct), (.ref b), (.long (((f jn) - (48 : Int32)).toInt64))]))
    refine own_st (fun _ kS => XS.isub X0.here hx rfl (hb hby own_d3_20) rfl kS) ?_
    show OFin p e below s _ _ _ (T0.setTop (mkF m 21 #[.val (.ref a), .val (.int st), .val (.int ct), .val (.int j), .val (.ref b)] [(.int (ct - (1 : Int32))), (.ref b), (.long (((f jn) - (48 : Int32)).toInt64))]))
    refine own_st (fun _ kS => XS.iloadN X0.here hx rfl (hb hby own_d3_21) rfl kS) ?_
    show OFin p e below s _ _ _ (T0.setTop (mkF m 22 #[.val (.ref a), .val (.int st), .val (.int ct), .val (.int j), .val (.ref b)] [(.int j), (.int (ct - (1 : Int32))), (.ref b), (.long (((f jn) - (48 : Int32)).toInt64))]))
    refine own_st (fun _ kS => XS.isub X0.here hx rfl (hb hby own_d3_22) rfl kS) ?_
    show OFin p e below s _ _ _ (T0.setTop (mkF m 23 #[.val (.ref a), .val (.int st), .val (.int ct), .val (.int j), .val (.ref b)] [(.int ((ct - (1 : Int32)) - j)), (.ref b), (.long (((f jn) - (48 : Int32)).toInt64))]))
    obtain ⟨cl3, Ar3, S3, B3, H3⟩ := id F1
    refine own_st (X0.iaload hx (j := ((ct - (1 : Int32)) - j)) (v := (.int (pw kn))) (by rw [e0]; exact Ar3.1) (State.isArrayOf_alike hZ.alike Ar3.2.1) Ar3.2.2 (own_inb S3 q2 q3 j4) (own_hv H3 q3 j4) (g := (mkF m 23 #[.val (.ref a), .val (.int st), .val (.int ct), .val (.int j), .val (.ref b)] [(.int ((ct - (1 : Int32)) - j)), (.ref b), (.long (((f jn) - (48 : Int32)).toInt64))])) rfl rfl (hb hby own_d3_23)) ?_
    clear Ar3 S3 B3 H3
    show OFin p e below s _ _ _ (T0.setTop (mkF m 24 #[.val (.ref a), .val (.int st), .val (.int ct), .val (.int j), .val (.ref b)] [(.int (pw kn)), (.long (((f jn) - (48 : Int32)).toInt64))]))
    refine own_st (fun _ kS => XS.i2l X0.here hx rfl (hb hby own_d3_24) rfl kS) ?_
    show OFin p e below s _ _ _ (T0.setTop (mkF m 25 #[.val (.ref a), .val (.int st), .val (.int ct), .val (.int j), .val (.ref b)] [(.long ((pw kn).toInt64)), (.long (((f jn) - (48 : Int32)).toInt64))]))
    refine own_st (fun _ kS => XS.lmul X0.here hx rfl (hb hby own_d3_25) rfl kS) ?_
    show OFin p e below s _ _ _ (T0.setTop (mkF m 26 #[.val (.ref a), .val (.int st), .val (.int ct), .val (.int j), .val (.ref b)] [(.long ((((f jn) - (48 : Int32)).toInt64) * ((pw kn).toInt64)))]))
    exact own_ret X0 hx (t := .long) hret hlk rfl (Or.inr (Or.inl ⟨rfl, rfl, _, rfl⟩)) (hb hby own_d3_26) (by decide) (by decide) ⟨by simp only [own_te, c1, if_true, if_false], e0, rfl⟩
  · refine own_st (fun _ kS => XS.icmpNo X0.here hx rfl (hb hby own_d3_2) rfl (flt c1).1 kS) ?_
    show OFin p e below s _ _ _ (T0.setTop (mkF m 5 #[.val (.ref a), .val (.int st), .val (.int ct), .val (.int j), .val (.ref b)] []))
    refine own_st (fun _ kS => XS.lconst X0.here hx rfl (hb hby own_d3_5) kS) ?_
    show OFin p e below s _ _ _ (T0.setTop (mkF m 6 #[.val (.ref a), .val (.int st), .val (.int ct), .val (.int j), .val (.ref b)] [(.long (0 : Int64))]))
    exact own_ret X0 hx (t := .long) hret hlk rfl (Or.inr (Or.inl ⟨rfl, rfl, _, rfl⟩)) (hb hby own_d3_6) (by decide) (by decide) ⟨by simp only [own_te, c1, if_true, if_false], e0, rfl⟩
set_option maxRecDepth 65536 in
set_option maxHeartbeats 40000000 in
theorem lpR {l : Launch} {Z : State} {a0 : Array Value} (hw : ∀ d ∈ tables_1, d.before a0 Z = true) {p : Program} {e : Env} {s : State} {m : MethodId} {args : Array Value} {below : List Frame} {meth : Method} {c : Code} (hC : OCtx Z p s m meth c "io/countersign/TimestampForm" "readDigits" prog_24_method_4_code 6 (some .int)) {Q : Option Value → Heap → List Loc → Prop} (x t : Addr) (kb : ClassId) (st ct : Int32) (cs : List Int32) (z : Int32) (fm : Value) (n0 : Nat) (hI : Heap) (hlen : cs.length = 12) (hp : ∀ c ∈ cs, ¬ c < 0 ∧ ¬ (255 : Int32) < c) (S_c : Sta Z Z.heap "java/lang/String" "COMPACT_STRINGS" "Z" (.int z)) (hz : ¬ z = 0) (S_f : Sta Z Z.heap "jdk/internal/util/Preconditions" "SIOOBE_FORMATTER" "Ljava/util/function/BiFunction;" fm) (rf : fm.isRef = true) (E_x : Exa Z hI x "java/lang/String") (F_v : Fld Z hI x "java/lang/String" "value" "[B" (.ref t)) (F_c : Fld Z hI x "java/lang/String" "coder" "B" (.int 0)) (V_t : Arv Z hI t kb .byte (12 : Int32) ((cs.map (fun c => c.toInt8.toInt32)).map Value.int) (.int 0)) (O : Old Z n0 hI) :
    ∀ (n : Nat) {T0 : State} {locs : List Loc} {cells slots : Nat} (X0 : Stand p l e (⟨4, 0, 0, 53⟩ : Room) s m args below meth c T0 locs cells slots) {h0 : Heap} (e0 : T0.heap = h0) (vl i : Int32) (inn : Nat) (s5 : Slot) (h5 : s5 = .unset ∨ ∃ w, s5 = .val w ∧ w.category = 1) (hi : i.toInt = inn) (hend : (st + ct).toInt = (inn + n : Nat)) (h12 : inn + n ≤ 12) (hh : h0 = hI) (hcs : cells ≤ 0) (hss : slots ≤ 0) (hL : locs = []) (hQ : Q (some (.int (own_rd (fun j => cs.getD j 0) n inn vl))) hI []), OFin p e below s 0 0 Q (T0.setTop (mkF m 5 #[.val (.ref x), .val (.int st), .val (.int ct), .val (.int vl), .val (.int i), s5] [])) := by
  have hC0 := hC
  obtain ⟨hx, hZ, hby, hml, hown, hret, hlk, hnm⟩ := hC
  intro n
  induction n with
  | zero =>
    intro T0 locs cells slots X0 h0 e0 vl i inn s5 h5 hi hend h12 hh hcs hss hL hQ
    show OFin p e below s _ _ _ (T0.setTop (mkF m 5 #[.val (.ref x), .val (.int st), .val (.int ct), .val (.int vl), .val (.int i), s5] []))
    subst hh hL
    refine own_st (fun _ kS => XS.iload X0.here hx rfl (hb hby own_d10_5) rfl kS) ?_
    show OFin p e below s _ _ _ (T0.setTop (mkF m 7 #[.val (.ref x), .val (.int st), .val (.int ct), .val (.int vl), .val (.int i), s5] [(.int i)]))
    refine own_st (fun _ kS => XS.iloadN X0.here hx rfl (hb hby own_d10_7) rfl kS) ?_
    show OFin p e below s _ _ _ (T0.setTop (mkF m 8 #[.val (.ref x), .val (.int st), .val (.int ct), .val (.int vl), .val (.int i), s5] [(.int st), (.int i)]))
    refine own_st (fun _ kS => XS.iloadN X0.here hx rfl (hb hby own_d10_8) rfl kS) ?_
    show OFin p e below s _ _ _ (T0.setTop (mkF m 9 #[.val (.ref x), .val (.int st), .val (.int ct), .val (.int vl), .val (.int i), s5] [(.int ct), (.int st), (.int i)]))
    refine own_st (fun _ kS => XS.iadd X0.here hx rfl (hb hby own_d10_9) rfl kS) ?_
    show OFin p e below s _ _ _ (T0.setTop (mkF m 10 #[.val (.ref x), .val (.int st), .val (.int ct), .val (.int vl), .val (.int i), s5] [(.int (st + ct)), (.int i)]))
    have c1 : ¬ i < (st + ct) := by rw [own_lt]; omega
    refine own_st (fun _ kS => XS.icmpYes X0.here hx rfl (pc0 := 10) (pc' := 52) rfl (hb hby own_d10_10) rfl (flt c1).2.1 (by decide) (by decide) kS) ?_
    show OFin p e below s _ _ _ (T0.setTop (mkF m 52 #[.val (.ref x), .val (.int st), .val (.int ct), .val (.int vl), .val (.int i), s5] []))
    refine own_st (fun _ kS => XS.iloadN X0.here hx rfl (hb hby own_d10_52) rfl kS) ?_
    show OFin p e below s _ _ _ (T0.setTop (mkF m 53 #[.val (.ref x), .val (.int st), .val (.int ct), .val (.int vl), .val (.int i), s5] [(.int vl)]))
    exact own_ret X0 hx (t := .int) hret hlk rfl (Or.inl ⟨rfl, by simp, _, rfl⟩) (hb hby own_d10_53) hcs hss (by rw [e0]; exact hQ)
  | succ n ih =>
    intro T0 locs cells slots X0 h0 e0 vl i inn s5 h5 hi hend h12 hh hcs hss hL hQ
    show OFin p e below s _ _ _ (T0.setTop (mkF m 5 #[.val (.ref x), .val (.int st), .val (.int ct), .val (.int vl), .val (.int i), s5] []))
    subst hh hL
    refine own_st (fun _ kS => XS.iload X0.here hx rfl (hb hby own_d10_5) rfl kS) ?_
    show OFin p e below s _ _ _ (T0.setTop (mkF m 7 #[.val (.ref x), .val (.int st), .val (.int ct), .val (.int vl), .val (.int i), s5] [(.int i)]))
    refine own_st (fun _ kS => XS.iloadN X0.here hx rfl (hb hby own_d10_7) rfl kS) ?_
    show OFin p e below s _ _ _ (T0.setTop (mkF m 8 #[.val (.ref x), .val (.int st), .val (.int ct), .val (.int vl), .val (.int i), s5] [(.int st), (.int i)]))
    refine own_st (fun _ kS => XS.iloadN X0.here hx rfl (hb hby own_d10_8) rfl kS) ?_
    show OFin p e below s _ _ _ (T0.setTop (mkF m 9 #[.val (.ref x), .val (.int st), .val (.int ct), .val (.int vl), .val (.int i), s5] [(.int ct), (.int st), (.int i)]))
    refine own_st (fun _ kS => XS.iadd X0.here hx rfl (hb hby own_d10_9) rfl kS) ?_
    show OFin p e below s _ _ _ (T0.setTop (mkF m 10 #[.val (.ref x), .val (.int st), .val (.int ct), .val (.int vl), .val (.int i), s5] [(.int (st + ct)), (.int i)]))
    have c1 : i < (st + ct) := by rw [own_lt]; omega
    refine own_st (fun _ kS => XS.icmpNo X0.here hx rfl (hb hby own_d10_10) rfl (tlt c1).2.1 kS) ?_
    show OFin p e below s _ _ _ (T0.setTop (mkF m 13 #[.val (.ref x), .val (.int st), .val (.int ct), .val (.int vl), .val (.int i), s5] []))
    refine own_st (fun _ kS => XS.aloadN X0.here hx rfl (hb hby own_d10_13) rfl rfl kS) ?_
    show OFin p e below s _ _ _ (T0.setTop (mkF m 14 #[.val (.ref x), .val (.int st), .val (.int ct), .val (.int vl), .val (.int i), s5] [(.ref x)]))
    refine own_st (fun _ kS => XS.iload X0.here hx rfl (hb hby own_d10_14) rfl kS) ?_
    show OFin p e below s _ _ _ (T0.setTop (mkF m 16 #[.val (.ref x), .val (.int st), .val (.int ct), .val (.int vl), .val (.int i), s5] [(.int i), (.ref x)]))
    have hch : ∀ d ∈ StrChars.Road.wordsChN, d.before a0 Z = true := fun d hd => hw d ((by decide +kernel : ∀ d ∈ StrChars.Road.wordsChN, d ∈ tables_1) d hd)
    have hcd : StrChars.Road.CodA cs 0 (12 : Int32) ((cs.map (fun c => c.toInt8.toInt32)).map Value.int) := StrChars.Road.codOf (n := 12) hlen (fun x hx => (hp x hx).2)
    have hji : i = Int32.ofNat inn := Int32.toInt_inj.mp (by rw [hi, own_tn (by omega)])
    obtain ⟨v4, T4, L4, X4, hQ4, st4⟩ := own_virtualB (fun v h' L => v = some (.int (cs.getD inn 0)) ∧ L = [] ∧ h' = h0) 0 0 X0 hx hZ (y := (⟨"java/lang/String", "charAt", "(I)C"⟩ : MethodName)) (z := (⟨"java/lang/String", "charAt", "(I)C"⟩ : MethodName)) (W := 0) (a := x) (argsL := [(.int i)]) (rest := []) hown (own_w hw 51 rfl) (own_w hw 52 rfl) (notFace_of_selects (args := #[]) (mvT hZ (own_w hw 54 rfl))) (own_w hw 54 rfl) (own_w hw 53 rfl) (StrChars.Road.chN (W := 0) hZ hch (kI := 4) (own_w hw 19 rfl) E_x F_v F_c V_t hcd (own_up hp) (Sta.ext O.2 S_c) hz (Sta.ext O.2 S_f) rf (by rw [hlen]; decide) (i := inn) (by rw [hlen]; omega) (j := i) hji (by decide) (by decide)) e0 E_x (g := (mkF m 16 #[.val (.ref x), .val (.int st), .val (.int ct), .val (.int vl), .val (.int i), s5] [(.int i), (.ref x)])) rfl (by rw [hml]; rfl) (lenOf own_pd0 rfl) rfl (by show 2 * 0 + _ ≤ _; exact Nat.le_of_eq rfl) (hb hby own_d10_16) (Nat.le_trans hcs (by decide)) (Nat.le_trans hss (by decide))
    obtain ⟨rfl, rfl, e4⟩ := hQ4
    rw [List.append_nil] at X4
    refine own_st (st4) ?_
    clear st4 X0 e0
    show OFin p e below s _ _ _ (T4.setTop (mkF m 19 #[.val (.ref x), .val (.int st), .val (.int ct), .val (.int vl), .val (.int i), s5] [(.int (cs.getD inn 0))]))
    refine own_st (fun _ kS => XS.bipush X4.here hx rfl (hb hby own_d10_19) kS) ?_
    show OFin p e below s _ _ _ (T4.setTop (mkF m 21 #[.val (.ref x), .val (.int st), .val (.int ct), .val (.int vl), .val (.int i), s5] [(.int (48 : Int32)), (.int (cs.getD inn 0))]))
    refine own_st (fun _ kS => XS.isub X4.here hx rfl (hb hby own_d10_21) rfl kS) ?_
    show OFin p e below s _ _ _ (T4.setTop (mkF m 22 #[.val (.ref x), .val (.int st), .val (.int ct), .val (.int vl), .val (.int i), s5] [(.int ((cs.getD inn 0) - (48 : Int32)))]))
    generalize hd : ((cs.getD inn 0) - (48 : Int32)) = d
    show OFin p e below s _ _ _ (T4.setTop (mkF m 22 #[.val (.ref x), .val (.int st), .val (.int ct), .val (.int vl), .val (.int i), s5] [(.int d)]))
    refine own_st (fun _ kS => XS.istoreS X4.here hx rfl (hb hby own_d10_22) rfl rfl h5 kS) ?_
    show OFin p e below s _ _ _ (T4.setTop (mkF m 24 #[.val (.ref x), .val (.int st), .val (.int ct), .val (.int vl), .val (.int i), .val (.int d)] []))
    refine own_st (fun _ kS => XS.iload X4.here hx rfl (hb hby own_d10_24) rfl kS) ?_
    show OFin p e below s _ _ _ (T4.setTop (mkF m 26 #[.val (.ref x), .val (.int st), .val (.int ct), .val (.int vl), .val (.int i), .val (.int d)] [(.int d)]))
    have hQ' : Q (some (.int (if d < 0 then -1 else if 9 < d then -1 else own_rd (fun j => cs.getD j 0) n (inn + 1) (vl * 10 + d)))) h0 [] := by rw [← hd]; exact hQ
    by_cases c2 : d < (0 : Int32)
    · refine own_st (fun _ kS => XS.ifYes X4.here hx rfl (pc0 := 26) (pc' := 36) rfl (hb hby own_d10_26) rfl ((if0 _ _).trans (tlt c2).1) (by decide) (by decide) kS) ?_
      show OFin p e below s _ _ _ (T4.setTop (mkF m 36 #[.val (.ref x), .val (.int st), .val (.int ct), .val (.int vl), .val (.int i), .val (.int d)] []))
      refine own_st (fun _ kS => XS.iconst X4.here hx rfl (hb hby own_d10_36) kS) ?_
      show OFin p e below s _ _ _ (T4.setTop (mkF m 37 #[.val (.ref x), .val (.int st), .val (.int ct), .val (.int vl), .val (.int i), .val (.int d)] [(.int (-1 : Int32))]))
      exact own_ret X4 hx (t := .int) hret hlk rfl (Or.inl ⟨rfl, by simp, _, rfl⟩) (hb hby own_d10_37) hcs hss (by rw [e4]; rw [if_pos c2] at hQ'; exact hQ')
    · refine own_st (fun _ kS => XS.ifNo X4.here hx rfl (hb hby own_d10_26) rfl ((if0 _ _).trans (flt c2).1) kS) ?_
      show OFin p e below s _ _ _ (T4.setTop (mkF m 29 #[.val (.ref x), .val (.int st), .val (.int ct), .val (.int vl), .val (.int i), .val (.int d)] []))
      refine own_st (fun _ kS => XS.iload X4.here hx rfl (hb hby own_d10_29) rfl kS) ?_
      show OFin p e below s _ _ _ (T4.setTop (mkF m 31 #[.val (.ref x), .val (.int st), .val (.int ct), .val (.int vl), .val (.int i), .val (.int d)] [(.int d)]))
      refine own_st (fun _ kS => XS.bipush X4.here hx rfl (hb hby own_d10_31) kS) ?_
      show OFin p e below s _ _ _ (T4.setTop (mkF m 33 #[.val (.ref x), .val (.int st), .val (.int ct), .val (.int vl), .val (.int i), .val (.int d)] [(.int (9 : Int32)), (.int d)]))
      by_cases c3 : (9 : Int32) < d
      · refine own_st (fun _ kS => XS.icmpNo X4.here hx rfl (hb hby own_d10_33) rfl (tlt c3).2.2.2 kS) ?_
        show OFin p e below s _ _ _ (T4.setTop (mkF m 36 #[.val (.ref x), .val (.int st), .val (.int ct), .val (.int vl), .val (.int i), .val (.int d)] []))
        refine own_st (fun _ kS => XS.iconst X4.here hx rfl (hb hby own_d10_36) kS) ?_
        show OFin p e below s _ _ _ (T4.setTop (mkF m 37 #[.val (.ref x), .val (.int st), .val (.int ct), .val (.int vl), .val (.int i), .val (.int d)] [(.int (-1 : Int32))]))
        exact own_ret X4 hx (t := .int) hret hlk rfl (Or.inl ⟨rfl, by simp, _, rfl⟩) (hb hby own_d10_37) hcs hss (by rw [e4]; rw [if_neg c2, if_pos c3] at hQ'; exact hQ')
      · refine own_st (fun _ kS => XS.icmpYes X4.here hx rfl (pc0 := 33) (pc' := 38) rfl (hb hby own_d10_33) rfl (flt c3).2.2.2 (by decide) (by decide) kS) ?_
        show OFin p e below s _ _ _ (T4.setTop (mkF m 38 #[.val (.ref x), .val (.int st), .val (.int ct), .val (.int vl), .val (.int i), .val (.int d)] []))
        refine own_st (fun _ kS => XS.iloadN X4.here hx rfl (hb hby own_d10_38) rfl kS) ?_
        show OFin p e below s _ _ _ (T4.setTop (mkF m 39 #[.val (.ref x), .val (.int st), .val (.int ct), .val (.int vl), .val (.int i), .val (.int d)] [(.int vl)]))
        refine own_st (fun _ kS => XS.bipush X4.here hx rfl (hb hby own_d10_39) kS) ?_
        show OFin p e below s _ _ _ (T4.setTop (mkF m 41 #[.val (.ref x), .val (.int st), .val (.int ct), .val (.int vl), .val (.int i), .val (.int d)] [(.int (10 : Int32)), (.int vl)]))
        refine own_st (fun _ kS => XS.imul X4.here hx rfl (hb hby own_d10_41) rfl kS) ?_
        show OFin p e below s _ _ _ (T4.setTop (mkF m 42 #[.val (.ref x), .val (.int st), .val (.int ct), .val (.int vl), .val (.int i), .val (.int d)] [(.int (vl * (10 : Int32)))]))
        refine own_st (fun _ kS => XS.iload X4.here hx rfl (hb hby own_d10_42) rfl kS) ?_
        show OFin p e below s _ _ _ (T4.setTop (mkF m 44 #[.val (.ref x), .val (.int st), .val (.int ct), .val (.int vl), .val (.int i), .val (.int d)] [(.int d), (.int (vl * (10 : Int32)))]))
        refine own_st (fun _ kS => XS.iadd X4.here hx rfl (hb hby own_d10_44) rfl kS) ?_
        show OFin p e below s _ _ _ (T4.setTop (mkF m 45 #[.val (.ref x), .val (.int st), .val (.int ct), .val (.int vl), .val (.int i), .val (.int d)] [(.int ((vl * (10 : Int32)) + d))]))
        refine own_st (fun _ kS => XS.istoreN X4.here hx rfl (hb hby own_d10_45) rfl (l' := #[.val (.ref x), .val (.int st), .val (.int ct), .val (.int ((vl * (10 : Int32)) + d)), .val (.int i), .val (.int d)]) rfl kS) ?_
        show OFin p e below s _ _ _ (T4.setTop (mkF m 46 #[.val (.ref x), .val (.int st), .val (.int ct), .val (.int ((vl * (10 : Int32)) + d)), .val (.int i), .val (.int d)] []))
        refine own_st (fun _ kS => XS.iinc X4.here hx rfl (hb hby own_d10_46) rfl (l' := #[.val (.ref x), .val (.int st), .val (.int ct), .val (.int ((vl * (10 : Int32)) + d)), .val (.int (i + (1 : Int32))), .val (.int d)]) rfl kS) ?_
        show OFin p e below s _ _ _ (T4.setTop (mkF m 49 #[.val (.ref x), .val (.int st), .val (.int ct), .val (.int ((vl * (10 : Int32)) + d)), .val (.int (i + (1 : Int32))), .val (.int d)] []))
        refine own_st (fun _ kS => XS.goto X4.here hx rfl (pc0 := 49) (pc' := 5) rfl (hb hby own_d10_49) (by decide) (by decide) kS) ?_
        show OFin p e below s _ _ _ (T4.setTop (mkF m 5 #[.val (.ref x), .val (.int st), .val (.int ct), .val (.int ((vl * (10 : Int32)) + d)), .val (.int (i + (1 : Int32))), .val (.int d)] []))
        rw [if_neg c2, if_neg c3] at hQ'
        obtain ⟨i', ei, hi'⟩ := own_inc i inn hi (by omega)
        rw [ei]
        show OFin p e below s _ _ _ (T4.setTop (mkF m 5 #[.val (.ref x), .val (.int st), .val (.int ct), .val (.int ((vl * (10 : Int32)) + d)), .val (.int i'), .val (.int d)] []))
        exact ih X4 e4 _ i' (inn + 1) _ (Or.inr ⟨_, rfl, rfl⟩) hi' (by rw [hend]; omega) (by omega) rfl hcs hss rfl hQ'
set_option maxRecDepth 65536 in
set_option maxHeartbeats 40000000 in
theorem rmRd (l : Launch) (Z : State) (a0 : Array Value) (hw : ∀ d ∈ tables_1, d.before a0 Z = true) (x : Addr) (st : Int32) (ct : Int32) (h0 : Heap) (t : Addr) (kb : ClassId) (cs : List Int32) (z : Int32) (fm : Value) (n0 sn cn : Nat) (hlen : cs.length = 12) (hp : ∀ c ∈ cs, ¬ c < 0 ∧ ¬ (255 : Int32) < c) (S_c : Sta Z Z.heap "java/lang/String" "COMPACT_STRINGS" "Z" (.int z)) (hz : ¬ z = 0) (S_f : Sta Z Z.heap "jdk/internal/util/Preconditions" "SIOOBE_FORMATTER" "Ljava/util/function/BiFunction;" fm) (rf : fm.isRef = true) (E_x : Exa Z h0 x "java/lang/String") (F_v : Fld Z h0 x "java/lang/String" "value" "[B" (.ref t)) (F_c : Fld Z h0 x "java/lang/String" "coder" "B" (.int 0)) (V_t : Arv Z h0 t kb .byte (12 : Int32) ((cs.map (fun c => c.toInt8.toInt32)).map Value.int) (.int 0)) (O : Old Z n0 h0) (hs : st.toInt = sn) (hend : (st + ct).toInt = (sn + cn : Nat)) (h12 : sn + cn ≤ 12) :
    OMet l Z (⟨"io/countersign/TimestampForm", "readDigits", "(Ljava/lang/String;II)I"⟩ : MethodName) prog_24_method_4_code 6 (some .int) (⟨4, 0, 0, 53⟩ : Room) #[(.ref x), (.int st), (.int ct)] h0 (fun v h L => v = some (.int (own_rd (fun j => cs.getD j 0) cn sn 0)) ∧ h = h0 ∧ L = []) := by
  refine own_enter own_pn10 ?_
  intro p e s m below meth c T0 X0 hC e0
  obtain ⟨hx, hZ, hby, hml, hown, hret, hlk, hnm⟩ := hC
  have hown : s.vm.findClass "io/countersign/TimestampForm" = some m.cls := hown
  refine own_at (own_ef10_RII m x st ct) ?_
  show OFin p e below s _ _ _ (T0.setTop (mkF m 0 #[.val (.ref x), .val (.int st), .val (.int ct), .unset, .unset, .unset] []))
  have hC0 : OCtx Z p s m meth c "io/countersign/TimestampForm" "readDigits" prog_24_method_4_code 6 (some .int) := ⟨hx, hZ, hby, hml, hown, hret, hlk, hnm⟩
  refine own_st (fun _ kS => XS.iconst X0.here hx rfl (hb hby own_d10_0) kS) ?_
  show OFin p e below s _ _ _ (T0.setTop (mkF m 1 #[.val (.ref x), .val (.int st), .val (.int ct), .unset, .unset, .unset] [(.int (0 : Int32))]))
  refine own_st (fun _ kS => XS.istoreN X0.here hx rfl (hb hby own_d10_1) rfl (l' := #[.val (.ref x), .val (.int st), .val (.int ct), .val (.int (0 : Int32)), .unset, .unset]) rfl kS) ?_
  show OFin p e below s _ _ _ (T0.setTop (mkF m 2 #[.val (.ref x), .val (.int st), .val (.int ct), .val (.int (0 : Int32)), .unset, .unset] []))
  refine own_st (fun _ kS => XS.iloadN X0.here hx rfl (hb hby own_d10_2) rfl kS) ?_
  show OFin p e below s _ _ _ (T0.setTop (mkF m 3 #[.val (.ref x), .val (.int st), .val (.int ct), .val (.int (0 : Int32)), .unset, .unset] [(.int st)]))
  refine own_st (fun _ kS => XS.istore X0.here hx rfl (hb hby own_d10_3) rfl (l' := #[.val (.ref x), .val (.int st), .val (.int ct), .val (.int (0 : Int32)), .val (.int st), .unset]) rfl kS) ?_
  show OFin p e below s _ _ _ (T0.setTop (mkF m 5 #[.val (.ref x), .val (.int st), .val (.int ct), .val (.int (0 : Int32)), .val (.int st), .unset] []))
  exact lpR hw hC0 x t kb st ct cs z fm n0 h0 hlen hp S_c hz S_f rf E_x F_v F_c V_t O cn X0 e0 0 st sn .unset (Or.inl rfl) hs hend h12 rfl (by decide) (by decide) rfl ⟨rfl, rfl, rfl⟩
set_option maxRecDepth 65536 in
set_option maxHeartbeats 40000000 in
theorem own_pT {l : Launch} {Z : State} {a0 : Array Value} (hw : ∀ d ∈ tables_1, d.before a0 Z = true) {p : Program} {e : Env} {s : State} {m : MethodId} {args : Array Value} {below : List Frame} {meth : Method} {c : Code} (hC : OCtx Z p s m meth c "io/countersign/TimestampFormReadDigitsPinLaw" "law" code maxLocals ret) {T0 : State} {locs : List Loc} {cells slots : Nat} (X0 : Stand p l e room_1 s m args below meth c T0 locs cells slots) {h0 : Heap} (e0 : T0.heap = h0) (n0 : Nat) (Z0 : n0 ≤ h0.size) (q1 q2 : Int64) (p3 p4 : Int32) (cc : Addr) (kC : ClassId) (cs : List Int32) (z : Int32) (fm : Value) (pw : Addr) (sn cn : Nat) (okv : Int32) (hlen : cs.length = 12) (hp : ∀ c ∈ cs, ¬ c < 0 ∧ ¬ (255 : Int32) < c) (S_c : Sta Z Z.heap "java/lang/String" "COMPACT_STRINGS" "Z" (.int z)) (hz : ¬ z = 0) (S_f : Sta Z Z.heap "jdk/internal/util/Preconditions" "SIOOBE_FORMATTER" "Ljava/util/function/BiFunction;" fm) (rf : fm.isRef = true) (V_c : Arv Z h0 cc kC .char (12 : Int32) (cs.map Value.int) (.int 0)) (O : Old Z n0 h0) (N0 : Fr n0 locs) (F_p : OArr Z h0 pw .int 9 (fun i => .int (own_pw i))) (hsn : sn ≤ 3) (hcn : cn ≤ 9) (hcs : cells = 2) (hss : slots = 21) (hok : okv = own_ok9 (own_g (fun j => cs.getD j 0) sn cn)) :
    OFin p e below s room_1.cells room_1.slots (fun v h L => v = some (.int (1 : Int32)) ∧ Fr n0 L) (T0.setTop (mkF m 319 #[.val (.long q1), .second, .val (.long q2), .second, .val (.int p3), .val (.int p4), .val (.ref cc), .val (.int (Int32.ofNat sn)), .val (.int (Int32.ofNat cn)), .val (.ref pw), .val (.int okv), .unset, .unset, .unset, .unset] [])) := by
  have hC0 := hC
  obtain ⟨hx, hZ, hby, hml, hown, hret, hlk, hnm⟩ := hC
  subst hcs hss
  have F_a : OArr Z h0 cc .char 12 (fun i => .int (cs.getD i 0)) := OArr.of V_c rfl (fun i _ => own_csA cs i)
  refine own_st (fun _ kS => XS.aload X0.here hx rfl (hb hby at_319) rfl rfl kS) ?_
  show OFin p e below s _ _ _ (T0.setTop (mkF m 321 #[.val (.long q1), .second, .val (.long q2), .second, .val (.int p3), .val (.int p4), .val (.ref cc), .val (.int (Int32.ofNat sn)), .val (.int (Int32.ofNat cn)), .val (.ref pw), .val (.int okv), .unset, .unset, .unset, .unset] [(.ref cc)]))
  refine own_st (fun _ kS => XS.iload X0.here hx rfl (hb hby at_321) rfl kS) ?_
  show OFin p e below s _ _ _ (T0.setTop (mkF m 323 #[.val (.long q1), .second, .val (.long q2), .second, .val (.int p3), .val (.int p4), .val (.ref cc), .val (.int (Int32.ofNat sn)), .val (.int (Int32.ofNat cn)), .val (.ref pw), .val (.int okv), .unset, .unset, .unset, .unset] [(.int (Int32.ofNat sn)), (.ref cc)]))
  refine own_st (fun _ kS => XS.iload X0.here hx rfl (hb hby at_323) rfl kS) ?_
  show OFin p e below s _ _ _ (T0.setTop (mkF m 325 #[.val (.long q1), .second, .val (.long q2), .second, .val (.int p3), .val (.int p4), .val (.ref cc), .val (.int (Int32.ofNat sn)), .val (.int (Int32.ofNat cn)), .val (.ref pw), .val (.int okv), .unset, .unset, .unset, .unset] [(.int (Int32.ofNat cn)), (.int (Int32.ofNat sn)), (.ref cc)]))
  refine own_st (fun _ kS => XS.iconst X0.here hx rfl (hb hby at_325) kS) ?_
  show OFin p e below s _ _ _ (T0.setTop (mkF m 326 #[.val (.long q1), .second, .val (.long q2), .second, .val (.int p3), .val (.int p4), .val (.ref cc), .val (.int (Int32.ofNat sn)), .val (.int (Int32.ofNat cn)), .val (.ref pw), .val (.int okv), .unset, .unset, .unset, .unset] [(.int (0 : Int32)), (.int (Int32.ofNat cn)), (.int (Int32.ofNat sn)), (.ref cc)]))
  refine own_st (fun _ kS => XS.aload X0.here hx rfl (hb hby at_326) rfl rfl kS) ?_
  show OFin p e below s _ _ _ (T0.setTop (mkF m 328 #[.val (.long q1), .second, .val (.long q2), .second, .val (.int p3), .val (.int p4), .val (.ref cc), .val (.int (Int32.ofNat sn)), .val (.int (Int32.ofNat cn)), .val (.ref pw), .val (.int okv), .unset, .unset, .unset, .unset] [(.ref pw), (.int (0 : Int32)), (.int (Int32.ofNat cn)), (.int (Int32.ofNat sn)), (.ref cc)]))
  obtain ⟨v5, T5, L5, X5, hQ5, st5⟩ := own_static X0 hx hZ (y := (⟨"io/countersign/TimestampFormReadDigitsPinLaw", "term", "([CIII[I)J"⟩ : MethodName)) (rm := ⟨0, 0, 0, 0⟩) (W := 0) (argsL := [(.ref cc), (.int (Int32.ofNat sn)), (.int (Int32.ofNat cn)), (.int (0 : Int32)), (.ref pw)]) (rest := []) hown (own_w hw 15 rfl) (own_w hw 16 rfl) (own_w hw 3 rfl) (own_w hw 17 rfl) (rmTe l Z a0 hw cc _ _ (0 : Int32) pw h0 (fun j => cs.getD j 0) own_pw (sn + 0) (cn - 1 - 0) F_a F_p (fun q => by have q1 : 0 < cn := (own_nlt (a := 0) (by decide) (by omega)).mp q; exact ⟨own_add (a := sn) (b := 0) (by omega), by omega, own_kn (j := 0) (by omega) q1, by omega⟩)) e0 (g := (mkF m 328 #[.val (.long q1), .second, .val (.long q2), .second, .val (.int p3), .val (.int p4), .val (.ref cc), .val (.int (Int32.ofNat sn)), .val (.int (Int32.ofNat cn)), .val (.ref pw), .val (.int okv), .unset, .unset, .unset, .unset] [(.ref pw), (.int (0 : Int32)), (.int (Int32.ofNat cn)), (.int (Int32.ofNat sn)), (.ref cc)])) rfl (by rw [hml]; rfl) (lenOf own_pd1 rfl) rfl (by show 2 * 0 + _ ≤ _; exact Nat.le_of_eq rfl) (hb hby at_328) (by decide) (by decide) (by decide) (by decide)
  obtain ⟨rfl, e5, rfl⟩ := hQ5
  rw [List.append_nil] at X5
  refine own_st (st5) ?_
  clear st5 X0 e0
  show OFin p e below s _ _ _ (T5.setTop (mkF m 331 #[.val (.long q1), .second, .val (.long q2), .second, .val (.int p3), .val (.int p4), .val (.ref cc), .val (.int (Int32.ofNat sn)), .val (.int (Int32.ofNat cn)), .val (.ref pw), .val (.int okv), .unset, .unset, .unset, .unset] [(.long (own_T (fun j => cs.getD j 0) sn cn 0))]))
  refine own_st (fun _ kS => XS.aload X5.here hx rfl (hb hby at_331) rfl rfl kS) ?_
  show OFin p e below s _ _ _ (T5.setTop (mkF m 333 #[.val (.long q1), .second, .val (.long q2), .second, .val (.int p3), .val (.int p4), .val (.ref cc), .val (.int (Int32.ofNat sn)), .val (.int (Int32.ofNat cn)), .val (.ref pw), .val (.int okv), .unset, .unset, .unset, .unset] [(.ref cc), (.long (own_T (fun j => cs.getD j 0) sn cn 0))]))
  refine own_st (fun _ kS => XS.iload X5.here hx rfl (hb hby at_333) rfl kS) ?_
  show OFin p e below s _ _ _ (T5.setTop (mkF m 335 #[.val (.long q1), .second, .val (.long q2), .second, .val (.int p3), .val (.int p4), .val (.ref cc), .val (.int (Int32.ofNat sn)), .val (.int (Int32.ofNat cn)), .val (.ref pw), .val (.int okv), .unset, .unset, .unset, .unset] [(.int (Int32.ofNat sn)), (.ref cc), (.long (own_T (fun j => cs.getD j 0) sn cn 0))]))
  refine own_st (fun _ kS => XS.iload X5.here hx rfl (hb hby at_335) rfl kS) ?_
  show OFin p e below s _ _ _ (T5.setTop (mkF m 337 #[.val (.long q1), .second, .val (.long q2), .second, .val (.int p3), .val (.int p4), .val (.ref cc), .val (.int (Int32.ofNat sn)), .val (.int (Int32.ofNat cn)), .val (.ref pw), .val (.int okv), .unset, .unset, .unset, .unset] [(.int (Int32.ofNat cn)), (.int (Int32.ofNat sn)), (.ref cc), (.long (own_T (fun j => cs.getD j 0) sn cn 0))]))
  refine own_st (fun _ kS => XS.iconst X5.here hx rfl (hb hby at_337) kS) ?_
  show OFin p e below s _ _ _ (T5.setTop (mkF m 338 #[.val (.long q1), .second, .val (.long q2), .second, .val (.int p3), .val (.int p4), .val (.ref cc), .val (.int (Int32.ofNat sn)), .val (.int (Int32.ofNat cn)), .val (.ref pw), .val (.int okv), .unset, .unset, .unset, .unset] [(.int (1 : Int32)), (.int (Int32.ofNat cn)), (.int (Int32.ofNat sn)), (.ref cc), (.long (own_T (fun j => cs.getD j 0) sn cn 0))]))
  refine own_st (fun _ kS => XS.aload X5.here hx rfl (hb hby at_338) rfl rfl kS) ?_
  show OFin p e below s _ _ _ (T5.setTop (mkF m 340 #[.val (.long q1), .second, .val (.long q2), .second, .val (.int p3), .val (.int p4), .val (.ref cc), .val (.int (Int32.ofNat sn)), .val (.int (Int32.ofNat cn)), .val (.ref pw), .val (.int okv), .unset, .unset, .unset, .unset] [(.ref pw), (.int (1 : Int32)), (.int (Int32.ofNat cn)), (.int (Int32.ofNat sn)), (.ref cc), (.long (own_T (fun j => cs.getD j 0) sn cn 0))]))
  obtain ⟨v6, T6, L6, X6, hQ6, st6⟩ := own_static X5 hx hZ (y := (⟨"io/countersign/TimestampFormReadDigitsPinLaw", "term", "([CIII[I)J"⟩ : MethodName)) (rm := ⟨0, 0, 0, 0⟩) (W := 2) (argsL := [(.ref cc), (.int (Int32.ofNat sn)), (.int (Int32.ofNat cn)), (.int (1 : Int32)), (.ref pw)]) (rest := [(.long (own_T (fun j => cs.getD j 0) sn cn 0))]) hown (own_w hw 15 rfl) (own_w hw 16 rfl) (own_w hw 3 rfl) (own_w hw 17 rfl) (rmTe l Z a0 hw cc _ _ (1 : Int32) pw h0 (fun j => cs.getD j 0) own_pw (sn + 1) (cn - 1 - 1) F_a F_p (fun q => by have q1 : 1 < cn := (own_nlt (a := 1) (by decide) (by omega)).mp q; exact ⟨own_add (a := sn) (b := 1) (by omega), by omega, own_kn (j := 1) (by omega) q1, by omega⟩)) e5 (g := (mkF m 340 #[.val (.long q1), .second, .val (.long q2), .second, .val (.int p3), .val (.int p4), .val (.ref cc), .val (.int (Int32.ofNat sn)), .val (.int (Int32.ofNat cn)), .val (.ref pw), .val (.int okv), .unset, .unset, .unset, .unset] [(.ref pw), (.int (1 : Int32)), (.int (Int32.ofNat cn)), (.int (Int32.ofNat sn)), (.ref cc), (.long (own_T (fun j => cs.getD j 0) sn cn 0))])) rfl (by rw [hml]; rfl) (lenOf own_pd1 rfl) rfl (by show 2 * 0 + _ ≤ _; exact Nat.le_of_eq rfl) (hb hby at_340) (by decide) (by decide) (by decide) (by decide)
  obtain ⟨rfl, e6, rfl⟩ := hQ6
  rw [List.append_nil] at X6
  refine own_st (st6) ?_
  clear st6 X5 e5
  show OFin p e below s _ _ _ (T6.setTop (mkF m 343 #[.val (.long q1), .second, .val (.long q2), .second, .val (.int p3), .val (.int p4), .val (.ref cc), .val (.int (Int32.ofNat sn)), .val (.int (Int32.ofNat cn)), .val (.ref pw), .val (.int okv), .unset, .unset, .unset, .unset] [(.long (own_T (fun j => cs.getD j 0) sn cn 1)), (.long (own_T (fun j => cs.getD j 0) sn cn 0))]))
  refine own_st (fun _ kS => XS.ladd X6.here hx rfl (hb hby at_343) rfl kS) ?_
  show OFin p e below s _ _ _ (T6.setTop (mkF m 344 #[.val (.long q1), .second, .val (.long q2), .second, .val (.int p3), .val (.int p4), .val (.ref cc), .val (.int (Int32.ofNat sn)), .val (.int (Int32.ofNat cn)), .val (.ref pw), .val (.int okv), .unset, .unset, .unset, .unset] [(.long ((own_T (fun j => cs.getD j 0) sn cn 0) + (own_T (fun j => cs.getD j 0) sn cn 1)))]))
  refine own_st (fun _ kS => XS.aload X6.here hx rfl (hb hby at_344) rfl rfl kS) ?_
  show OFin p e below s _ _ _ (T6.setTop (mkF m 346 #[.val (.long q1), .second, .val (.long q2), .second, .val (.int p3), .val (.int p4), .val (.ref cc), .val (.int (Int32.ofNat sn)), .val (.int (Int32.ofNat cn)), .val (.ref pw), .val (.int okv), .unset, .unset, .unset, .unset] [(.ref cc), (.long ((own_T (fun j => cs.getD j 0) sn cn 0) + (own_T (fun j => cs.getD j 0) sn cn 1)))]))
  refine own_st (fun _ kS => XS.iload X6.here hx rfl (hb hby at_346) rfl kS) ?_
  show OFin p e below s _ _ _ (T6.setTop (mkF m 348 #[.val (.long q1), .second, .val (.long q2), .second, .val (.int p3), .val (.int p4), .val (.ref cc), .val (.int (Int32.ofNat sn)), .val (.int (Int32.ofNat cn)), .val (.ref pw), .val (.int okv), .unset, .unset, .unset, .unset] [(.int (Int32.ofNat sn)), (.ref cc), (.long ((own_T (fun j => cs.getD j 0) sn cn 0) + (own_T (fun j => cs.getD j 0) sn cn 1)))]))
  refine own_st (fun _ kS => XS.iload X6.here hx rfl (hb hby at_348) rfl kS) ?_
  show OFin p e below s _ _ _ (T6.setTop (mkF m 350 #[.val (.long q1), .second, .val (.long q2), .second, .val (.int p3), .val (.int p4), .val (.ref cc), .val (.int (Int32.ofNat sn)), .val (.int (Int32.ofNat cn)), .val (.ref pw), .val (.int okv), .unset, .unset, .unset, .unset] [(.int (Int32.ofNat cn)), (.int (Int32.ofNat sn)), (.ref cc), (.long ((own_T (fun j => cs.getD j 0) sn cn 0) + (own_T (fun j => cs.getD j 0) sn cn 1)))]))
  refine own_st (fun _ kS => XS.iconst X6.here hx rfl (hb hby at_350) kS) ?_
  show OFin p e below s _ _ _ (T6.setTop (mkF m 351 #[.val (.long q1), .second, .val (.long q2), .second, .val (.int p3), .val (.int p4), .val (.ref cc), .val (.int (Int32.ofNat sn)), .val (.int (Int32.ofNat cn)), .val (.ref pw), .val (.int okv), .unset, .unset, .unset, .unset] [(.int (2 : Int32)), (.int (Int32.ofNat cn)), (.int (Int32.ofNat sn)), (.ref cc), (.long ((own_T (fun j => cs.getD j 0) sn cn 0) + (own_T (fun j => cs.getD j 0) sn cn 1)))]))
  refine own_st (fun _ kS => XS.aload X6.here hx rfl (hb hby at_351) rfl rfl kS) ?_
  show OFin p e below s _ _ _ (T6.setTop (mkF m 353 #[.val (.long q1), .second, .val (.long q2), .second, .val (.int p3), .val (.int p4), .val (.ref cc), .val (.int (Int32.ofNat sn)), .val (.int (Int32.ofNat cn)), .val (.ref pw), .val (.int okv), .unset, .unset, .unset, .unset] [(.ref pw), (.int (2 : Int32)), (.int (Int32.ofNat cn)), (.int (Int32.ofNat sn)), (.ref cc), (.long ((own_T (fun j => cs.getD j 0) sn cn 0) + (own_T (fun j => cs.getD j 0) sn cn 1)))]))
  obtain ⟨v7, T7, L7, X7, hQ7, st7⟩ := own_static X6 hx hZ (y := (⟨"io/countersign/TimestampFormReadDigitsPinLaw", "term", "([CIII[I)J"⟩ : MethodName)) (rm := ⟨0, 0, 0, 0⟩) (W := 2) (argsL := [(.ref cc), (.int (Int32.ofNat sn)), (.int (Int32.ofNat cn)), (.int (2 : Int32)), (.ref pw)]) (rest := [(.long ((own_T (fun j => cs.getD j 0) sn cn 0) + (own_T (fun j => cs.getD j 0) sn cn 1)))]) hown (own_w hw 15 rfl) (own_w hw 16 rfl) (own_w hw 3 rfl) (own_w hw 17 rfl) (rmTe l Z a0 hw cc _ _ (2 : Int32) pw h0 (fun j => cs.getD j 0) own_pw (sn + 2) (cn - 1 - 2) F_a F_p (fun q => by have q1 : 2 < cn := (own_nlt (a := 2) (by decide) (by omega)).mp q; exact ⟨own_add (a := sn) (b := 2) (by omega), by omega, own_kn (j := 2) (by omega) q1, by omega⟩)) e6 (g := (mkF m 353 #[.val (.long q1), .second, .val (.long q2), .second, .val (.int p3), .val (.int p4), .val (.ref cc), .val (.int (Int32.ofNat sn)), .val (.int (Int32.ofNat cn)), .val (.ref pw), .val (.int okv), .unset, .unset, .unset, .unset] [(.ref pw), (.int (2 : Int32)), (.int (Int32.ofNat cn)), (.int (Int32.ofNat sn)), (.ref cc), (.long ((own_T (fun j => cs.getD j 0) sn cn 0) + (own_T (fun j => cs.getD j 0) sn cn 1)))])) rfl (by rw [hml]; rfl) (lenOf own_pd1 rfl) rfl (by show 2 * 0 + _ ≤ _; exact Nat.le_of_eq rfl) (hb hby at_353) (by decide) (by decide) (by decide) (by decide)
  obtain ⟨rfl, e7, rfl⟩ := hQ7
  rw [List.append_nil] at X7
  refine own_st (st7) ?_
  clear st7 X6 e6
  show OFin p e below s _ _ _ (T7.setTop (mkF m 356 #[.val (.long q1), .second, .val (.long q2), .second, .val (.int p3), .val (.int p4), .val (.ref cc), .val (.int (Int32.ofNat sn)), .val (.int (Int32.ofNat cn)), .val (.ref pw), .val (.int okv), .unset, .unset, .unset, .unset] [(.long (own_T (fun j => cs.getD j 0) sn cn 2)), (.long ((own_T (fun j => cs.getD j 0) sn cn 0) + (own_T (fun j => cs.getD j 0) sn cn 1)))]))
  refine own_st (fun _ kS => XS.ladd X7.here hx rfl (hb hby at_356) rfl kS) ?_
  show OFin p e below s _ _ _ (T7.setTop (mkF m 357 #[.val (.long q1), .second, .val (.long q2), .second, .val (.int p3), .val (.int p4), .val (.ref cc), .val (.int (Int32.ofNat sn)), .val (.int (Int32.ofNat cn)), .val (.ref pw), .val (.int okv), .unset, .unset, .unset, .unset] [(.long (((own_T (fun j => cs.getD j 0) sn cn 0) + (own_T (fun j => cs.getD j 0) sn cn 1)) + (own_T (fun j => cs.getD j 0) sn cn 2)))]))
  refine own_st (fun _ kS => XS.aload X7.here hx rfl (hb hby at_357) rfl rfl kS) ?_
  show OFin p e below s _ _ _ (T7.setTop (mkF m 359 #[.val (.long q1), .second, .val (.long q2), .second, .val (.int p3), .val (.int p4), .val (.ref cc), .val (.int (Int32.ofNat sn)), .val (.int (Int32.ofNat cn)), .val (.ref pw), .val (.int okv), .unset, .unset, .unset, .unset] [(.ref cc), (.long (((own_T (fun j => cs.getD j 0) sn cn 0) + (own_T (fun j => cs.getD j 0) sn cn 1)) + (own_T (fun j => cs.getD j 0) sn cn 2)))]))
  refine own_st (fun _ kS => XS.iload X7.here hx rfl (hb hby at_359) rfl kS) ?_
  show OFin p e below s _ _ _ (T7.setTop (mkF m 361 #[.val (.long q1), .second, .val (.long q2), .second, .val (.int p3), .val (.int p4), .val (.ref cc), .val (.int (Int32.ofNat sn)), .val (.int (Int32.ofNat cn)), .val (.ref pw), .val (.int okv), .unset, .unset, .unset, .unset] [(.int (Int32.ofNat sn)), (.ref cc), (.long (((own_T (fun j => cs.getD j 0) sn cn 0) + (own_T (fun j => cs.getD j 0) sn cn 1)) + (own_T (fun j => cs.getD j 0) sn cn 2)))]))
  refine own_st (fun _ kS => XS.iload X7.here hx rfl (hb hby at_361) rfl kS) ?_
  show OFin p e below s _ _ _ (T7.setTop (mkF m 363 #[.val (.long q1), .second, .val (.long q2), .second, .val (.int p3), .val (.int p4), .val (.ref cc), .val (.int (Int32.ofNat sn)), .val (.int (Int32.ofNat cn)), .val (.ref pw), .val (.int okv), .unset, .unset, .unset, .unset] [(.int (Int32.ofNat cn)), (.int (Int32.ofNat sn)), (.ref cc), (.long (((own_T (fun j => cs.getD j 0) sn cn 0) + (own_T (fun j => cs.getD j 0) sn cn 1)) + (own_T (fun j => cs.getD j 0) sn cn 2)))]))
  refine own_st (fun _ kS => XS.iconst X7.here hx rfl (hb hby at_363) kS) ?_
  show OFin p e below s _ _ _ (T7.setTop (mkF m 364 #[.val (.long q1), .second, .val (.long q2), .second, .val (.int p3), .val (.int p4), .val (.ref cc), .val (.int (Int32.ofNat sn)), .val (.int (Int32.ofNat cn)), .val (.ref pw), .val (.int okv), .unset, .unset, .unset, .unset] [(.int (3 : Int32)), (.int (Int32.ofNat cn)), (.int (Int32.ofNat sn)), (.ref cc), (.long (((own_T (fun j => cs.getD j 0) sn cn 0) + (own_T (fun j => cs.getD j 0) sn cn 1)) + (own_T (fun j => cs.getD j 0) sn cn 2)))]))
  refine own_st (fun _ kS => XS.aload X7.here hx rfl (hb hby at_364) rfl rfl kS) ?_
  show OFin p e below s _ _ _ (T7.setTop (mkF m 366 #[.val (.long q1), .second, .val (.long q2), .second, .val (.int p3), .val (.int p4), .val (.ref cc), .val (.int (Int32.ofNat sn)), .val (.int (Int32.ofNat cn)), .val (.ref pw), .val (.int okv), .unset, .unset, .unset, .unset] [(.ref pw), (.int (3 : Int32)), (.int (Int32.ofNat cn)), (.int (Int32.ofNat sn)), (.ref cc), (.long (((own_T (fun j => cs.getD j 0) sn cn 0) + (own_T (fun j => cs.getD j 0) sn cn 1)) + (own_T (fun j => cs.getD j 0) sn cn 2)))]))
  obtain ⟨v8, T8, L8, X8, hQ8, st8⟩ := own_static X7 hx hZ (y := (⟨"io/countersign/TimestampFormReadDigitsPinLaw", "term", "([CIII[I)J"⟩ : MethodName)) (rm := ⟨0, 0, 0, 0⟩) (W := 2) (argsL := [(.ref cc), (.int (Int32.ofNat sn)), (.int (Int32.ofNat cn)), (.int (3 : Int32)), (.ref pw)]) (rest := [(.long (((own_T (fun j => cs.getD j 0) sn cn 0) + (own_T (fun j => cs.getD j 0) sn cn 1)) + (own_T (fun j => cs.getD j 0) sn cn 2)))]) hown (own_w hw 15 rfl) (own_w hw 16 rfl) (own_w hw 3 rfl) (own_w hw 17 rfl) (rmTe l Z a0 hw cc _ _ (3 : Int32) pw h0 (fun j => cs.getD j 0) own_pw (sn + 3) (cn - 1 - 3) F_a F_p (fun q => by have q1 : 3 < cn := (own_nlt (a := 3) (by decide) (by omega)).mp q; exact ⟨own_add (a := sn) (b := 3) (by omega), by omega, own_kn (j := 3) (by omega) q1, by omega⟩)) e7 (g := (mkF m 366 #[.val (.long q1), .second, .val (.long q2), .second, .val (.int p3), .val (.int p4), .val (.ref cc), .val (.int (Int32.ofNat sn)), .val (.int (Int32.ofNat cn)), .val (.ref pw), .val (.int okv), .unset, .unset, .unset, .unset] [(.ref pw), (.int (3 : Int32)), (.int (Int32.ofNat cn)), (.int (Int32.ofNat sn)), (.ref cc), (.long (((own_T (fun j => cs.getD j 0) sn cn 0) + (own_T (fun j => cs.getD j 0) sn cn 1)) + (own_T (fun j => cs.getD j 0) sn cn 2)))])) rfl (by rw [hml]; rfl) (lenOf own_pd1 rfl) rfl (by show 2 * 0 + _ ≤ _; exact Nat.le_of_eq rfl) (hb hby at_366) (by decide) (by decide) (by decide) (by decide)
  obtain ⟨rfl, e8, rfl⟩ := hQ8
  rw [List.append_nil] at X8
  refine own_st (st8) ?_
  clear st8 X7 e7
  show OFin p e below s _ _ _ (T8.setTop (mkF m 369 #[.val (.long q1), .second, .val (.long q2), .second, .val (.int p3), .val (.int p4), .val (.ref cc), .val (.int (Int32.ofNat sn)), .val (.int (Int32.ofNat cn)), .val (.ref pw), .val (.int okv), .unset, .unset, .unset, .unset] [(.long (own_T (fun j => cs.getD j 0) sn cn 3)), (.long (((own_T (fun j => cs.getD j 0) sn cn 0) + (own_T (fun j => cs.getD j 0) sn cn 1)) + (own_T (fun j => cs.getD j 0) sn cn 2)))]))
  refine own_st (fun _ kS => XS.ladd X8.here hx rfl (hb hby at_369) rfl kS) ?_
  show OFin p e below s _ _ _ (T8.setTop (mkF m 370 #[.val (.long q1), .second, .val (.long q2), .second, .val (.int p3), .val (.int p4), .val (.ref cc), .val (.int (Int32.ofNat sn)), .val (.int (Int32.ofNat cn)), .val (.ref pw), .val (.int okv), .unset, .unset, .unset, .unset] [(.long ((((own_T (fun j => cs.getD j 0) sn cn 0) + (own_T (fun j => cs.getD j 0) sn cn 1)) + (own_T (fun j => cs.getD j 0) sn cn 2)) + (own_T (fun j => cs.getD j 0) sn cn 3)))]))
  refine own_st (fun _ kS => XS.aload X8.here hx rfl (hb hby at_370) rfl rfl kS) ?_
  show OFin p e below s _ _ _ (T8.setTop (mkF m 372 #[.val (.long q1), .second, .val (.long q2), .second, .val (.int p3), .val (.int p4), .val (.ref cc), .val (.int (Int32.ofNat sn)), .val (.int (Int32.ofNat cn)), .val (.ref pw), .val (.int okv), .unset, .unset, .unset, .unset] [(.ref cc), (.long ((((own_T (fun j => cs.getD j 0) sn cn 0) + (own_T (fun j => cs.getD j 0) sn cn 1)) + (own_T (fun j => cs.getD j 0) sn cn 2)) + (own_T (fun j => cs.getD j 0) sn cn 3)))]))
  refine own_st (fun _ kS => XS.iload X8.here hx rfl (hb hby at_372) rfl kS) ?_
  show OFin p e below s _ _ _ (T8.setTop (mkF m 374 #[.val (.long q1), .second, .val (.long q2), .second, .val (.int p3), .val (.int p4), .val (.ref cc), .val (.int (Int32.ofNat sn)), .val (.int (Int32.ofNat cn)), .val (.ref pw), .val (.int okv), .unset, .unset, .unset, .unset] [(.int (Int32.ofNat sn)), (.ref cc), (.long ((((own_T (fun j => cs.getD j 0) sn cn 0) + (own_T (fun j => cs.getD j 0) sn cn 1)) + (own_T (fun j => cs.getD j 0) sn cn 2)) + (own_T (fun j => cs.getD j 0) sn cn 3)))]))
  refine own_st (fun _ kS => XS.iload X8.here hx rfl (hb hby at_374) rfl kS) ?_
  show OFin p e below s _ _ _ (T8.setTop (mkF m 376 #[.val (.long q1), .second, .val (.long q2), .second, .val (.int p3), .val (.int p4), .val (.ref cc), .val (.int (Int32.ofNat sn)), .val (.int (Int32.ofNat cn)), .val (.ref pw), .val (.int okv), .unset, .unset, .unset, .unset] [(.int (Int32.ofNat cn)), (.int (Int32.ofNat sn)), (.ref cc), (.long ((((own_T (fun j => cs.getD j 0) sn cn 0) + (own_T (fun j => cs.getD j 0) sn cn 1)) + (own_T (fun j => cs.getD j 0) sn cn 2)) + (own_T (fun j => cs.getD j 0) sn cn 3)))]))
  refine own_st (fun _ kS => XS.iconst X8.here hx rfl (hb hby at_376) kS) ?_
  show OFin p e below s _ _ _ (T8.setTop (mkF m 377 #[.val (.long q1), .second, .val (.long q2), .second, .val (.int p3), .val (.int p4), .val (.ref cc), .val (.int (Int32.ofNat sn)), .val (.int (Int32.ofNat cn)), .val (.ref pw), .val (.int okv), .unset, .unset, .unset, .unset] [(.int (4 : Int32)), (.int (Int32.ofNat cn)), (.int (Int32.ofNat sn)), (.ref cc), (.long ((((own_T (fun j => cs.getD j 0) sn cn 0) + (own_T (fun j => cs.getD j 0) sn cn 1)) + (own_T (fun j => cs.getD j 0) sn cn 2)) + (own_T (fun j => cs.getD j 0) sn cn 3)))]))
  refine own_st (fun _ kS => XS.aload X8.here hx rfl (hb hby at_377) rfl rfl kS) ?_
  show OFin p e below s _ _ _ (T8.setTop (mkF m 379 #[.val (.long q1), .second, .val (.long q2), .second, .val (.int p3), .val (.int p4), .val (.ref cc), .val (.int (Int32.ofNat sn)), .val (.int (Int32.ofNat cn)), .val (.ref pw), .val (.int okv), .unset, .unset, .unset, .unset] [(.ref pw), (.int (4 : Int32)), (.int (Int32.ofNat cn)), (.int (Int32.ofNat sn)), (.ref cc), (.long ((((own_T (fun j => cs.getD j 0) sn cn 0) + (own_T (fun j => cs.getD j 0) sn cn 1)) + (own_T (fun j => cs.getD j 0) sn cn 2)) + (own_T (fun j => cs.getD j 0) sn cn 3)))]))
  obtain ⟨v9, T9, L9, X9, hQ9, st9⟩ := own_static X8 hx hZ (y := (⟨"io/countersign/TimestampFormReadDigitsPinLaw", "term", "([CIII[I)J"⟩ : MethodName)) (rm := ⟨0, 0, 0, 0⟩) (W := 2) (argsL := [(.ref cc), (.int (Int32.ofNat sn)), (.int (Int32.ofNat cn)), (.int (4 : Int32)), (.ref pw)]) (rest := [(.long ((((own_T (fun j => cs.getD j 0) sn cn 0) + (own_T (fun j => cs.getD j 0) sn cn 1)) + (own_T (fun j => cs.getD j 0) sn cn 2)) + (own_T (fun j => cs.getD j 0) sn cn 3)))]) hown (own_w hw 15 rfl) (own_w hw 16 rfl) (own_w hw 3 rfl) (own_w hw 17 rfl) (rmTe l Z a0 hw cc _ _ (4 : Int32) pw h0 (fun j => cs.getD j 0) own_pw (sn + 4) (cn - 1 - 4) F_a F_p (fun q => by have q1 : 4 < cn := (own_nlt (a := 4) (by decide) (by omega)).mp q; exact ⟨own_add (a := sn) (b := 4) (by omega), by omega, own_kn (j := 4) (by omega) q1, by omega⟩)) e8 (g := (mkF m 379 #[.val (.long q1), .second, .val (.long q2), .second, .val (.int p3), .val (.int p4), .val (.ref cc), .val (.int (Int32.ofNat sn)), .val (.int (Int32.ofNat cn)), .val (.ref pw), .val (.int okv), .unset, .unset, .unset, .unset] [(.ref pw), (.int (4 : Int32)), (.int (Int32.ofNat cn)), (.int (Int32.ofNat sn)), (.ref cc), (.long ((((own_T (fun j => cs.getD j 0) sn cn 0) + (own_T (fun j => cs.getD j 0) sn cn 1)) + (own_T (fun j => cs.getD j 0) sn cn 2)) + (own_T (fun j => cs.getD j 0) sn cn 3)))])) rfl (by rw [hml]; rfl) (lenOf own_pd1 rfl) rfl (by show 2 * 0 + _ ≤ _; exact Nat.le_of_eq rfl) (hb hby at_379) (by decide) (by decide) (by decide) (by decide)
  obtain ⟨rfl, e9, rfl⟩ := hQ9
  rw [List.append_nil] at X9
  refine own_st (st9) ?_
  clear st9 X8 e8
  show OFin p e below s _ _ _ (T9.setTop (mkF m 382 #[.val (.long q1), .second, .val (.long q2), .second, .val (.int p3), .val (.int p4), .val (.ref cc), .val (.int (Int32.ofNat sn)), .val (.int (Int32.ofNat cn)), .val (.ref pw), .val (.int okv), .unset, .unset, .unset, .unset] [(.long (own_T (fun j => cs.getD j 0) sn cn 4)), (.long ((((own_T (fun j => cs.getD j 0) sn cn 0) + (own_T (fun j => cs.getD j 0) sn cn 1)) + (own_T (fun j => cs.getD j 0) sn cn 2)) + (own_T (fun j => cs.getD j 0) sn cn 3)))]))
  refine own_st (fun _ kS => XS.ladd X9.here hx rfl (hb hby at_382) rfl kS) ?_
  show OFin p e below s _ _ _ (T9.setTop (mkF m 383 #[.val (.long q1), .second, .val (.long q2), .second, .val (.int p3), .val (.int p4), .val (.ref cc), .val (.int (Int32.ofNat sn)), .val (.int (Int32.ofNat cn)), .val (.ref pw), .val (.int okv), .unset, .unset, .unset, .unset] [(.long (((((own_T (fun j => cs.getD j 0) sn cn 0) + (own_T (fun j => cs.getD j 0) sn cn 1)) + (own_T (fun j => cs.getD j 0) sn cn 2)) + (own_T (fun j => cs.getD j 0) sn cn 3)) + (own_T (fun j => cs.getD j 0) sn cn 4)))]))
  refine own_st (fun _ kS => XS.aload X9.here hx rfl (hb hby at_383) rfl rfl kS) ?_
  show OFin p e below s _ _ _ (T9.setTop (mkF m 385 #[.val (.long q1), .second, .val (.long q2), .second, .val (.int p3), .val (.int p4), .val (.ref cc), .val (.int (Int32.ofNat sn)), .val (.int (Int32.ofNat cn)), .val (.ref pw), .val (.int okv), .unset, .unset, .unset, .unset] [(.ref cc), (.long (((((own_T (fun j => cs.getD j 0) sn cn 0) + (own_T (fun j => cs.getD j 0) sn cn 1)) + (own_T (fun j => cs.getD j 0) sn cn 2)) + (own_T (fun j => cs.getD j 0) sn cn 3)) + (own_T (fun j => cs.getD j 0) sn cn 4)))]))
  refine own_st (fun _ kS => XS.iload X9.here hx rfl (hb hby at_385) rfl kS) ?_
  show OFin p e below s _ _ _ (T9.setTop (mkF m 387 #[.val (.long q1), .second, .val (.long q2), .second, .val (.int p3), .val (.int p4), .val (.ref cc), .val (.int (Int32.ofNat sn)), .val (.int (Int32.ofNat cn)), .val (.ref pw), .val (.int okv), .unset, .unset, .unset, .unset] [(.int (Int32.ofNat sn)), (.ref cc), (.long (((((own_T (fun j => cs.getD j 0) sn cn 0) + (own_T (fun j => cs.getD j 0) sn cn 1)) + (own_T (fun j => cs.getD j 0) sn cn 2)) + (own_T (fun j => cs.getD j 0) sn cn 3)) + (own_T (fun j => cs.getD j 0) sn cn 4)))]))
  refine own_st (fun _ kS => XS.iload X9.here hx rfl (hb hby at_387) rfl kS) ?_
  show OFin p e below s _ _ _ (T9.setTop (mkF m 389 #[.val (.long q1), .second, .val (.long q2), .second, .val (.int p3), .val (.int p4), .val (.ref cc), .val (.int (Int32.ofNat sn)), .val (.int (Int32.ofNat cn)), .val (.ref pw), .val (.int okv), .unset, .unset, .unset, .unset] [(.int (Int32.ofNat cn)), (.int (Int32.ofNat sn)), (.ref cc), (.long (((((own_T (fun j => cs.getD j 0) sn cn 0) + (own_T (fun j => cs.getD j 0) sn cn 1)) + (own_T (fun j => cs.getD j 0) sn cn 2)) + (own_T (fun j => cs.getD j 0) sn cn 3)) + (own_T (fun j => cs.getD j 0) sn cn 4)))]))
  refine own_st (fun _ kS => XS.iconst X9.here hx rfl (hb hby at_389) kS) ?_
  show OFin p e below s _ _ _ (T9.setTop (mkF m 390 #[.val (.long q1), .second, .val (.long q2), .second, .val (.int p3), .val (.int p4), .val (.ref cc), .val (.int (Int32.ofNat sn)), .val (.int (Int32.ofNat cn)), .val (.ref pw), .val (.int okv), .unset, .unset, .unset, .unset] [(.int (5 : Int32)), (.int (Int32.ofNat cn)), (.int (Int32.ofNat sn)), (.ref cc), (.long (((((own_T (fun j => cs.getD j 0) sn cn 0) + (own_T (fun j => cs.getD j 0) sn cn 1)) + (own_T (fun j => cs.getD j 0) sn cn 2)) + (own_T (fun j => cs.getD j 0) sn cn 3)) + (own_T (fun j => cs.getD j 0) sn cn 4)))]))
  refine own_st (fun _ kS => XS.aload X9.here hx rfl (hb hby at_390) rfl rfl kS) ?_
  show OFin p e below s _ _ _ (T9.setTop (mkF m 392 #[.val (.long q1), .second, .val (.long q2), .second, .val (.int p3), .val (.int p4), .val (.ref cc), .val (.int (Int32.ofNat sn)), .val (.int (Int32.ofNat cn)), .val (.ref pw), .val (.int okv), .unset, .unset, .unset, .unset] [(.ref pw), (.int (5 : Int32)), (.int (Int32.ofNat cn)), (.int (Int32.ofNat sn)), (.ref cc), (.long (((((own_T (fun j => cs.getD j 0) sn cn 0) + (own_T (fun j => cs.getD j 0) sn cn 1)) + (own_T (fun j => cs.getD j 0) sn cn 2)) + (own_T (fun j => cs.getD j 0) sn cn 3)) + (own_T (fun j => cs.getD j 0) sn cn 4)))]))
  obtain ⟨v10, T10, L10, X10, hQ10, st10⟩ := own_static X9 hx hZ (y := (⟨"io/countersign/TimestampFormReadDigitsPinLaw", "term", "([CIII[I)J"⟩ : MethodName)) (rm := ⟨0, 0, 0, 0⟩) (W := 2) (argsL := [(.ref cc), (.int (Int32.ofNat sn)), (.int (Int32.ofNat cn)), (.int (5 : Int32)), (.ref pw)]) (rest := [(.long (((((own_T (fun j => cs.getD j 0) sn cn 0) + (own_T (fun j => cs.getD j 0) sn cn 1)) + (own_T (fun j => cs.getD j 0) sn cn 2)) + (own_T (fun j => cs.getD j 0) sn cn 3)) + (own_T (fun j => cs.getD j 0) sn cn 4)))]) hown (own_w hw 15 rfl) (own_w hw 16 rfl) (own_w hw 3 rfl) (own_w hw 17 rfl) (rmTe l Z a0 hw cc _ _ (5 : Int32) pw h0 (fun j => cs.getD j 0) own_pw (sn + 5) (cn - 1 - 5) F_a F_p (fun q => by have q1 : 5 < cn := (own_nlt (a := 5) (by decide) (by omega)).mp q; exact ⟨own_add (a := sn) (b := 5) (by omega), by omega, own_kn (j := 5) (by omega) q1, by omega⟩)) e9 (g := (mkF m 392 #[.val (.long q1), .second, .val (.long q2), .second, .val (.int p3), .val (.int p4), .val (.ref cc), .val (.int (Int32.ofNat sn)), .val (.int (Int32.ofNat cn)), .val (.ref pw), .val (.int okv), .unset, .unset, .unset, .unset] [(.ref pw), (.int (5 : Int32)), (.int (Int32.ofNat cn)), (.int (Int32.ofNat sn)), (.ref cc), (.long (((((own_T (fun j => cs.getD j 0) sn cn 0) + (own_T (fun j => cs.getD j 0) sn cn 1)) + (own_T (fun j => cs.getD j 0) sn cn 2)) + (own_T (fun j => cs.getD j 0) sn cn 3)) + (own_T (fun j => cs.getD j 0) sn cn 4)))])) rfl (by rw [hml]; rfl) (lenOf own_pd1 rfl) rfl (by show 2 * 0 + _ ≤ _; exact Nat.le_of_eq rfl) (hb hby at_392) (by decide) (by decide) (by decide) (by decide)
  obtain ⟨rfl, e10, rfl⟩ := hQ10
  rw [List.append_nil] at X10
  refine own_st (st10) ?_
  clear st10 X9 e9
  show OFin p e below s _ _ _ (T10.setTop (mkF m 395 #[.val (.long q1), .second, .val (.long q2), .second, .val (.int p3), .val (.int p4), .val (.ref cc), .val (.int (Int32.ofNat sn)), .val (.int (Int32.ofNat cn)), .val (.ref pw), .val (.int okv), .unset, .unset, .unset, .unset] [(.long (own_T (fun j => cs.getD j 0) sn cn 5)), (.long (((((own_T (fun j => cs.getD j 0) sn cn 0) + (own_T (fun j => cs.getD j 0) sn cn 1)) + (own_T (fun j => cs.getD j 0) sn cn 2)) + (own_T (fun j => cs.getD j 0) sn cn 3)) + (own_T (fun j => cs.getD j 0) sn cn 4)))]))
  refine own_st (fun _ kS => XS.ladd X10.here hx rfl (hb hby at_395) rfl kS) ?_
  show OFin p e below s _ _ _ (T10.setTop (mkF m 396 #[.val (.long q1), .second, .val (.long q2), .second, .val (.int p3), .val (.int p4), .val (.ref cc), .val (.int (Int32.ofNat sn)), .val (.int (Int32.ofNat cn)), .val (.ref pw), .val (.int okv), .unset, .unset, .unset, .unset] [(.long ((((((own_T (fun j => cs.getD j 0) sn cn 0) + (own_T (fun j => cs.getD j 0) sn cn 1)) + (own_T (fun j => cs.getD j 0) sn cn 2)) + (own_T (fun j => cs.getD j 0) sn cn 3)) + (own_T (fun j => cs.getD j 0) sn cn 4)) + (own_T (fun j => cs.getD j 0) sn cn 5)))]))
  refine own_st (fun _ kS => XS.aload X10.here hx rfl (hb hby at_396) rfl rfl kS) ?_
  show OFin p e below s _ _ _ (T10.setTop (mkF m 398 #[.val (.long q1), .second, .val (.long q2), .second, .val (.int p3), .val (.int p4), .val (.ref cc), .val (.int (Int32.ofNat sn)), .val (.int (Int32.ofNat cn)), .val (.ref pw), .val (.int okv), .unset, .unset, .unset, .unset] [(.ref cc), (.long ((((((own_T (fun j => cs.getD j 0) sn cn 0) + (own_T (fun j => cs.getD j 0) sn cn 1)) + (own_T (fun j => cs.getD j 0) sn cn 2)) + (own_T (fun j => cs.getD j 0) sn cn 3)) + (own_T (fun j => cs.getD j 0) sn cn 4)) + (own_T (fun j => cs.getD j 0) sn cn 5)))]))
  refine own_st (fun _ kS => XS.iload X10.here hx rfl (hb hby at_398) rfl kS) ?_
  show OFin p e below s _ _ _ (T10.setTop (mkF m 400 #[.val (.long q1), .second, .val (.long q2), .second, .val (.int p3), .val (.int p4), .val (.ref cc), .val (.int (Int32.ofNat sn)), .val (.int (Int32.ofNat cn)), .val (.ref pw), .val (.int okv), .unset, .unset, .unset, .unset] [(.int (Int32.ofNat sn)), (.ref cc), (.long ((((((own_T (fun j => cs.getD j 0) sn cn 0) + (own_T (fun j => cs.getD j 0) sn cn 1)) + (own_T (fun j => cs.getD j 0) sn cn 2)) + (own_T (fun j => cs.getD j 0) sn cn 3)) + (own_T (fun j => cs.getD j 0) sn cn 4)) + (own_T (fun j => cs.getD j 0) sn cn 5)))]))
  refine own_st (fun _ kS => XS.iload X10.here hx rfl (hb hby at_400) rfl kS) ?_
  show OFin p e below s _ _ _ (T10.setTop (mkF m 402 #[.val (.long q1), .second, .val (.long q2), .second, .val (.int p3), .val (.int p4), .val (.ref cc), .val (.int (Int32.ofNat sn)), .val (.int (Int32.ofNat cn)), .val (.ref pw), .val (.int okv), .unset, .unset, .unset, .unset] [(.int (Int32.ofNat cn)), (.int (Int32.ofNat sn)), (.ref cc), (.long ((((((own_T (fun j => cs.getD j 0) sn cn 0) + (own_T (fun j => cs.getD j 0) sn cn 1)) + (own_T (fun j => cs.getD j 0) sn cn 2)) + (own_T (fun j => cs.getD j 0) sn cn 3)) + (own_T (fun j => cs.getD j 0) sn cn 4)) + (own_T (fun j => cs.getD j 0) sn cn 5)))]))
  refine own_st (fun _ kS => XS.bipush X10.here hx rfl (hb hby at_402) kS) ?_
  show OFin p e below s _ _ _ (T10.setTop (mkF m 404 #[.val (.long q1), .second, .val (.long q2), .second, .val (.int p3), .val (.int p4), .val (.ref cc), .val (.int (Int32.ofNat sn)), .val (.int (Int32.ofNat cn)), .val (.ref pw), .val (.int okv), .unset, .unset, .unset, .unset] [(.int (6 : Int32)), (.int (Int32.ofNat cn)), (.int (Int32.ofNat sn)), (.ref cc), (.long ((((((own_T (fun j => cs.getD j 0) sn cn 0) + (own_T (fun j => cs.getD j 0) sn cn 1)) + (own_T (fun j => cs.getD j 0) sn cn 2)) + (own_T (fun j => cs.getD j 0) sn cn 3)) + (own_T (fun j => cs.getD j 0) sn cn 4)) + (own_T (fun j => cs.getD j 0) sn cn 5)))]))
  refine own_st (fun _ kS => XS.aload X10.here hx rfl (hb hby at_404) rfl rfl kS) ?_
  show OFin p e below s _ _ _ (T10.setTop (mkF m 406 #[.val (.long q1), .second, .val (.long q2), .second, .val (.int p3), .val (.int p4), .val (.ref cc), .val (.int (Int32.ofNat sn)), .val (.int (Int32.ofNat cn)), .val (.ref pw), .val (.int okv), .unset, .unset, .unset, .unset] [(.ref pw), (.int (6 : Int32)), (.int (Int32.ofNat cn)), (.int (Int32.ofNat sn)), (.ref cc), (.long ((((((own_T (fun j => cs.getD j 0) sn cn 0) + (own_T (fun j => cs.getD j 0) sn cn 1)) + (own_T (fun j => cs.getD j 0) sn cn 2)) + (own_T (fun j => cs.getD j 0) sn cn 3)) + (own_T (fun j => cs.getD j 0) sn cn 4)) + (own_T (fun j => cs.getD j 0) sn cn 5)))]))
  obtain ⟨v11, T11, L11, X11, hQ11, st11⟩ := own_static X10 hx hZ (y := (⟨"io/countersign/TimestampFormReadDigitsPinLaw", "term", "([CIII[I)J"⟩ : MethodName)) (rm := ⟨0, 0, 0, 0⟩) (W := 2) (argsL := [(.ref cc), (.int (Int32.ofNat sn)), (.int (Int32.ofNat cn)), (.int (6 : Int32)), (.ref pw)]) (rest := [(.long ((((((own_T (fun j => cs.getD j 0) sn cn 0) + (own_T (fun j => cs.getD j 0) sn cn 1)) + (own_T (fun j => cs.getD j 0) sn cn 2)) + (own_T (fun j => cs.getD j 0) sn cn 3)) + (own_T (fun j => cs.getD j 0) sn cn 4)) + (own_T (fun j => cs.getD j 0) sn cn 5)))]) hown (own_w hw 15 rfl) (own_w hw 16 rfl) (own_w hw 3 rfl) (own_w hw 17 rfl) (rmTe l Z a0 hw cc _ _ (6 : Int32) pw h0 (fun j => cs.getD j 0) own_pw (sn + 6) (cn - 1 - 6) F_a F_p (fun q => by have q1 : 6 < cn := (own_nlt (a := 6) (by decide) (by omega)).mp q; exact ⟨own_add (a := sn) (b := 6) (by omega), by omega, own_kn (j := 6) (by omega) q1, by omega⟩)) e10 (g := (mkF m 406 #[.val (.long q1), .second, .val (.long q2), .second, .val (.int p3), .val (.int p4), .val (.ref cc), .val (.int (Int32.ofNat sn)), .val (.int (Int32.ofNat cn)), .val (.ref pw), .val (.int okv), .unset, .unset, .unset, .unset] [(.ref pw), (.int (6 : Int32)), (.int (Int32.ofNat cn)), (.int (Int32.ofNat sn)), (.ref cc), (.long ((((((own_T (fun j => cs.getD j 0) sn cn 0) + (own_T (fun j => cs.getD j 0) sn cn 1)) + (own_T (fun j => cs.getD j 0) sn cn 2)) + (own_T (fun j => cs.getD j 0) sn cn 3)) + (own_T (fun j => cs.getD j 0) sn cn 4)) + (own_T (fun j => cs.getD j 0) sn cn 5)))])) rfl (by rw [hml]; rfl) (lenOf own_pd1 rfl) rfl (by show 2 * 0 + _ ≤ _; exact Nat.le_of_eq rfl) (hb hby at_406) (by decide) (by decide) (by decide) (by decide)
  obtain ⟨rfl, e11, rfl⟩ := hQ11
  rw [List.append_nil] at X11
  refine own_st (st11) ?_
  clear st11 X10 e10
  show OFin p e below s _ _ _ (T11.setTop (mkF m 409 #[.val (.long q1), .second, .val (.long q2), .second, .val (.int p3), .val (.int p4), .val (.ref cc), .val (.int (Int32.ofNat sn)), .val (.int (Int32.ofNat cn)), .val (.ref pw), .val (.int okv), .unset, .unset, .unset, .unset] [(.long (own_T (fun j => cs.getD j 0) sn cn 6)), (.long ((((((own_T (fun j => cs.getD j 0) sn cn 0) + (own_T (fun j => cs.getD j 0) sn cn 1)) + (own_T (fun j => cs.getD j 0) sn cn 2)) + (own_T (fun j => cs.getD j 0) sn cn 3)) + (own_T (fun j => cs.getD j 0) sn cn 4)) + (own_T (fun j => cs.getD j 0) sn cn 5)))]))
  refine own_st (fun _ kS => XS.ladd X11.here hx rfl (hb hby at_409) rfl kS) ?_
  show OFin p e below s _ _ _ (T11.setTop (mkF m 410 #[.val (.long q1), .second, .val (.long q2), .second, .val (.int p3), .val (.int p4), .val (.ref cc), .val (.int (Int32.ofNat sn)), .val (.int (Int32.ofNat cn)), .val (.ref pw), .val (.int okv), .unset, .unset, .unset, .unset] [(.long (((((((own_T (fun j => cs.getD j 0) sn cn 0) + (own_T (fun j => cs.getD j 0) sn cn 1)) + (own_T (fun j => cs.getD j 0) sn cn 2)) + (own_T (fun j => cs.getD j 0) sn cn 3)) + (own_T (fun j => cs.getD j 0) sn cn 4)) + (own_T (fun j => cs.getD j 0) sn cn 5)) + (own_T (fun j => cs.getD j 0) sn cn 6)))]))
  refine own_st (fun _ kS => XS.aload X11.here hx rfl (hb hby at_410) rfl rfl kS) ?_
  show OFin p e below s _ _ _ (T11.setTop (mkF m 412 #[.val (.long q1), .second, .val (.long q2), .second, .val (.int p3), .val (.int p4), .val (.ref cc), .val (.int (Int32.ofNat sn)), .val (.int (Int32.ofNat cn)), .val (.ref pw), .val (.int okv), .unset, .unset, .unset, .unset] [(.ref cc), (.long (((((((own_T (fun j => cs.getD j 0) sn cn 0) + (own_T (fun j => cs.getD j 0) sn cn 1)) + (own_T (fun j => cs.getD j 0) sn cn 2)) + (own_T (fun j => cs.getD j 0) sn cn 3)) + (own_T (fun j => cs.getD j 0) sn cn 4)) + (own_T (fun j => cs.getD j 0) sn cn 5)) + (own_T (fun j => cs.getD j 0) sn cn 6)))]))
  refine own_st (fun _ kS => XS.iload X11.here hx rfl (hb hby at_412) rfl kS) ?_
  show OFin p e below s _ _ _ (T11.setTop (mkF m 414 #[.val (.long q1), .second, .val (.long q2), .second, .val (.int p3), .val (.int p4), .val (.ref cc), .val (.int (Int32.ofNat sn)), .val (.int (Int32.ofNat cn)), .val (.ref pw), .val (.int okv), .unset, .unset, .unset, .unset] [(.int (Int32.ofNat sn)), (.ref cc), (.long (((((((own_T (fun j => cs.getD j 0) sn cn 0) + (own_T (fun j => cs.getD j 0) sn cn 1)) + (own_T (fun j => cs.getD j 0) sn cn 2)) + (own_T (fun j => cs.getD j 0) sn cn 3)) + (own_T (fun j => cs.getD j 0) sn cn 4)) + (own_T (fun j => cs.getD j 0) sn cn 5)) + (own_T (fun j => cs.getD j 0) sn cn 6)))]))
  refine own_st (fun _ kS => XS.iload X11.here hx rfl (hb hby at_414) rfl kS) ?_
  show OFin p e below s _ _ _ (T11.setTop (mkF m 416 #[.val (.long q1), .second, .val (.long q2), .second, .val (.int p3), .val (.int p4), .val (.ref cc), .val (.int (Int32.ofNat sn)), .val (.int (Int32.ofNat cn)), .val (.ref pw), .val (.int okv), .unset, .unset, .unset, .unset] [(.int (Int32.ofNat cn)), (.int (Int32.ofNat sn)), (.ref cc), (.long (((((((own_T (fun j => cs.getD j 0) sn cn 0) + (own_T (fun j => cs.getD j 0) sn cn 1)) + (own_T (fun j => cs.getD j 0) sn cn 2)) + (own_T (fun j => cs.getD j 0) sn cn 3)) + (own_T (fun j => cs.getD j 0) sn cn 4)) + (own_T (fun j => cs.getD j 0) sn cn 5)) + (own_T (fun j => cs.getD j 0) sn cn 6)))]))
  refine own_st (fun _ kS => XS.bipush X11.here hx rfl (hb hby at_416) kS) ?_
  show OFin p e below s _ _ _ (T11.setTop (mkF m 418 #[.val (.long q1), .second, .val (.long q2), .second, .val (.int p3), .val (.int p4), .val (.ref cc), .val (.int (Int32.ofNat sn)), .val (.int (Int32.ofNat cn)), .val (.ref pw), .val (.int okv), .unset, .unset, .unset, .unset] [(.int (7 : Int32)), (.int (Int32.ofNat cn)), (.int (Int32.ofNat sn)), (.ref cc), (.long (((((((own_T (fun j => cs.getD j 0) sn cn 0) + (own_T (fun j => cs.getD j 0) sn cn 1)) + (own_T (fun j => cs.getD j 0) sn cn 2)) + (own_T (fun j => cs.getD j 0) sn cn 3)) + (own_T (fun j => cs.getD j 0) sn cn 4)) + (own_T (fun j => cs.getD j 0) sn cn 5)) + (own_T (fun j => cs.getD j 0) sn cn 6)))]))
  refine own_st (fun _ kS => XS.aload X11.here hx rfl (hb hby at_418) rfl rfl kS) ?_
  show OFin p e below s _ _ _ (T11.setTop (mkF m 420 #[.val (.long q1), .second, .val (.long q2), .second, .val (.int p3), .val (.int p4), .val (.ref cc), .val (.int (Int32.ofNat sn)), .val (.int (Int32.ofNat cn)), .val (.ref pw), .val (.int okv), .unset, .unset, .unset, .unset] [(.ref pw), (.int (7 : Int32)), (.int (Int32.ofNat cn)), (.int (Int32.ofNat sn)), (.ref cc), (.long (((((((own_T (fun j => cs.getD j 0) sn cn 0) + (own_T (fun j => cs.getD j 0) sn cn 1)) + (own_T (fun j => cs.getD j 0) sn cn 2)) + (own_T (fun j => cs.getD j 0) sn cn 3)) + (own_T (fun j => cs.getD j 0) sn cn 4)) + (own_T (fun j => cs.getD j 0) sn cn 5)) + (own_T (fun j => cs.getD j 0) sn cn 6)))]))
  obtain ⟨v12, T12, L12, X12, hQ12, st12⟩ := own_static X11 hx hZ (y := (⟨"io/countersign/TimestampFormReadDigitsPinLaw", "term", "([CIII[I)J"⟩ : MethodName)) (rm := ⟨0, 0, 0, 0⟩) (W := 2) (argsL := [(.ref cc), (.int (Int32.ofNat sn)), (.int (Int32.ofNat cn)), (.int (7 : Int32)), (.ref pw)]) (rest := [(.long (((((((own_T (fun j => cs.getD j 0) sn cn 0) + (own_T (fun j => cs.getD j 0) sn cn 1)) + (own_T (fun j => cs.getD j 0) sn cn 2)) + (own_T (fun j => cs.getD j 0) sn cn 3)) + (own_T (fun j => cs.getD j 0) sn cn 4)) + (own_T (fun j => cs.getD j 0) sn cn 5)) + (own_T (fun j => cs.getD j 0) sn cn 6)))]) hown (own_w hw 15 rfl) (own_w hw 16 rfl) (own_w hw 3 rfl) (own_w hw 17 rfl) (rmTe l Z a0 hw cc _ _ (7 : Int32) pw h0 (fun j => cs.getD j 0) own_pw (sn + 7) (cn - 1 - 7) F_a F_p (fun q => by have q1 : 7 < cn := (own_nlt (a := 7) (by decide) (by omega)).mp q; exact ⟨own_add (a := sn) (b := 7) (by omega), by omega, own_kn (j := 7) (by omega) q1, by omega⟩)) e11 (g := (mkF m 420 #[.val (.long q1), .second, .val (.long q2), .second, .val (.int p3), .val (.int p4), .val (.ref cc), .val (.int (Int32.ofNat sn)), .val (.int (Int32.ofNat cn)), .val (.ref pw), .val (.int okv), .unset, .unset, .unset, .unset] [(.ref pw), (.int (7 : Int32)), (.int (Int32.ofNat cn)), (.int (Int32.ofNat sn)), (.ref cc), (.long (((((((own_T (fun j => cs.getD j 0) sn cn 0) + (own_T (fun j => cs.getD j 0) sn cn 1)) + (own_T (fun j => cs.getD j 0) sn cn 2)) + (own_T (fun j => cs.getD j 0) sn cn 3)) + (own_T (fun j => cs.getD j 0) sn cn 4)) + (own_T (fun j => cs.getD j 0) sn cn 5)) + (own_T (fun j => cs.getD j 0) sn cn 6)))])) rfl (by rw [hml]; rfl) (lenOf own_pd1 rfl) rfl (by show 2 * 0 + _ ≤ _; exact Nat.le_of_eq rfl) (hb hby at_420) (by decide) (by decide) (by decide) (by decide)
  obtain ⟨rfl, e12, rfl⟩ := hQ12
  rw [List.append_nil] at X12
  refine own_st (st12) ?_
  clear st12 X11 e11
  show OFin p e below s _ _ _ (T12.setTop (mkF m 423 #[.val (.long q1), .second, .val (.long q2), .second, .val (.int p3), .val (.int p4), .val (.ref cc), .val (.int (Int32.ofNat sn)), .val (.int (Int32.ofNat cn)), .val (.ref pw), .val (.int okv), .unset, .unset, .unset, .unset] [(.long (own_T (fun j => cs.getD j 0) sn cn 7)), (.long (((((((own_T (fun j => cs.getD j 0) sn cn 0) + (own_T (fun j => cs.getD j 0) sn cn 1)) + (own_T (fun j => cs.getD j 0) sn cn 2)) + (own_T (fun j => cs.getD j 0) sn cn 3)) + (own_T (fun j => cs.getD j 0) sn cn 4)) + (own_T (fun j => cs.getD j 0) sn cn 5)) + (own_T (fun j => cs.getD j 0) sn cn 6)))]))
  refine own_st (fun _ kS => XS.ladd X12.here hx rfl (hb hby at_423) rfl kS) ?_
  show OFin p e below s _ _ _ (T12.setTop (mkF m 424 #[.val (.long q1), .second, .val (.long q2), .second, .val (.int p3), .val (.int p4), .val (.ref cc), .val (.int (Int32.ofNat sn)), .val (.int (Int32.ofNat cn)), .val (.ref pw), .val (.int okv), .unset, .unset, .unset, .unset] [(.long ((((((((own_T (fun j => cs.getD j 0) sn cn 0) + (own_T (fun j => cs.getD j 0) sn cn 1)) + (own_T (fun j => cs.getD j 0) sn cn 2)) + (own_T (fun j => cs.getD j 0) sn cn 3)) + (own_T (fun j => cs.getD j 0) sn cn 4)) + (own_T (fun j => cs.getD j 0) sn cn 5)) + (own_T (fun j => cs.getD j 0) sn cn 6)) + (own_T (fun j => cs.getD j 0) sn cn 7)))]))
  refine own_st (fun _ kS => XS.aload X12.here hx rfl (hb hby at_424) rfl rfl kS) ?_
  show OFin p e below s _ _ _ (T12.setTop (mkF m 426 #[.val (.long q1), .second, .val (.long q2), .second, .val (.int p3), .val (.int p4), .val (.ref cc), .val (.int (Int32.ofNat sn)), .val (.int (Int32.ofNat cn)), .val (.ref pw), .val (.int okv), .unset, .unset, .unset, .unset] [(.ref cc), (.long ((((((((own_T (fun j => cs.getD j 0) sn cn 0) + (own_T (fun j => cs.getD j 0) sn cn 1)) + (own_T (fun j => cs.getD j 0) sn cn 2)) + (own_T (fun j => cs.getD j 0) sn cn 3)) + (own_T (fun j => cs.getD j 0) sn cn 4)) + (own_T (fun j => cs.getD j 0) sn cn 5)) + (own_T (fun j => cs.getD j 0) sn cn 6)) + (own_T (fun j => cs.getD j 0) sn cn 7)))]))
  refine own_st (fun _ kS => XS.iload X12.here hx rfl (hb hby at_426) rfl kS) ?_
  show OFin p e below s _ _ _ (T12.setTop (mkF m 428 #[.val (.long q1), .second, .val (.long q2), .second, .val (.int p3), .val (.int p4), .val (.ref cc), .val (.int (Int32.ofNat sn)), .val (.int (Int32.ofNat cn)), .val (.ref pw), .val (.int okv), .unset, .unset, .unset, .unset] [(.int (Int32.ofNat sn)), (.ref cc), (.long ((((((((own_T (fun j => cs.getD j 0) sn cn 0) + (own_T (fun j => cs.getD j 0) sn cn 1)) + (own_T (fun j => cs.getD j 0) sn cn 2)) + (own_T (fun j => cs.getD j 0) sn cn 3)) + (own_T (fun j => cs.getD j 0) sn cn 4)) + (own_T (fun j => cs.getD j 0) sn cn 5)) + (own_T (fun j => cs.getD j 0) sn cn 6)) + (own_T (fun j => cs.getD j 0) sn cn 7)))]))
  refine own_st (fun _ kS => XS.iload X12.here hx rfl (hb hby at_428) rfl kS) ?_
  show OFin p e below s _ _ _ (T12.setTop (mkF m 430 #[.val (.long q1), .second, .val (.long q2), .second, .val (.int p3), .val (.int p4), .val (.ref cc), .val (.int (Int32.ofNat sn)), .val (.int (Int32.ofNat cn)), .val (.ref pw), .val (.int okv), .unset, .unset, .unset, .unset] [(.int (Int32.ofNat cn)), (.int (Int32.ofNat sn)), (.ref cc), (.long ((((((((own_T (fun j => cs.getD j 0) sn cn 0) + (own_T (fun j => cs.getD j 0) sn cn 1)) + (own_T (fun j => cs.getD j 0) sn cn 2)) + (own_T (fun j => cs.getD j 0) sn cn 3)) + (own_T (fun j => cs.getD j 0) sn cn 4)) + (own_T (fun j => cs.getD j 0) sn cn 5)) + (own_T (fun j => cs.getD j 0) sn cn 6)) + (own_T (fun j => cs.getD j 0) sn cn 7)))]))
  refine own_st (fun _ kS => XS.bipush X12.here hx rfl (hb hby at_430) kS) ?_
  show OFin p e below s _ _ _ (T12.setTop (mkF m 432 #[.val (.long q1), .second, .val (.long q2), .second, .val (.int p3), .val (.int p4), .val (.ref cc), .val (.int (Int32.ofNat sn)), .val (.int (Int32.ofNat cn)), .val (.ref pw), .val (.int okv), .unset, .unset, .unset, .unset] [(.int (8 : Int32)), (.int (Int32.ofNat cn)), (.int (Int32.ofNat sn)), (.ref cc), (.long ((((((((own_T (fun j => cs.getD j 0) sn cn 0) + (own_T (fun j => cs.getD j 0) sn cn 1)) + (own_T (fun j => cs.getD j 0) sn cn 2)) + (own_T (fun j => cs.getD j 0) sn cn 3)) + (own_T (fun j => cs.getD j 0) sn cn 4)) + (own_T (fun j => cs.getD j 0) sn cn 5)) + (own_T (fun j => cs.getD j 0) sn cn 6)) + (own_T (fun j => cs.getD j 0) sn cn 7)))]))
  refine own_st (fun _ kS => XS.aload X12.here hx rfl (hb hby at_432) rfl rfl kS) ?_
  show OFin p e below s _ _ _ (T12.setTop (mkF m 434 #[.val (.long q1), .second, .val (.long q2), .second, .val (.int p3), .val (.int p4), .val (.ref cc), .val (.int (Int32.ofNat sn)), .val (.int (Int32.ofNat cn)), .val (.ref pw), .val (.int okv), .unset, .unset, .unset, .unset] [(.ref pw), (.int (8 : Int32)), (.int (Int32.ofNat cn)), (.int (Int32.ofNat sn)), (.ref cc), (.long ((((((((own_T (fun j => cs.getD j 0) sn cn 0) + (own_T (fun j => cs.getD j 0) sn cn 1)) + (own_T (fun j => cs.getD j 0) sn cn 2)) + (own_T (fun j => cs.getD j 0) sn cn 3)) + (own_T (fun j => cs.getD j 0) sn cn 4)) + (own_T (fun j => cs.getD j 0) sn cn 5)) + (own_T (fun j => cs.getD j 0) sn cn 6)) + (own_T (fun j => cs.getD j 0) sn cn 7)))]))
  obtain ⟨v13, T13, L13, X13, hQ13, st13⟩ := own_static X12 hx hZ (y := (⟨"io/countersign/TimestampFormReadDigitsPinLaw", "term", "([CIII[I)J"⟩ : MethodName)) (rm := ⟨0, 0, 0, 0⟩) (W := 2) (argsL := [(.ref cc), (.int (Int32.ofNat sn)), (.int (Int32.ofNat cn)), (.int (8 : Int32)), (.ref pw)]) (rest := [(.long ((((((((own_T (fun j => cs.getD j 0) sn cn 0) + (own_T (fun j => cs.getD j 0) sn cn 1)) + (own_T (fun j => cs.getD j 0) sn cn 2)) + (own_T (fun j => cs.getD j 0) sn cn 3)) + (own_T (fun j => cs.getD j 0) sn cn 4)) + (own_T (fun j => cs.getD j 0) sn cn 5)) + (own_T (fun j => cs.getD j 0) sn cn 6)) + (own_T (fun j => cs.getD j 0) sn cn 7)))]) hown (own_w hw 15 rfl) (own_w hw 16 rfl) (own_w hw 3 rfl) (own_w hw 17 rfl) (rmTe l Z a0 hw cc _ _ (8 : Int32) pw h0 (fun j => cs.getD j 0) own_pw (sn + 8) (cn - 1 - 8) F_a F_p (fun q => by have q1 : 8 < cn := (own_nlt (a := 8) (by decide) (by omega)).mp q; exact ⟨own_add (a := sn) (b := 8) (by omega), by omega, own_kn (j := 8) (by omega) q1, by omega⟩)) e12 (g := (mkF m 434 #[.val (.long q1), .second, .val (.long q2), .second, .val (.int p3), .val (.int p4), .val (.ref cc), .val (.int (Int32.ofNat sn)), .val (.int (Int32.ofNat cn)), .val (.ref pw), .val (.int okv), .unset, .unset, .unset, .unset] [(.ref pw), (.int (8 : Int32)), (.int (Int32.ofNat cn)), (.int (Int32.ofNat sn)), (.ref cc), (.long ((((((((own_T (fun j => cs.getD j 0) sn cn 0) + (own_T (fun j => cs.getD j 0) sn cn 1)) + (own_T (fun j => cs.getD j 0) sn cn 2)) + (own_T (fun j => cs.getD j 0) sn cn 3)) + (own_T (fun j => cs.getD j 0) sn cn 4)) + (own_T (fun j => cs.getD j 0) sn cn 5)) + (own_T (fun j => cs.getD j 0) sn cn 6)) + (own_T (fun j => cs.getD j 0) sn cn 7)))])) rfl (by rw [hml]; rfl) (lenOf own_pd1 rfl) rfl (by show 2 * 0 + _ ≤ _; exact Nat.le_of_eq rfl) (hb hby at_434) (by decide) (by decide) (by decide) (by decide)
  obtain ⟨rfl, e13, rfl⟩ := hQ13
  rw [List.append_nil] at X13
  refine own_st (st13) ?_
  clear st13 X12 e12
  show OFin p e below s _ _ _ (T13.setTop (mkF m 437 #[.val (.long q1), .second, .val (.long q2), .second, .val (.int p3), .val (.int p4), .val (.ref cc), .val (.int (Int32.ofNat sn)), .val (.int (Int32.ofNat cn)), .val (.ref pw), .val (.int okv), .unset, .unset, .unset, .unset] [(.long (own_T (fun j => cs.getD j 0) sn cn 8)), (.long ((((((((own_T (fun j => cs.getD j 0) sn cn 0) + (own_T (fun j => cs.getD j 0) sn cn 1)) + (own_T (fun j => cs.getD j 0) sn cn 2)) + (own_T (fun j => cs.getD j 0) sn cn 3)) + (own_T (fun j => cs.getD j 0) sn cn 4)) + (own_T (fun j => cs.getD j 0) sn cn 5)) + (own_T (fun j => cs.getD j 0) sn cn 6)) + (own_T (fun j => cs.getD j 0) sn cn 7)))]))
  refine own_st (fun _ kS => XS.ladd X13.here hx rfl (hb hby at_437) rfl kS) ?_
  show OFin p e below s _ _ _ (T13.setTop (mkF m 438 #[.val (.long q1), .second, .val (.long q2), .second, .val (.int p3), .val (.int p4), .val (.ref cc), .val (.int (Int32.ofNat sn)), .val (.int (Int32.ofNat cn)), .val (.ref pw), .val (.int okv), .unset, .unset, .unset, .unset] [(.long (((((((((own_T (fun j => cs.getD j 0) sn cn 0) + (own_T (fun j => cs.getD j 0) sn cn 1)) + (own_T (fun j => cs.getD j 0) sn cn 2)) + (own_T (fun j => cs.getD j 0) sn cn 3)) + (own_T (fun j => cs.getD j 0) sn cn 4)) + (own_T (fun j => cs.getD j 0) sn cn 5)) + (own_T (fun j => cs.getD j 0) sn cn 6)) + (own_T (fun j => cs.getD j 0) sn cn 7)) + (own_T (fun j => cs.getD j 0) sn cn 8)))]))
  show OFin p e below s _ _ _ (T13.setTop (mkF m 438 #[.val (.long q1), .second, .val (.long q2), .second, .val (.int p3), .val (.int p4), .val (.ref cc), .val (.int (Int32.ofNat sn)), .val (.int (Int32.ofNat cn)), .val (.ref pw), .val (.int okv), .unset, .unset, .unset, .unset] [(.long (own_tot (fun j => cs.getD j 0) sn cn))]))
  refine own_st (fun _ kS => XS.lstore X13.here hx rfl (hb hby at_438) rfl (l' := #[.val (.long q1), .second, .val (.long q2), .second, .val (.int p3), .val (.int p4), .val (.ref cc), .val (.int (Int32.ofNat sn)), .val (.int (Int32.ofNat cn)), .val (.ref pw), .val (.int okv), .val (.long (own_tot (fun j => cs.getD j 0) sn cn)), .second, .unset, .unset]) rfl kS) ?_
  show OFin p e below s _ _ _ (T13.setTop (mkF m 440 #[.val (.long q1), .second, .val (.long q2), .second, .val (.int p3), .val (.int p4), .val (.ref cc), .val (.int (Int32.ofNat sn)), .val (.int (Int32.ofNat cn)), .val (.ref pw), .val (.int okv), .val (.long (own_tot (fun j => cs.getD j 0) sn cn)), .second, .unset, .unset] []))
  refine own_st (fun _ kS => XS.iload X13.here hx rfl (hb hby at_440) rfl kS) ?_
  show OFin p e below s _ _ _ (T13.setTop (mkF m 442 #[.val (.long q1), .second, .val (.long q2), .second, .val (.int p3), .val (.int p4), .val (.ref cc), .val (.int (Int32.ofNat sn)), .val (.int (Int32.ofNat cn)), .val (.ref pw), .val (.int okv), .val (.long (own_tot (fun j => cs.getD j 0) sn cn)), .second, .unset, .unset] [(.int okv)]))
  obtain ⟨l0, l1⟩ := own_law (own_csr hp) hcn hok
  by_cases c1 : okv = (0 : Int32)
  · refine own_st (fun _ kS => XS.ifYes X13.here hx rfl (pc0 := 442) (pc' := 451) rfl (hb hby at_442) rfl ((if0 _ _).trans (teq c1).1) (by decide) (by decide) kS) ?_
    show OFin p e below s _ _ _ (T13.setTop (mkF m 451 #[.val (.long q1), .second, .val (.long q2), .second, .val (.int p3), .val (.int p4), .val (.ref cc), .val (.int (Int32.ofNat sn)), .val (.int (Int32.ofNat cn)), .val (.ref pw), .val (.int okv), .val (.long (own_tot (fun j => cs.getD j 0) sn cn)), .second, .unset, .unset] []))
    refine own_st (fun _ kS => XS.iconst X13.here hx rfl (hb hby at_451) kS) ?_
    show OFin p e below s _ _ _ (T13.setTop (mkF m 452 #[.val (.long q1), .second, .val (.long q2), .second, .val (.int p3), .val (.int p4), .val (.ref cc), .val (.int (Int32.ofNat sn)), .val (.int (Int32.ofNat cn)), .val (.ref pw), .val (.int okv), .val (.long (own_tot (fun j => cs.getD j 0) sn cn)), .second, .unset, .unset] [(.int (-1 : Int32))]))
    refine own_st (fun _ kS => XS.istore X13.here hx rfl (hb hby at_452) rfl (l' := #[.val (.long q1), .second, .val (.long q2), .second, .val (.int p3), .val (.int p4), .val (.ref cc), .val (.int (Int32.ofNat sn)), .val (.int (Int32.ofNat cn)), .val (.ref pw), .val (.int okv), .val (.long (own_tot (fun j => cs.getD j 0) sn cn)), .second, .val (.int (-1 : Int32)), .unset]) rfl kS) ?_
    show OFin p e below s _ _ _ (T13.setTop (mkF m 454 #[.val (.long q1), .second, .val (.long q2), .second, .val (.int p3), .val (.int p4), .val (.ref cc), .val (.int (Int32.ofNat sn)), .val (.int (Int32.ofNat cn)), .val (.ref pw), .val (.int okv), .val (.long (own_tot (fun j => cs.getD j 0) sn cn)), .second, .val (.int (-1 : Int32)), .unset] []))
    obtain ⟨T14, h14, X14, e14, E14, A14, D14, -, st14⟩ := newO X13 hx hZ hown (own_w hw 18 rfl) (own_w hw 19 rfl) (own_w hw 20 rfl) e13 (g := (mkF m 454 #[.val (.long q1), .second, .val (.long q2), .second, .val (.int p3), .val (.int p4), .val (.ref cc), .val (.int (Int32.ofNat sn)), .val (.int (Int32.ofNat cn)), .val (.ref pw), .val (.int okv), .val (.long (own_tot (fun j => cs.getD j 0) sn cn)), .second, .val (.int (-1 : Int32)), .unset] [])) rfl (hb hby at_454) (by decide) (by decide)
    obtain ⟨sx, g14⟩ : ∃ z, z = h0.size := ⟨_, rfl⟩
    rw [← g14] at A14 D14 st14
    have ne_cc_sx : cc ≠ sx := Nat.ne_of_lt (Nat.lt_of_lt_of_le V_c.lt (Nat.le_of_eq g14.symm))
    have g_sx : n0 ≤ sx := Nat.le_trans Z0 (Nat.le_of_eq g14.symm)
    have od14 := O.ext E14
    have f15 := V_c.ext E14
    have f16 : Fld Z h14 sx "java/lang/String" "coder" "B" (.int (0 : Int32)) := D14 (Or.inr (own_w hw 44 rfl)) (ty := .byte) (by decide)
    have f17 : Fld Z h14 sx "java/lang/String" "value" "[B" .null := D14 (Or.inr (own_w hw 46 rfl)) (ty := (.array .byte)) (by decide)
    have sz14 : n0 ≤ h14.size := Nat.le_trans Z0 E14.1
    refine own_st (st14) ?_
    clear st14 X13 e13 E14 D14 g14
    show OFin p e below s _ _ _ (T14.setTop (mkF m 457 #[.val (.long q1), .second, .val (.long q2), .second, .val (.int p3), .val (.int p4), .val (.ref cc), .val (.int (Int32.ofNat sn)), .val (.int (Int32.ofNat cn)), .val (.ref pw), .val (.int okv), .val (.long (own_tot (fun j => cs.getD j 0) sn cn)), .second, .val (.int (-1 : Int32)), .unset] [(.ref sx)]))
    refine own_st (fun _ kS => XS.dup X14.here hx rfl (hb hby at_457) rfl rfl kS) ?_
    show OFin p e below s _ _ _ (T14.setTop (mkF m 458 #[.val (.long q1), .second, .val (.long q2), .second, .val (.int p3), .val (.int p4), .val (.ref cc), .val (.int (Int32.ofNat sn)), .val (.int (Int32.ofNat cn)), .val (.ref pw), .val (.int okv), .val (.long (own_tot (fun j => cs.getD j 0) sn cn)), .second, .val (.int (-1 : Int32)), .unset] [(.ref sx), (.ref sx)]))
    refine own_st (fun _ kS => XS.aload X14.here hx rfl (hb hby at_458) rfl rfl kS) ?_
    show OFin p e below s _ _ _ (T14.setTop (mkF m 460 #[.val (.long q1), .second, .val (.long q2), .second, .val (.int p3), .val (.int p4), .val (.ref cc), .val (.int (Int32.ofNat sn)), .val (.int (Int32.ofNat cn)), .val (.ref pw), .val (.int okv), .val (.long (own_tot (fun j => cs.getD j 0) sn cn)), .second, .val (.int (-1 : Int32)), .unset] [(.ref cc), (.ref sx), (.ref sx)]))
    have hws : ∀ d ∈ StrChars.Road.words, d.before a0 Z = true := fun d hd => hw d ((by decide +kernel : ∀ d ∈ StrChars.Road.words, d ∈ tables_1) d hd)
    obtain ⟨v18, T18, L18, X18, hQ18, st18⟩ := own_initB (StrChars.Road.QV Z sx (12 : Int32) (cs.map (fun c => c.toInt8.toInt32)) h14 n0) 1 12 X14 hx hZ (y := (⟨"java/lang/String", "<init>", "([C)V"⟩ : MethodName)) (W := 1) (a := sx) (argsL := [(.ref cc)]) (rest := [(.ref sx)]) rfl hown (own_w hw 21 rfl) (own_w hw 22 rfl) (own_w hw 23 rfl) (StrChars.Road.backV (R := room_1) (W := 1) hZ hws (kI := 4) (own_w hw 19 rfl) (cs := cs) (bs := cs.map (fun c => c.toInt8.toInt32)) (n := 12) (n0 := n0) g_sx sz14 A14 f17 f16 f15 (Sta.ext od14.2 S_c) hz hlen rfl (by decide) (by decide) hp rfl (by decide) (by decide)) e14 (g := (mkF m 460 #[.val (.long q1), .second, .val (.long q2), .second, .val (.int p3), .val (.int p4), .val (.ref cc), .val (.int (Int32.ofNat sn)), .val (.int (Int32.ofNat cn)), .val (.ref pw), .val (.int okv), .val (.long (own_tot (fun j => cs.getD j 0) sn cn)), .second, .val (.int (-1 : Int32)), .unset] [(.ref cc), (.ref sx), (.ref sx)])) rfl (by rw [hml]; rfl) (lenOf own_pd2 rfl) rfl (by show 2 * 0 + _ ≤ _; exact Nat.le_of_eq rfl) (hb hby at_460) (by decide) (by decide)
    obtain ⟨rfl, N18, K18, EE18, FC18, t, kb, gt, gt2, gt3, FV18, VT18⟩ := hQ18
    have fr18 := Fr.app N0 N18
    have od18 := od14.keep K18 (allS g_sx all0)
    refine own_st (st18) ?_
    clear st18 X14 e14
    show OFin p e below s _ _ _ (T18.setTop (mkF m 463 #[.val (.long q1), .second, .val (.long q2), .second, .val (.int p3), .val (.int p4), .val (.ref cc), .val (.int (Int32.ofNat sn)), .val (.int (Int32.ofNat cn)), .val (.ref pw), .val (.int okv), .val (.long (own_tot (fun j => cs.getD j 0) sn cn)), .second, .val (.int (-1 : Int32)), .unset] [(.ref sx)]))
    refine own_st (fun _ kS => XS.iload X18.here hx rfl (hb hby at_463) rfl kS) ?_
    show OFin p e below s _ _ _ (T18.setTop (mkF m 465 #[.val (.long q1), .second, .val (.long q2), .second, .val (.int p3), .val (.int p4), .val (.ref cc), .val (.int (Int32.ofNat sn)), .val (.int (Int32.ofNat cn)), .val (.ref pw), .val (.int okv), .val (.long (own_tot (fun j => cs.getD j 0) sn cn)), .second, .val (.int (-1 : Int32)), .unset] [(.int (Int32.ofNat sn)), (.ref sx)]))
    refine own_st (fun _ kS => XS.iload X18.here hx rfl (hb hby at_465) rfl kS) ?_
    show OFin p e below s _ _ _ (T18.setTop (mkF m 467 #[.val (.long q1), .second, .val (.long q2), .second, .val (.int p3), .val (.int p4), .val (.ref cc), .val (.int (Int32.ofNat sn)), .val (.int (Int32.ofNat cn)), .val (.ref pw), .val (.int okv), .val (.long (own_tot (fun j => cs.getD j 0) sn cn)), .second, .val (.int (-1 : Int32)), .unset] [(.int (Int32.ofNat cn)), (.int (Int32.ofNat sn)), (.ref sx)]))
    obtain ⟨v19, T19, L19, X19, hQ19, st19⟩ := own_static X18 hx hZ (y := (⟨"io/countersign/TimestampForm", "readDigits", "(Ljava/lang/String;II)I"⟩ : MethodName)) (rm := ⟨4, 0, 0, 53⟩) (W := 0) (argsL := [(.ref sx), (.int (Int32.ofNat sn)), (.int (Int32.ofNat cn))]) (rest := []) hown (own_w hw 47 rfl) (own_w hw 48 rfl) (own_w hw 49 rfl) (own_w hw 50 rfl) (rmRd l Z a0 hw sx (Int32.ofNat sn) (Int32.ofNat cn) T18.heap t kb cs z fm n0 sn cn hlen hp S_c hz S_f rf EE18 FV18 FC18 VT18 od18 (own_tn (by omega)) (own_add (a := sn) (b := cn) (by omega)) (by omega)) rfl (g := (mkF m 467 #[.val (.long q1), .second, .val (.long q2), .second, .val (.int p3), .val (.int p4), .val (.ref cc), .val (.int (Int32.ofNat sn)), .val (.int (Int32.ofNat cn)), .val (.ref pw), .val (.int okv), .val (.long (own_tot (fun j => cs.getD j 0) sn cn)), .second, .val (.int (-1 : Int32)), .unset] [(.int (Int32.ofNat cn)), (.int (Int32.ofNat sn)), (.ref sx)])) rfl (by rw [hml]; rfl) (lenOf own_pd3 rfl) rfl (by show 2 * 0 + _ ≤ _; exact Nat.le_of_eq rfl) (hb hby at_467) (by decide) (by decide) (by decide) (by decide)
    obtain ⟨rfl, e19, rfl⟩ := hQ19
    rw [List.append_nil] at X19
    refine own_st (st19) ?_
    clear st19 X18
    show OFin p e below s _ _ _ (T19.setTop (mkF m 470 #[.val (.long q1), .second, .val (.long q2), .second, .val (.int p3), .val (.int p4), .val (.ref cc), .val (.int (Int32.ofNat sn)), .val (.int (Int32.ofNat cn)), .val (.ref pw), .val (.int okv), .val (.long (own_tot (fun j => cs.getD j 0) sn cn)), .second, .val (.int (-1 : Int32)), .unset] [(.int (own_rd (fun j => cs.getD j 0) cn sn 0))]))
    refine own_st (fun _ kS => XS.istore X19.here hx rfl (hb hby at_470) rfl (l' := #[.val (.long q1), .second, .val (.long q2), .second, .val (.int p3), .val (.int p4), .val (.ref cc), .val (.int (Int32.ofNat sn)), .val (.int (Int32.ofNat cn)), .val (.ref pw), .val (.int okv), .val (.long (own_tot (fun j => cs.getD j 0) sn cn)), .second, .val (.int (-1 : Int32)), .val (.int (own_rd (fun j => cs.getD j 0) cn sn 0))]) rfl kS) ?_
    show OFin p e below s _ _ _ (T19.setTop (mkF m 472 #[.val (.long q1), .second, .val (.long q2), .second, .val (.int p3), .val (.int p4), .val (.ref cc), .val (.int (Int32.ofNat sn)), .val (.int (Int32.ofNat cn)), .val (.ref pw), .val (.int okv), .val (.long (own_tot (fun j => cs.getD j 0) sn cn)), .second, .val (.int (-1 : Int32)), .val (.int (own_rd (fun j => cs.getD j 0) cn sn 0))] []))
    refine own_st (fun _ kS => XS.iload X19.here hx rfl (hb hby at_472) rfl kS) ?_
    show OFin p e below s _ _ _ (T19.setTop (mkF m 474 #[.val (.long q1), .second, .val (.long q2), .second, .val (.int p3), .val (.int p4), .val (.ref cc), .val (.int (Int32.ofNat sn)), .val (.int (Int32.ofNat cn)), .val (.ref pw), .val (.int okv), .val (.long (own_tot (fun j => cs.getD j 0) sn cn)), .second, .val (.int (-1 : Int32)), .val (.int (own_rd (fun j => cs.getD j 0) cn sn 0))] [(.int (own_rd (fun j => cs.getD j 0) cn sn 0))]))
    refine own_st (fun _ kS => XS.iload X19.here hx rfl (hb hby at_474) rfl kS) ?_
    show OFin p e below s _ _ _ (T19.setTop (mkF m 476 #[.val (.long q1), .second, .val (.long q2), .second, .val (.int p3), .val (.int p4), .val (.ref cc), .val (.int (Int32.ofNat sn)), .val (.int (Int32.ofNat cn)), .val (.ref pw), .val (.int okv), .val (.long (own_tot (fun j => cs.getD j 0) sn cn)), .second, .val (.int (-1 : Int32)), .val (.int (own_rd (fun j => cs.getD j 0) cn sn 0))] [(.int (-1 : Int32)), (.int (own_rd (fun j => cs.getD j 0) cn sn 0))]))
    refine own_st (fun _ kS => XS.icmpNo X19.here hx rfl (hb hby at_476) rfl (teq (l0 c1)).2 kS) ?_
    show OFin p e below s _ _ _ (T19.setTop (mkF m 479 #[.val (.long q1), .second, .val (.long q2), .second, .val (.int p3), .val (.int p4), .val (.ref cc), .val (.int (Int32.ofNat sn)), .val (.int (Int32.ofNat cn)), .val (.ref pw), .val (.int okv), .val (.long (own_tot (fun j => cs.getD j 0) sn cn)), .second, .val (.int (-1 : Int32)), .val (.int (own_rd (fun j => cs.getD j 0) cn sn 0))] []))
    refine own_st (fun _ kS => XS.iconst X19.here hx rfl (hb hby at_479) kS) ?_
    show OFin p e below s _ _ _ (T19.setTop (mkF m 480 #[.val (.long q1), .second, .val (.long q2), .second, .val (.int p3), .val (.int p4), .val (.ref cc), .val (.int (Int32.ofNat sn)), .val (.int (Int32.ofNat cn)), .val (.ref pw), .val (.int okv), .val (.long (own_tot (fun j => cs.getD j 0) sn cn)), .second, .val (.int (-1 : Int32)), .val (.int (own_rd (fun j => cs.getD j 0) cn sn 0))] [(.int (1 : Int32))]))
    refine own_st (fun _ kS => XS.goto X19.here hx rfl (pc0 := 480) (pc' := 484) rfl (hb hby at_480) (by decide) (by decide) kS) ?_
    show OFin p e below s _ _ _ (T19.setTop (mkF m 484 #[.val (.long q1), .second, .val (.long q2), .second, .val (.int p3), .val (.int p4), .val (.ref cc), .val (.int (Int32.ofNat sn)), .val (.int (Int32.ofNat cn)), .val (.ref pw), .val (.int okv), .val (.long (own_tot (fun j => cs.getD j 0) sn cn)), .second, .val (.int (-1 : Int32)), .val (.int (own_rd (fun j => cs.getD j 0) cn sn 0))] [(.int (1 : Int32))]))
    exact own_ret X19 hx (t := .boolean) hret hlk rfl (Or.inl ⟨rfl, by simp, _, rfl⟩) (hb hby at_484) (by decide) (by decide) ⟨rfl, fr18⟩
  · refine own_st (fun _ kS => XS.ifNo X13.here hx rfl (hb hby at_442) rfl ((if0 _ _).trans (feq c1).1) kS) ?_
    show OFin p e below s _ _ _ (T13.setTop (mkF m 445 #[.val (.long q1), .second, .val (.long q2), .second, .val (.int p3), .val (.int p4), .val (.ref cc), .val (.int (Int32.ofNat sn)), .val (.int (Int32.ofNat cn)), .val (.ref pw), .val (.int okv), .val (.long (own_tot (fun j => cs.getD j 0) sn cn)), .second, .unset, .unset] []))
    refine own_st (fun _ kS => XS.lload X13.here hx rfl (hb hby at_445) rfl kS) ?_
    show OFin p e below s _ _ _ (T13.setTop (mkF m 447 #[.val (.long q1), .second, .val (.long q2), .second, .val (.int p3), .val (.int p4), .val (.ref cc), .val (.int (Int32.ofNat sn)), .val (.int (Int32.ofNat cn)), .val (.ref pw), .val (.int okv), .val (.long (own_tot (fun j => cs.getD j 0) sn cn)), .second, .unset, .unset] [(.long (own_tot (fun j => cs.getD j 0) sn cn))]))
    refine own_st (fun _ kS => XS.l2i X13.here hx rfl (hb hby at_447) rfl kS) ?_
    show OFin p e below s _ _ _ (T13.setTop (mkF m 448 #[.val (.long q1), .second, .val (.long q2), .second, .val (.int p3), .val (.int p4), .val (.ref cc), .val (.int (Int32.ofNat sn)), .val (.int (Int32.ofNat cn)), .val (.ref pw), .val (.int okv), .val (.long (own_tot (fun j => cs.getD j 0) sn cn)), .second, .unset, .unset] [(.int ((own_tot (fun j => cs.getD j 0) sn cn).toInt32))]))
    refine own_st (fun _ kS => XS.goto X13.here hx rfl (pc0 := 448) (pc' := 452) rfl (hb hby at_448) (by decide) (by decide) kS) ?_
    show OFin p e below s _ _ _ (T13.setTop (mkF m 452 #[.val (.long q1), .second, .val (.long q2), .second, .val (.int p3), .val (.int p4), .val (.ref cc), .val (.int (Int32.ofNat sn)), .val (.int (Int32.ofNat cn)), .val (.ref pw), .val (.int okv), .val (.long (own_tot (fun j => cs.getD j 0) sn cn)), .second, .unset, .unset] [(.int ((own_tot (fun j => cs.getD j 0) sn cn).toInt32))]))
    refine own_st (fun _ kS => XS.istore X13.here hx rfl (hb hby at_452) rfl (l' := #[.val (.long q1), .second, .val (.long q2), .second, .val (.int p3), .val (.int p4), .val (.ref cc), .val (.int (Int32.ofNat sn)), .val (.int (Int32.ofNat cn)), .val (.ref pw), .val (.int okv), .val (.long (own_tot (fun j => cs.getD j 0) sn cn)), .second, .val (.int ((own_tot (fun j => cs.getD j 0) sn cn).toInt32)), .unset]) rfl kS) ?_
    show OFin p e below s _ _ _ (T13.setTop (mkF m 454 #[.val (.long q1), .second, .val (.long q2), .second, .val (.int p3), .val (.int p4), .val (.ref cc), .val (.int (Int32.ofNat sn)), .val (.int (Int32.ofNat cn)), .val (.ref pw), .val (.int okv), .val (.long (own_tot (fun j => cs.getD j 0) sn cn)), .second, .val (.int ((own_tot (fun j => cs.getD j 0) sn cn).toInt32)), .unset] []))
    obtain ⟨T20, h20, X20, e20, E20, A20, D20, -, st20⟩ := newO X13 hx hZ hown (own_w hw 18 rfl) (own_w hw 19 rfl) (own_w hw 20 rfl) e13 (g := (mkF m 454 #[.val (.long q1), .second, .val (.long q2), .second, .val (.int p3), .val (.int p4), .val (.ref cc), .val (.int (Int32.ofNat sn)), .val (.int (Int32.ofNat cn)), .val (.ref pw), .val (.int okv), .val (.long (own_tot (fun j => cs.getD j 0) sn cn)), .second, .val (.int ((own_tot (fun j => cs.getD j 0) sn cn).toInt32)), .unset] [])) rfl (hb hby at_454) (by decide) (by decide)
    obtain ⟨sx, g20⟩ : ∃ z, z = h0.size := ⟨_, rfl⟩
    rw [← g20] at A20 D20 st20
    have ne_cc_sx : cc ≠ sx := Nat.ne_of_lt (Nat.lt_of_lt_of_le V_c.lt (Nat.le_of_eq g20.symm))
    have g_sx : n0 ≤ sx := Nat.le_trans Z0 (Nat.le_of_eq g20.symm)
    have od20 := O.ext E20
    have f21 := V_c.ext E20
    have f22 : Fld Z h20 sx "java/lang/String" "coder" "B" (.int (0 : Int32)) := D20 (Or.inr (own_w hw 44 rfl)) (ty := .byte) (by decide)
    have f23 : Fld Z h20 sx "java/lang/String" "value" "[B" .null := D20 (Or.inr (own_w hw 46 rfl)) (ty := (.array .byte)) (by decide)
    have sz20 : n0 ≤ h20.size := Nat.le_trans Z0 E20.1
    refine own_st (st20) ?_
    clear st20 X13 e13 E20 D20 g20
    show OFin p e below s _ _ _ (T20.setTop (mkF m 457 #[.val (.long q1), .second, .val (.long q2), .second, .val (.int p3), .val (.int p4), .val (.ref cc), .val (.int (Int32.ofNat sn)), .val (.int (Int32.ofNat cn)), .val (.ref pw), .val (.int okv), .val (.long (own_tot (fun j => cs.getD j 0) sn cn)), .second, .val (.int ((own_tot (fun j => cs.getD j 0) sn cn).toInt32)), .unset] [(.ref sx)]))
    refine own_st (fun _ kS => XS.dup X20.here hx rfl (hb hby at_457) rfl rfl kS) ?_
    show OFin p e below s _ _ _ (T20.setTop (mkF m 458 #[.val (.long q1), .second, .val (.long q2), .second, .val (.int p3), .val (.int p4), .val (.ref cc), .val (.int (Int32.ofNat sn)), .val (.int (Int32.ofNat cn)), .val (.ref pw), .val (.int okv), .val (.long (own_tot (fun j => cs.getD j 0) sn cn)), .second, .val (.int ((own_tot (fun j => cs.getD j 0) sn cn).toInt32)), .unset] [(.ref sx), (.ref sx)]))
    refine own_st (fun _ kS => XS.aload X20.here hx rfl (hb hby at_458) rfl rfl kS) ?_
    show OFin p e below s _ _ _ (T20.setTop (mkF m 460 #[.val (.long q1), .second, .val (.long q2), .second, .val (.int p3), .val (.int p4), .val (.ref cc), .val (.int (Int32.ofNat sn)), .val (.int (Int32.ofNat cn)), .val (.ref pw), .val (.int okv), .val (.long (own_tot (fun j => cs.getD j 0) sn cn)), .second, .val (.int ((own_tot (fun j => cs.getD j 0) sn cn).toInt32)), .unset] [(.ref cc), (.ref sx), (.ref sx)]))
    have hws : ∀ d ∈ StrChars.Road.words, d.before a0 Z = true := fun d hd => hw d ((by decide +kernel : ∀ d ∈ StrChars.Road.words, d ∈ tables_1) d hd)
    obtain ⟨v24, T24, L24, X24, hQ24, st24⟩ := own_initB (StrChars.Road.QV Z sx (12 : Int32) (cs.map (fun c => c.toInt8.toInt32)) h20 n0) 1 12 X20 hx hZ (y := (⟨"java/lang/String", "<init>", "([C)V"⟩ : MethodName)) (W := 1) (a := sx) (argsL := [(.ref cc)]) (rest := [(.ref sx)]) rfl hown (own_w hw 21 rfl) (own_w hw 22 rfl) (own_w hw 23 rfl) (StrChars.Road.backV (R := room_1) (W := 1) hZ hws (kI := 4) (own_w hw 19 rfl) (cs := cs) (bs := cs.map (fun c => c.toInt8.toInt32)) (n := 12) (n0 := n0) g_sx sz20 A20 f23 f22 f21 (Sta.ext od20.2 S_c) hz hlen rfl (by decide) (by decide) hp rfl (by decide) (by decide)) e20 (g := (mkF m 460 #[.val (.long q1), .second, .val (.long q2), .second, .val (.int p3), .val (.int p4), .val (.ref cc), .val (.int (Int32.ofNat sn)), .val (.int (Int32.ofNat cn)), .val (.ref pw), .val (.int okv), .val (.long (own_tot (fun j => cs.getD j 0) sn cn)), .second, .val (.int ((own_tot (fun j => cs.getD j 0) sn cn).toInt32)), .unset] [(.ref cc), (.ref sx), (.ref sx)])) rfl (by rw [hml]; rfl) (lenOf own_pd2 rfl) rfl (by show 2 * 0 + _ ≤ _; exact Nat.le_of_eq rfl) (hb hby at_460) (by decide) (by decide)
    obtain ⟨rfl, N24, K24, EE24, FC24, t, kb, gt, gt2, gt3, FV24, VT24⟩ := hQ24
    have fr24 := Fr.app N0 N24
    have od24 := od20.keep K24 (allS g_sx all0)
    refine own_st (st24) ?_
    clear st24 X20 e20
    show OFin p e below s _ _ _ (T24.setTop (mkF m 463 #[.val (.long q1), .second, .val (.long q2), .second, .val (.int p3), .val (.int p4), .val (.ref cc), .val (.int (Int32.ofNat sn)), .val (.int (Int32.ofNat cn)), .val (.ref pw), .val (.int okv), .val (.long (own_tot (fun j => cs.getD j 0) sn cn)), .second, .val (.int ((own_tot (fun j => cs.getD j 0) sn cn).toInt32)), .unset] [(.ref sx)]))
    refine own_st (fun _ kS => XS.iload X24.here hx rfl (hb hby at_463) rfl kS) ?_
    show OFin p e below s _ _ _ (T24.setTop (mkF m 465 #[.val (.long q1), .second, .val (.long q2), .second, .val (.int p3), .val (.int p4), .val (.ref cc), .val (.int (Int32.ofNat sn)), .val (.int (Int32.ofNat cn)), .val (.ref pw), .val (.int okv), .val (.long (own_tot (fun j => cs.getD j 0) sn cn)), .second, .val (.int ((own_tot (fun j => cs.getD j 0) sn cn).toInt32)), .unset] [(.int (Int32.ofNat sn)), (.ref sx)]))
    refine own_st (fun _ kS => XS.iload X24.here hx rfl (hb hby at_465) rfl kS) ?_
    show OFin p e below s _ _ _ (T24.setTop (mkF m 467 #[.val (.long q1), .second, .val (.long q2), .second, .val (.int p3), .val (.int p4), .val (.ref cc), .val (.int (Int32.ofNat sn)), .val (.int (Int32.ofNat cn)), .val (.ref pw), .val (.int okv), .val (.long (own_tot (fun j => cs.getD j 0) sn cn)), .second, .val (.int ((own_tot (fun j => cs.getD j 0) sn cn).toInt32)), .unset] [(.int (Int32.ofNat cn)), (.int (Int32.ofNat sn)), (.ref sx)]))
    obtain ⟨v25, T25, L25, X25, hQ25, st25⟩ := own_static X24 hx hZ (y := (⟨"io/countersign/TimestampForm", "readDigits", "(Ljava/lang/String;II)I"⟩ : MethodName)) (rm := ⟨4, 0, 0, 53⟩) (W := 0) (argsL := [(.ref sx), (.int (Int32.ofNat sn)), (.int (Int32.ofNat cn))]) (rest := []) hown (own_w hw 47 rfl) (own_w hw 48 rfl) (own_w hw 49 rfl) (own_w hw 50 rfl) (rmRd l Z a0 hw sx (Int32.ofNat sn) (Int32.ofNat cn) T24.heap t kb cs z fm n0 sn cn hlen hp S_c hz S_f rf EE24 FV24 FC24 VT24 od24 (own_tn (by omega)) (own_add (a := sn) (b := cn) (by omega)) (by omega)) rfl (g := (mkF m 467 #[.val (.long q1), .second, .val (.long q2), .second, .val (.int p3), .val (.int p4), .val (.ref cc), .val (.int (Int32.ofNat sn)), .val (.int (Int32.ofNat cn)), .val (.ref pw), .val (.int okv), .val (.long (own_tot (fun j => cs.getD j 0) sn cn)), .second, .val (.int ((own_tot (fun j => cs.getD j 0) sn cn).toInt32)), .unset] [(.int (Int32.ofNat cn)), (.int (Int32.ofNat sn)), (.ref sx)])) rfl (by rw [hml]; rfl) (lenOf own_pd3 rfl) rfl (by show 2 * 0 + _ ≤ _; exact Nat.le_of_eq rfl) (hb hby at_467) (by decide) (by decide) (by decide) (by decide)
    obtain ⟨rfl, e25, rfl⟩ := hQ25
    rw [List.append_nil] at X25
    refine own_st (st25) ?_
    clear st25 X24
    show OFin p e below s _ _ _ (T25.setTop (mkF m 470 #[.val (.long q1), .second, .val (.long q2), .second, .val (.int p3), .val (.int p4), .val (.ref cc), .val (.int (Int32.ofNat sn)), .val (.int (Int32.ofNat cn)), .val (.ref pw), .val (.int okv), .val (.long (own_tot (fun j => cs.getD j 0) sn cn)), .second, .val (.int ((own_tot (fun j => cs.getD j 0) sn cn).toInt32)), .unset] [(.int (own_rd (fun j => cs.getD j 0) cn sn 0))]))
    refine own_st (fun _ kS => XS.istore X25.here hx rfl (hb hby at_470) rfl (l' := #[.val (.long q1), .second, .val (.long q2), .second, .val (.int p3), .val (.int p4), .val (.ref cc), .val (.int (Int32.ofNat sn)), .val (.int (Int32.ofNat cn)), .val (.ref pw), .val (.int okv), .val (.long (own_tot (fun j => cs.getD j 0) sn cn)), .second, .val (.int ((own_tot (fun j => cs.getD j 0) sn cn).toInt32)), .val (.int (own_rd (fun j => cs.getD j 0) cn sn 0))]) rfl kS) ?_
    show OFin p e below s _ _ _ (T25.setTop (mkF m 472 #[.val (.long q1), .second, .val (.long q2), .second, .val (.int p3), .val (.int p4), .val (.ref cc), .val (.int (Int32.ofNat sn)), .val (.int (Int32.ofNat cn)), .val (.ref pw), .val (.int okv), .val (.long (own_tot (fun j => cs.getD j 0) sn cn)), .second, .val (.int ((own_tot (fun j => cs.getD j 0) sn cn).toInt32)), .val (.int (own_rd (fun j => cs.getD j 0) cn sn 0))] []))
    refine own_st (fun _ kS => XS.iload X25.here hx rfl (hb hby at_472) rfl kS) ?_
    show OFin p e below s _ _ _ (T25.setTop (mkF m 474 #[.val (.long q1), .second, .val (.long q2), .second, .val (.int p3), .val (.int p4), .val (.ref cc), .val (.int (Int32.ofNat sn)), .val (.int (Int32.ofNat cn)), .val (.ref pw), .val (.int okv), .val (.long (own_tot (fun j => cs.getD j 0) sn cn)), .second, .val (.int ((own_tot (fun j => cs.getD j 0) sn cn).toInt32)), .val (.int (own_rd (fun j => cs.getD j 0) cn sn 0))] [(.int (own_rd (fun j => cs.getD j 0) cn sn 0))]))
    refine own_st (fun _ kS => XS.iload X25.here hx rfl (hb hby at_474) rfl kS) ?_
    show OFin p e below s _ _ _ (T25.setTop (mkF m 476 #[.val (.long q1), .second, .val (.long q2), .second, .val (.int p3), .val (.int p4), .val (.ref cc), .val (.int (Int32.ofNat sn)), .val (.int (Int32.ofNat cn)), .val (.ref pw), .val (.int okv), .val (.long (own_tot (fun j => cs.getD j 0) sn cn)), .second, .val (.int ((own_tot (fun j => cs.getD j 0) sn cn).toInt32)), .val (.int (own_rd (fun j => cs.getD j 0) cn sn 0))] [(.int ((own_tot (fun j => cs.getD j 0) sn cn).toInt32)), (.int (own_rd (fun j => cs.getD j 0) cn sn 0))]))
    refine own_st (fun _ kS => XS.icmpNo X25.here hx rfl (hb hby at_476) rfl (teq (l1 c1)).2 kS) ?_
    show OFin p e below s _ _ _ (T25.setTop (mkF m 479 #[.val (.long q1), .second, .val (.long q2), .second, .val (.int p3), .val (.int p4), .val (.ref cc), .val (.int (Int32.ofNat sn)), .val (.int (Int32.ofNat cn)), .val (.ref pw), .val (.int okv), .val (.long (own_tot (fun j => cs.getD j 0) sn cn)), .second, .val (.int ((own_tot (fun j => cs.getD j 0) sn cn).toInt32)), .val (.int (own_rd (fun j => cs.getD j 0) cn sn 0))] []))
    refine own_st (fun _ kS => XS.iconst X25.here hx rfl (hb hby at_479) kS) ?_
    show OFin p e below s _ _ _ (T25.setTop (mkF m 480 #[.val (.long q1), .second, .val (.long q2), .second, .val (.int p3), .val (.int p4), .val (.ref cc), .val (.int (Int32.ofNat sn)), .val (.int (Int32.ofNat cn)), .val (.ref pw), .val (.int okv), .val (.long (own_tot (fun j => cs.getD j 0) sn cn)), .second, .val (.int ((own_tot (fun j => cs.getD j 0) sn cn).toInt32)), .val (.int (own_rd (fun j => cs.getD j 0) cn sn 0))] [(.int (1 : Int32))]))
    refine own_st (fun _ kS => XS.goto X25.here hx rfl (pc0 := 480) (pc' := 484) rfl (hb hby at_480) (by decide) (by decide) kS) ?_
    show OFin p e below s _ _ _ (T25.setTop (mkF m 484 #[.val (.long q1), .second, .val (.long q2), .second, .val (.int p3), .val (.int p4), .val (.ref cc), .val (.int (Int32.ofNat sn)), .val (.int (Int32.ofNat cn)), .val (.ref pw), .val (.int okv), .val (.long (own_tot (fun j => cs.getD j 0) sn cn)), .second, .val (.int ((own_tot (fun j => cs.getD j 0) sn cn).toInt32)), .val (.int (own_rd (fun j => cs.getD j 0) cn sn 0))] [(.int (1 : Int32))]))
    exact own_ret X25 hx (t := .boolean) hret hlk rfl (Or.inl ⟨rfl, by simp, _, rfl⟩) (hb hby at_484) (by decide) (by decide) ⟨rfl, fr24⟩
set_option maxRecDepth 65536 in
set_option maxHeartbeats 40000000 in
theorem own_pF8 {l : Launch} {Z : State} {a0 : Array Value} (hw : ∀ d ∈ tables_1, d.before a0 Z = true) {p : Program} {e : Env} {s : State} {m : MethodId} {args : Array Value} {below : List Frame} {meth : Method} {c : Code} (hC : OCtx Z p s m meth c "io/countersign/TimestampFormReadDigitsPinLaw" "law" code maxLocals ret) {T0 : State} {locs : List Loc} {cells slots : Nat} (X0 : Stand p l e room_1 s m args below meth c T0 locs cells slots) {h0 : Heap} (e0 : T0.heap = h0) (n0 : Nat) (Z0 : n0 ≤ h0.size) (q1 q2 : Int64) (p3 p4 : Int32) (cc : Addr) (kC : ClassId) (cs : List Int32) (z : Int32) (fm : Value) (pw : Addr) (sn cn : Nat) (hlen : cs.length = 12) (hp : ∀ c ∈ cs, ¬ c < 0 ∧ ¬ (255 : Int32) < c) (S_c : Sta Z Z.heap "java/lang/String" "COMPACT_STRINGS" "Z" (.int z)) (hz : ¬ z = 0) (S_f : Sta Z Z.heap "jdk/internal/util/Preconditions" "SIOOBE_FORMATTER" "Ljava/util/function/BiFunction;" fm) (rf : fm.isRef = true) (V_c : Arv Z h0 cc kC .char (12 : Int32) (cs.map Value.int) (.int 0)) (O : Old Z n0 h0) (N0 : Fr n0 locs) (F_p : OArr Z h0 pw .int 9 (fun i => .int (own_pw i))) (hsn : sn ≤ 3) (hcn : cn ≤ 9) (hcs : cells = 2) (hss : slots = 21) (k0 : ¬ own_g (fun j => cs.getD j 0) sn cn 0 = 0) (k1 : ¬ own_g (fun j => cs.getD j 0) sn cn 1 = 0) (k2 : ¬ own_g (fun j => cs.getD j 0) sn cn 2 = 0) (k3 : ¬ own_g (fun j => cs.getD j 0) sn cn 3 = 0) (k4 : ¬ own_g (fun j => cs.getD j 0) sn cn 4 = 0) (k5 : ¬ own_g (fun j => cs.getD j 0) sn cn 5 = 0) (k6 : ¬ own_g (fun j => cs.getD j 0) sn cn 6 = 0) (k7 : ¬ own_g (fun j => cs.getD j 0) sn cn 7 = 0) :
    OFin p e below s room_1.cells room_1.slots (fun v h L => v = some (.int (1 : Int32)) ∧ Fr n0 L) (T0.setTop (mkF m 298 #[.val (.long q1), .second, .val (.long q2), .second, .val (.int p3), .val (.int p4), .val (.ref cc), .val (.int (Int32.ofNat sn)), .val (.int (Int32.ofNat cn)), .val (.ref pw), .unset, .unset, .unset, .unset, .unset] [])) := by
  have hC0 := hC
  obtain ⟨hx, hZ, hby, hml, hown, hret, hlk, hnm⟩ := hC
  have F_a : OArr Z h0 cc .char 12 (fun i => .int (cs.getD i 0)) := OArr.of V_c rfl (fun i _ => own_csA cs i)
  have hcs0 := hcs
  have hss0 := hss
  subst hcs hss
  refine own_st (fun _ kS => XS.aload X0.here hx rfl (hb hby at_298) rfl rfl kS) ?_
  show OFin p e below s _ _ _ (T0.setTop (mkF m 300 #[.val (.long q1), .second, .val (.long q2), .second, .val (.int p3), .val (.int p4), .val (.ref cc), .val (.int (Int32.ofNat sn)), .val (.int (Int32.ofNat cn)), .val (.ref pw), .unset, .unset, .unset, .unset, .unset] [(.ref cc)]))
  refine own_st (fun _ kS => XS.iload X0.here hx rfl (hb hby at_300) rfl kS) ?_
  show OFin p e below s _ _ _ (T0.setTop (mkF m 302 #[.val (.long q1), .second, .val (.long q2), .second, .val (.int p3), .val (.int p4), .val (.ref cc), .val (.int (Int32.ofNat sn)), .val (.int (Int32.ofNat cn)), .val (.ref pw), .unset, .unset, .unset, .unset, .unset] [(.int (Int32.ofNat sn)), (.ref cc)]))
  refine own_st (fun _ kS => XS.iload X0.here hx rfl (hb hby at_302) rfl kS) ?_
  show OFin p e below s _ _ _ (T0.setTop (mkF m 304 #[.val (.long q1), .second, .val (.long q2), .second, .val (.int p3), .val (.int p4), .val (.ref cc), .val (.int (Int32.ofNat sn)), .val (.int (Int32.ofNat cn)), .val (.ref pw), .unset, .unset, .unset, .unset, .unset] [(.int (Int32.ofNat cn)), (.int (Int32.ofNat sn)), (.ref cc)]))
  refine own_st (fun _ kS => XS.bipush X0.here hx rfl (hb hby at_304) kS) ?_
  show OFin p e below s _ _ _ (T0.setTop (mkF m 306 #[.val (.long q1), .second, .val (.long q2), .second, .val (.int p3), .val (.int p4), .val (.ref cc), .val (.int (Int32.ofNat sn)), .val (.int (Int32.ofNat cn)), .val (.ref pw), .unset, .unset, .unset, .unset, .unset] [(.int (8 : Int32)), (.int (Int32.ofNat cn)), (.int (Int32.ofNat sn)), (.ref cc)]))
  obtain ⟨v26, T26, L26, X26, hQ26, st26⟩ := own_static X0 hx hZ (y := (⟨"io/countersign/TimestampFormReadDigitsPinLaw", "fine", "([CIII)Z"⟩ : MethodName)) (rm := ⟨0, 0, 0, 0⟩) (W := 0) (argsL := [(.ref cc), (.int (Int32.ofNat sn)), (.int (Int32.ofNat cn)), (.int (8 : Int32))]) (rest := []) hown (own_w hw 12 rfl) (own_w hw 13 rfl) (own_w hw 3 rfl) (own_w hw 14 rfl) (rmFi l Z a0 hw cc _ _ (8 : Int32) h0 (fun j => cs.getD j 0) (sn + 8) F_a (fun q => by have q1 : 8 < cn := (own_nlt (a := 8) (by decide) (by omega)).mp q; exact ⟨own_add (a := sn) (b := 8) (by omega), by omega⟩)) e0 (g := (mkF m 306 #[.val (.long q1), .second, .val (.long q2), .second, .val (.int p3), .val (.int p4), .val (.ref cc), .val (.int (Int32.ofNat sn)), .val (.int (Int32.ofNat cn)), .val (.ref pw), .unset, .unset, .unset, .unset, .unset] [(.int (8 : Int32)), (.int (Int32.ofNat cn)), (.int (Int32.ofNat sn)), (.ref cc)])) rfl (by rw [hml]; rfl) (lenOf own_pd4 rfl) rfl (by show 2 * 0 + _ ≤ _; exact Nat.le_of_eq rfl) (hb hby at_306) (by decide) (by decide) (by decide) (by decide)
  obtain ⟨rfl, e26, rfl⟩ := hQ26
  rw [List.append_nil] at X26
  refine own_st (st26) ?_
  clear st26 X0 e0
  show OFin p e below s _ _ _ (T26.setTop (mkF m 309 #[.val (.long q1), .second, .val (.long q2), .second, .val (.int p3), .val (.int p4), .val (.ref cc), .val (.int (Int32.ofNat sn)), .val (.int (Int32.ofNat cn)), .val (.ref pw), .unset, .unset, .unset, .unset, .unset] [(.int (own_g (fun j => cs.getD j 0) sn cn 8))]))
  by_cases k8 : (own_g (fun j => cs.getD j 0) sn cn 8) = (0 : Int32)
  · refine own_st (fun _ kS => XS.ifYes X26.here hx rfl (pc0 := 309) (pc' := 316) rfl (hb hby at_309) rfl ((if0 _ _).trans (teq k8).1) (by decide) (by decide) kS) ?_
    show OFin p e below s _ _ _ (T26.setTop (mkF m 316 #[.val (.long q1), .second, .val (.long q2), .second, .val (.int p3), .val (.int p4), .val (.ref cc), .val (.int (Int32.ofNat sn)), .val (.int (Int32.ofNat cn)), .val (.ref pw), .unset, .unset, .unset, .unset, .unset] []))
    refine own_st (fun _ kS => XS.iconst X26.here hx rfl (hb hby at_316) kS) ?_
    show OFin p e below s _ _ _ (T26.setTop (mkF m 317 #[.val (.long q1), .second, .val (.long q2), .second, .val (.int p3), .val (.int p4), .val (.ref cc), .val (.int (Int32.ofNat sn)), .val (.int (Int32.ofNat cn)), .val (.ref pw), .unset, .unset, .unset, .unset, .unset] [(.int (0 : Int32))]))
    refine own_st (fun _ kS => XS.istore X26.here hx rfl (hb hby at_317) rfl (l' := #[.val (.long q1), .second, .val (.long q2), .second, .val (.int p3), .val (.int p4), .val (.ref cc), .val (.int (Int32.ofNat sn)), .val (.int (Int32.ofNat cn)), .val (.ref pw), .val (.int (0 : Int32)), .unset, .unset, .unset, .unset]) rfl kS) ?_
    show OFin p e below s _ _ _ (T26.setTop (mkF m 319 #[.val (.long q1), .second, .val (.long q2), .second, .val (.int p3), .val (.int p4), .val (.ref cc), .val (.int (Int32.ofNat sn)), .val (.int (Int32.ofNat cn)), .val (.ref pw), .val (.int (0 : Int32)), .unset, .unset, .unset, .unset] []))
    exact own_pT hw hC0 X26 e26 n0 Z0 q1 q2 p3 p4 cc kC cs z fm pw sn cn 0 hlen hp S_c hz S_f rf V_c O N0 F_p hsn hcn rfl rfl (by simp only [own_ok9, k0, k1, k2, k3, k4, k5, k6, k7, k8, if_true, if_false])
  · refine own_st (fun _ kS => XS.ifNo X26.here hx rfl (hb hby at_309) rfl ((if0 _ _).trans (feq k8).1) kS) ?_
    show OFin p e below s _ _ _ (T26.setTop (mkF m 312 #[.val (.long q1), .second, .val (.long q2), .second, .val (.int p3), .val (.int p4), .val (.ref cc), .val (.int (Int32.ofNat sn)), .val (.int (Int32.ofNat cn)), .val (.ref pw), .unset, .unset, .unset, .unset, .unset] []))
    refine own_st (fun _ kS => XS.iconst X26.here hx rfl (hb hby at_312) kS) ?_
    show OFin p e below s _ _ _ (T26.setTop (mkF m 313 #[.val (.long q1), .second, .val (.long q2), .second, .val (.int p3), .val (.int p4), .val (.ref cc), .val (.int (Int32.ofNat sn)), .val (.int (Int32.ofNat cn)), .val (.ref pw), .unset, .unset, .unset, .unset, .unset] [(.int (1 : Int32))]))
    refine own_st (fun _ kS => XS.goto X26.here hx rfl (pc0 := 313) (pc' := 317) rfl (hb hby at_313) (by decide) (by decide) kS) ?_
    show OFin p e below s _ _ _ (T26.setTop (mkF m 317 #[.val (.long q1), .second, .val (.long q2), .second, .val (.int p3), .val (.int p4), .val (.ref cc), .val (.int (Int32.ofNat sn)), .val (.int (Int32.ofNat cn)), .val (.ref pw), .unset, .unset, .unset, .unset, .unset] [(.int (1 : Int32))]))
    refine own_st (fun _ kS => XS.istore X26.here hx rfl (hb hby at_317) rfl (l' := #[.val (.long q1), .second, .val (.long q2), .second, .val (.int p3), .val (.int p4), .val (.ref cc), .val (.int (Int32.ofNat sn)), .val (.int (Int32.ofNat cn)), .val (.ref pw), .val (.int (1 : Int32)), .unset, .unset, .unset, .unset]) rfl kS) ?_
    show OFin p e below s _ _ _ (T26.setTop (mkF m 319 #[.val (.long q1), .second, .val (.long q2), .second, .val (.int p3), .val (.int p4), .val (.ref cc), .val (.int (Int32.ofNat sn)), .val (.int (Int32.ofNat cn)), .val (.ref pw), .val (.int (1 : Int32)), .unset, .unset, .unset, .unset] []))
    exact own_pT hw hC0 X26 e26 n0 Z0 q1 q2 p3 p4 cc kC cs z fm pw sn cn 1 hlen hp S_c hz S_f rf V_c O N0 F_p hsn hcn rfl rfl (by simp only [own_ok9, k0, k1, k2, k3, k4, k5, k6, k7, k8, if_true, if_false])
set_option maxRecDepth 65536 in
set_option maxHeartbeats 40000000 in
theorem own_pF7 {l : Launch} {Z : State} {a0 : Array Value} (hw : ∀ d ∈ tables_1, d.before a0 Z = true) {p : Program} {e : Env} {s : State} {m : MethodId} {args : Array Value} {below : List Frame} {meth : Method} {c : Code} (hC : OCtx Z p s m meth c "io/countersign/TimestampFormReadDigitsPinLaw" "law" code maxLocals ret) {T0 : State} {locs : List Loc} {cells slots : Nat} (X0 : Stand p l e room_1 s m args below meth c T0 locs cells slots) {h0 : Heap} (e0 : T0.heap = h0) (n0 : Nat) (Z0 : n0 ≤ h0.size) (q1 q2 : Int64) (p3 p4 : Int32) (cc : Addr) (kC : ClassId) (cs : List Int32) (z : Int32) (fm : Value) (pw : Addr) (sn cn : Nat) (hlen : cs.length = 12) (hp : ∀ c ∈ cs, ¬ c < 0 ∧ ¬ (255 : Int32) < c) (S_c : Sta Z Z.heap "java/lang/String" "COMPACT_STRINGS" "Z" (.int z)) (hz : ¬ z = 0) (S_f : Sta Z Z.heap "jdk/internal/util/Preconditions" "SIOOBE_FORMATTER" "Ljava/util/function/BiFunction;" fm) (rf : fm.isRef = true) (V_c : Arv Z h0 cc kC .char (12 : Int32) (cs.map Value.int) (.int 0)) (O : Old Z n0 h0) (N0 : Fr n0 locs) (F_p : OArr Z h0 pw .int 9 (fun i => .int (own_pw i))) (hsn : sn ≤ 3) (hcn : cn ≤ 9) (hcs : cells = 2) (hss : slots = 21) (k0 : ¬ own_g (fun j => cs.getD j 0) sn cn 0 = 0) (k1 : ¬ own_g (fun j => cs.getD j 0) sn cn 1 = 0) (k2 : ¬ own_g (fun j => cs.getD j 0) sn cn 2 = 0) (k3 : ¬ own_g (fun j => cs.getD j 0) sn cn 3 = 0) (k4 : ¬ own_g (fun j => cs.getD j 0) sn cn 4 = 0) (k5 : ¬ own_g (fun j => cs.getD j 0) sn cn 5 = 0) (k6 : ¬ own_g (fun j => cs.getD j 0) sn cn 6 = 0) :
    OFin p e below s room_1.cells room_1.slots (fun v h L => v = some (.int (1 : Int32)) ∧ Fr n0 L) (T0.setTop (mkF m 284 #[.val (.long q1), .second, .val (.long q2), .second, .val (.int p3), .val (.int p4), .val (.ref cc), .val (.int (Int32.ofNat sn)), .val (.int (Int32.ofNat cn)), .val (.ref pw), .unset, .unset, .unset, .unset, .unset] [])) := by
  have hC0 := hC
  obtain ⟨hx, hZ, hby, hml, hown, hret, hlk, hnm⟩ := hC
  have F_a : OArr Z h0 cc .char 12 (fun i => .int (cs.getD i 0)) := OArr.of V_c rfl (fun i _ => own_csA cs i)
  have hcs0 := hcs
  have hss0 := hss
  subst hcs hss
  refine own_st (fun _ kS => XS.aload X0.here hx rfl (hb hby at_284) rfl rfl kS) ?_
  show OFin p e below s _ _ _ (T0.setTop (mkF m 286 #[.val (.long q1), .second, .val (.long q2), .second, .val (.int p3), .val (.int p4), .val (.ref cc), .val (.int (Int32.ofNat sn)), .val (.int (Int32.ofNat cn)), .val (.ref pw), .unset, .unset, .unset, .unset, .unset] [(.ref cc)]))
  refine own_st (fun _ kS => XS.iload X0.here hx rfl (hb hby at_286) rfl kS) ?_
  show OFin p e below s _ _ _ (T0.setTop (mkF m 288 #[.val (.long q1), .second, .val (.long q2), .second, .val (.int p3), .val (.int p4), .val (.ref cc), .val (.int (Int32.ofNat sn)), .val (.int (Int32.ofNat cn)), .val (.ref pw), .unset, .unset, .unset, .unset, .unset] [(.int (Int32.ofNat sn)), (.ref cc)]))
  refine own_st (fun _ kS => XS.iload X0.here hx rfl (hb hby at_288) rfl kS) ?_
  show OFin p e below s _ _ _ (T0.setTop (mkF m 290 #[.val (.long q1), .second, .val (.long q2), .second, .val (.int p3), .val (.int p4), .val (.ref cc), .val (.int (Int32.ofNat sn)), .val (.int (Int32.ofNat cn)), .val (.ref pw), .unset, .unset, .unset, .unset, .unset] [(.int (Int32.ofNat cn)), (.int (Int32.ofNat sn)), (.ref cc)]))
  refine own_st (fun _ kS => XS.bipush X0.here hx rfl (hb hby at_290) kS) ?_
  show OFin p e below s _ _ _ (T0.setTop (mkF m 292 #[.val (.long q1), .second, .val (.long q2), .second, .val (.int p3), .val (.int p4), .val (.ref cc), .val (.int (Int32.ofNat sn)), .val (.int (Int32.ofNat cn)), .val (.ref pw), .unset, .unset, .unset, .unset, .unset] [(.int (7 : Int32)), (.int (Int32.ofNat cn)), (.int (Int32.ofNat sn)), (.ref cc)]))
  obtain ⟨v27, T27, L27, X27, hQ27, st27⟩ := own_static X0 hx hZ (y := (⟨"io/countersign/TimestampFormReadDigitsPinLaw", "fine", "([CIII)Z"⟩ : MethodName)) (rm := ⟨0, 0, 0, 0⟩) (W := 0) (argsL := [(.ref cc), (.int (Int32.ofNat sn)), (.int (Int32.ofNat cn)), (.int (7 : Int32))]) (rest := []) hown (own_w hw 12 rfl) (own_w hw 13 rfl) (own_w hw 3 rfl) (own_w hw 14 rfl) (rmFi l Z a0 hw cc _ _ (7 : Int32) h0 (fun j => cs.getD j 0) (sn + 7) F_a (fun q => by have q1 : 7 < cn := (own_nlt (a := 7) (by decide) (by omega)).mp q; exact ⟨own_add (a := sn) (b := 7) (by omega), by omega⟩)) e0 (g := (mkF m 292 #[.val (.long q1), .second, .val (.long q2), .second, .val (.int p3), .val (.int p4), .val (.ref cc), .val (.int (Int32.ofNat sn)), .val (.int (Int32.ofNat cn)), .val (.ref pw), .unset, .unset, .unset, .unset, .unset] [(.int (7 : Int32)), (.int (Int32.ofNat cn)), (.int (Int32.ofNat sn)), (.ref cc)])) rfl (by rw [hml]; rfl) (lenOf own_pd4 rfl) rfl (by show 2 * 0 + _ ≤ _; exact Nat.le_of_eq rfl) (hb hby at_292) (by decide) (by decide) (by decide) (by decide)
  obtain ⟨rfl, e27, rfl⟩ := hQ27
  rw [List.append_nil] at X27
  refine own_st (st27) ?_
  clear st27 X0 e0
  show OFin p e below s _ _ _ (T27.setTop (mkF m 295 #[.val (.long q1), .second, .val (.long q2), .second, .val (.int p3), .val (.int p4), .val (.ref cc), .val (.int (Int32.ofNat sn)), .val (.int (Int32.ofNat cn)), .val (.ref pw), .unset, .unset, .unset, .unset, .unset] [(.int (own_g (fun j => cs.getD j 0) sn cn 7))]))
  by_cases k7 : (own_g (fun j => cs.getD j 0) sn cn 7) = (0 : Int32)
  · refine own_st (fun _ kS => XS.ifYes X27.here hx rfl (pc0 := 295) (pc' := 316) rfl (hb hby at_295) rfl ((if0 _ _).trans (teq k7).1) (by decide) (by decide) kS) ?_
    show OFin p e below s _ _ _ (T27.setTop (mkF m 316 #[.val (.long q1), .second, .val (.long q2), .second, .val (.int p3), .val (.int p4), .val (.ref cc), .val (.int (Int32.ofNat sn)), .val (.int (Int32.ofNat cn)), .val (.ref pw), .unset, .unset, .unset, .unset, .unset] []))
    refine own_st (fun _ kS => XS.iconst X27.here hx rfl (hb hby at_316) kS) ?_
    show OFin p e below s _ _ _ (T27.setTop (mkF m 317 #[.val (.long q1), .second, .val (.long q2), .second, .val (.int p3), .val (.int p4), .val (.ref cc), .val (.int (Int32.ofNat sn)), .val (.int (Int32.ofNat cn)), .val (.ref pw), .unset, .unset, .unset, .unset, .unset] [(.int (0 : Int32))]))
    refine own_st (fun _ kS => XS.istore X27.here hx rfl (hb hby at_317) rfl (l' := #[.val (.long q1), .second, .val (.long q2), .second, .val (.int p3), .val (.int p4), .val (.ref cc), .val (.int (Int32.ofNat sn)), .val (.int (Int32.ofNat cn)), .val (.ref pw), .val (.int (0 : Int32)), .unset, .unset, .unset, .unset]) rfl kS) ?_
    show OFin p e below s _ _ _ (T27.setTop (mkF m 319 #[.val (.long q1), .second, .val (.long q2), .second, .val (.int p3), .val (.int p4), .val (.ref cc), .val (.int (Int32.ofNat sn)), .val (.int (Int32.ofNat cn)), .val (.ref pw), .val (.int (0 : Int32)), .unset, .unset, .unset, .unset] []))
    exact own_pT hw hC0 X27 e27 n0 Z0 q1 q2 p3 p4 cc kC cs z fm pw sn cn 0 hlen hp S_c hz S_f rf V_c O N0 F_p hsn hcn rfl rfl (by simp only [own_ok9, k0, k1, k2, k3, k4, k5, k6, k7, if_true, if_false])
  · refine own_st (fun _ kS => XS.ifNo X27.here hx rfl (hb hby at_295) rfl ((if0 _ _).trans (feq k7).1) kS) ?_
    show OFin p e below s _ _ _ (T27.setTop (mkF m 298 #[.val (.long q1), .second, .val (.long q2), .second, .val (.int p3), .val (.int p4), .val (.ref cc), .val (.int (Int32.ofNat sn)), .val (.int (Int32.ofNat cn)), .val (.ref pw), .unset, .unset, .unset, .unset, .unset] []))
    exact own_pF8 hw hC0 X27 e27 n0 Z0 q1 q2 p3 p4 cc kC cs z fm pw sn cn hlen hp S_c hz S_f rf V_c O N0 F_p hsn hcn rfl rfl k0 k1 k2 k3 k4 k5 k6 k7
set_option maxRecDepth 65536 in
set_option maxHeartbeats 40000000 in
theorem own_pF6 {l : Launch} {Z : State} {a0 : Array Value} (hw : ∀ d ∈ tables_1, d.before a0 Z = true) {p : Program} {e : Env} {s : State} {m : MethodId} {args : Array Value} {below : List Frame} {meth : Method} {c : Code} (hC : OCtx Z p s m meth c "io/countersign/TimestampFormReadDigitsPinLaw" "law" code maxLocals ret) {T0 : State} {locs : List Loc} {cells slots : Nat} (X0 : Stand p l e room_1 s m args below meth c T0 locs cells slots) {h0 : Heap} (e0 : T0.heap = h0) (n0 : Nat) (Z0 : n0 ≤ h0.size) (q1 q2 : Int64) (p3 p4 : Int32) (cc : Addr) (kC : ClassId) (cs : List Int32) (z : Int32) (fm : Value) (pw : Addr) (sn cn : Nat) (hlen : cs.length = 12) (hp : ∀ c ∈ cs, ¬ c < 0 ∧ ¬ (255 : Int32) < c) (S_c : Sta Z Z.heap "java/lang/String" "COMPACT_STRINGS" "Z" (.int z)) (hz : ¬ z = 0) (S_f : Sta Z Z.heap "jdk/internal/util/Preconditions" "SIOOBE_FORMATTER" "Ljava/util/function/BiFunction;" fm) (rf : fm.isRef = true) (V_c : Arv Z h0 cc kC .char (12 : Int32) (cs.map Value.int) (.int 0)) (O : Old Z n0 h0) (N0 : Fr n0 locs) (F_p : OArr Z h0 pw .int 9 (fun i => .int (own_pw i))) (hsn : sn ≤ 3) (hcn : cn ≤ 9) (hcs : cells = 2) (hss : slots = 21) (k0 : ¬ own_g (fun j => cs.getD j 0) sn cn 0 = 0) (k1 : ¬ own_g (fun j => cs.getD j 0) sn cn 1 = 0) (k2 : ¬ own_g (fun j => cs.getD j 0) sn cn 2 = 0) (k3 : ¬ own_g (fun j => cs.getD j 0) sn cn 3 = 0) (k4 : ¬ own_g (fun j => cs.getD j 0) sn cn 4 = 0) (k5 : ¬ own_g (fun j => cs.getD j 0) sn cn 5 = 0) :
    OFin p e below s room_1.cells room_1.slots (fun v h L => v = some (.int (1 : Int32)) ∧ Fr n0 L) (T0.setTop (mkF m 270 #[.val (.long q1), .second, .val (.long q2), .second, .val (.int p3), .val (.int p4), .val (.ref cc), .val (.int (Int32.ofNat sn)), .val (.int (Int32.ofNat cn)), .val (.ref pw), .unset, .unset, .unset, .unset, .unset] [])) := by
  have hC0 := hC
  obtain ⟨hx, hZ, hby, hml, hown, hret, hlk, hnm⟩ := hC
  have F_a : OArr Z h0 cc .char 12 (fun i => .int (cs.getD i 0)) := OArr.of V_c rfl (fun i _ => own_csA cs i)
  have hcs0 := hcs
  have hss0 := hss
  subst hcs hss
  refine own_st (fun _ kS => XS.aload X0.here hx rfl (hb hby at_270) rfl rfl kS) ?_
  show OFin p e below s _ _ _ (T0.setTop (mkF m 272 #[.val (.long q1), .second, .val (.long q2), .second, .val (.int p3), .val (.int p4), .val (.ref cc), .val (.int (Int32.ofNat sn)), .val (.int (Int32.ofNat cn)), .val (.ref pw), .unset, .unset, .unset, .unset, .unset] [(.ref cc)]))
  refine own_st (fun _ kS => XS.iload X0.here hx rfl (hb hby at_272) rfl kS) ?_
  show OFin p e below s _ _ _ (T0.setTop (mkF m 274 #[.val (.long q1), .second, .val (.long q2), .second, .val (.int p3), .val (.int p4), .val (.ref cc), .val (.int (Int32.ofNat sn)), .val (.int (Int32.ofNat cn)), .val (.ref pw), .unset, .unset, .unset, .unset, .unset] [(.int (Int32.ofNat sn)), (.ref cc)]))
  refine own_st (fun _ kS => XS.iload X0.here hx rfl (hb hby at_274) rfl kS) ?_
  show OFin p e below s _ _ _ (T0.setTop (mkF m 276 #[.val (.long q1), .second, .val (.long q2), .second, .val (.int p3), .val (.int p4), .val (.ref cc), .val (.int (Int32.ofNat sn)), .val (.int (Int32.ofNat cn)), .val (.ref pw), .unset, .unset, .unset, .unset, .unset] [(.int (Int32.ofNat cn)), (.int (Int32.ofNat sn)), (.ref cc)]))
  refine own_st (fun _ kS => XS.bipush X0.here hx rfl (hb hby at_276) kS) ?_
  show OFin p e below s _ _ _ (T0.setTop (mkF m 278 #[.val (.long q1), .second, .val (.long q2), .second, .val (.int p3), .val (.int p4), .val (.ref cc), .val (.int (Int32.ofNat sn)), .val (.int (Int32.ofNat cn)), .val (.ref pw), .unset, .unset, .unset, .unset, .unset] [(.int (6 : Int32)), (.int (Int32.ofNat cn)), (.int (Int32.ofNat sn)), (.ref cc)]))
  obtain ⟨v28, T28, L28, X28, hQ28, st28⟩ := own_static X0 hx hZ (y := (⟨"io/countersign/TimestampFormReadDigitsPinLaw", "fine", "([CIII)Z"⟩ : MethodName)) (rm := ⟨0, 0, 0, 0⟩) (W := 0) (argsL := [(.ref cc), (.int (Int32.ofNat sn)), (.int (Int32.ofNat cn)), (.int (6 : Int32))]) (rest := []) hown (own_w hw 12 rfl) (own_w hw 13 rfl) (own_w hw 3 rfl) (own_w hw 14 rfl) (rmFi l Z a0 hw cc _ _ (6 : Int32) h0 (fun j => cs.getD j 0) (sn + 6) F_a (fun q => by have q1 : 6 < cn := (own_nlt (a := 6) (by decide) (by omega)).mp q; exact ⟨own_add (a := sn) (b := 6) (by omega), by omega⟩)) e0 (g := (mkF m 278 #[.val (.long q1), .second, .val (.long q2), .second, .val (.int p3), .val (.int p4), .val (.ref cc), .val (.int (Int32.ofNat sn)), .val (.int (Int32.ofNat cn)), .val (.ref pw), .unset, .unset, .unset, .unset, .unset] [(.int (6 : Int32)), (.int (Int32.ofNat cn)), (.int (Int32.ofNat sn)), (.ref cc)])) rfl (by rw [hml]; rfl) (lenOf own_pd4 rfl) rfl (by show 2 * 0 + _ ≤ _; exact Nat.le_of_eq rfl) (hb hby at_278) (by decide) (by decide) (by decide) (by decide)
  obtain ⟨rfl, e28, rfl⟩ := hQ28
  rw [List.append_nil] at X28
  refine own_st (st28) ?_
  clear st28 X0 e0
  show OFin p e below s _ _ _ (T28.setTop (mkF m 281 #[.val (.long q1), .second, .val (.long q2), .second, .val (.int p3), .val (.int p4), .val (.ref cc), .val (.int (Int32.ofNat sn)), .val (.int (Int32.ofNat cn)), .val (.ref pw), .unset, .unset, .unset, .unset, .unset] [(.int (own_g (fun j => cs.getD j 0) sn cn 6))]))
  by_cases k6 : (own_g (fun j => cs.getD j 0) sn cn 6) = (0 : Int32)
  · refine own_st (fun _ kS => XS.ifYes X28.here hx rfl (pc0 := 281) (pc' := 316) rfl (hb hby at_281) rfl ((if0 _ _).trans (teq k6).1) (by decide) (by decide) kS) ?_
    show OFin p e below s _ _ _ (T28.setTop (mkF m 316 #[.val (.long q1), .second, .val (.long q2), .second, .val (.int p3), .val (.int p4), .val (.ref cc), .val (.int (Int32.ofNat sn)), .val (.int (Int32.ofNat cn)), .val (.ref pw), .unset, .unset, .unset, .unset, .unset] []))
    refine own_st (fun _ kS => XS.iconst X28.here hx rfl (hb hby at_316) kS) ?_
    show OFin p e below s _ _ _ (T28.setTop (mkF m 317 #[.val (.long q1), .second, .val (.long q2), .second, .val (.int p3), .val (.int p4), .val (.ref cc), .val (.int (Int32.ofNat sn)), .val (.int (Int32.ofNat cn)), .val (.ref pw), .unset, .unset, .unset, .unset, .unset] [(.int (0 : Int32))]))
    refine own_st (fun _ kS => XS.istore X28.here hx rfl (hb hby at_317) rfl (l' := #[.val (.long q1), .second, .val (.long q2), .second, .val (.int p3), .val (.int p4), .val (.ref cc), .val (.int (Int32.ofNat sn)), .val (.int (Int32.ofNat cn)), .val (.ref pw), .val (.int (0 : Int32)), .unset, .unset, .unset, .unset]) rfl kS) ?_
    show OFin p e below s _ _ _ (T28.setTop (mkF m 319 #[.val (.long q1), .second, .val (.long q2), .second, .val (.int p3), .val (.int p4), .val (.ref cc), .val (.int (Int32.ofNat sn)), .val (.int (Int32.ofNat cn)), .val (.ref pw), .val (.int (0 : Int32)), .unset, .unset, .unset, .unset] []))
    exact own_pT hw hC0 X28 e28 n0 Z0 q1 q2 p3 p4 cc kC cs z fm pw sn cn 0 hlen hp S_c hz S_f rf V_c O N0 F_p hsn hcn rfl rfl (by simp only [own_ok9, k0, k1, k2, k3, k4, k5, k6, if_true, if_false])
  · refine own_st (fun _ kS => XS.ifNo X28.here hx rfl (hb hby at_281) rfl ((if0 _ _).trans (feq k6).1) kS) ?_
    show OFin p e below s _ _ _ (T28.setTop (mkF m 284 #[.val (.long q1), .second, .val (.long q2), .second, .val (.int p3), .val (.int p4), .val (.ref cc), .val (.int (Int32.ofNat sn)), .val (.int (Int32.ofNat cn)), .val (.ref pw), .unset, .unset, .unset, .unset, .unset] []))
    exact own_pF7 hw hC0 X28 e28 n0 Z0 q1 q2 p3 p4 cc kC cs z fm pw sn cn hlen hp S_c hz S_f rf V_c O N0 F_p hsn hcn rfl rfl k0 k1 k2 k3 k4 k5 k6
set_option maxRecDepth 65536 in
set_option maxHeartbeats 40000000 in
theorem own_pF5 {l : Launch} {Z : State} {a0 : Array Value} (hw : ∀ d ∈ tables_1, d.before a0 Z = true) {p : Program} {e : Env} {s : State} {m : MethodId} {args : Array Value} {below : List Frame} {meth : Method} {c : Code} (hC : OCtx Z p s m meth c "io/countersign/TimestampFormReadDigitsPinLaw" "law" code maxLocals ret) {T0 : State} {locs : List Loc} {cells slots : Nat} (X0 : Stand p l e room_1 s m args below meth c T0 locs cells slots) {h0 : Heap} (e0 : T0.heap = h0) (n0 : Nat) (Z0 : n0 ≤ h0.size) (q1 q2 : Int64) (p3 p4 : Int32) (cc : Addr) (kC : ClassId) (cs : List Int32) (z : Int32) (fm : Value) (pw : Addr) (sn cn : Nat) (hlen : cs.length = 12) (hp : ∀ c ∈ cs, ¬ c < 0 ∧ ¬ (255 : Int32) < c) (S_c : Sta Z Z.heap "java/lang/String" "COMPACT_STRINGS" "Z" (.int z)) (hz : ¬ z = 0) (S_f : Sta Z Z.heap "jdk/internal/util/Preconditions" "SIOOBE_FORMATTER" "Ljava/util/function/BiFunction;" fm) (rf : fm.isRef = true) (V_c : Arv Z h0 cc kC .char (12 : Int32) (cs.map Value.int) (.int 0)) (O : Old Z n0 h0) (N0 : Fr n0 locs) (F_p : OArr Z h0 pw .int 9 (fun i => .int (own_pw i))) (hsn : sn ≤ 3) (hcn : cn ≤ 9) (hcs : cells = 2) (hss : slots = 21) (k0 : ¬ own_g (fun j => cs.getD j 0) sn cn 0 = 0) (k1 : ¬ own_g (fun j => cs.getD j 0) sn cn 1 = 0) (k2 : ¬ own_g (fun j => cs.getD j 0) sn cn 2 = 0) (k3 : ¬ own_g (fun j => cs.getD j 0) sn cn 3 = 0) (k4 : ¬ own_g (fun j => cs.getD j 0) sn cn 4 = 0) :
    OFin p e below s room_1.cells room_1.slots (fun v h L => v = some (.int (1 : Int32)) ∧ Fr n0 L) (T0.setTop (mkF m 257 #[.val (.long q1), .second, .val (.long q2), .second, .val (.int p3), .val (.int p4), .val (.ref cc), .val (.int (Int32.ofNat sn)), .val (.int (Int32.ofNat cn)), .val (.ref pw), .unset, .unset, .unset, .unset, .unset] [])) := by
  have hC0 := hC
  obtain ⟨hx, hZ, hby, hml, hown, hret, hlk, hnm⟩ := hC
  have F_a : OArr Z h0 cc .char 12 (fun i => .int (cs.getD i 0)) := OArr.of V_c rfl (fun i _ => own_csA cs i)
  have hcs0 := hcs
  have hss0 := hss
  subst hcs hss
  refine own_st (fun _ kS => XS.aload X0.here hx rfl (hb hby at_257) rfl rfl kS) ?_
  show OFin p e below s _ _ _ (T0.setTop (mkF m 259 #[.val (.long q1), .second, .val (.long q2), .second, .val (.int p3), .val (.int p4), .val (.ref cc), .val (.int (Int32.ofNat sn)), .val (.int (Int32.ofNat cn)), .val (.ref pw), .unset, .unset, .unset, .unset, .unset] [(.ref cc)]))
  refine own_st (fun _ kS => XS.iload X0.here hx rfl (hb hby at_259) rfl kS) ?_
  show OFin p e below s _ _ _ (T0.setTop (mkF m 261 #[.val (.long q1), .second, .val (.long q2), .second, .val (.int p3), .val (.int p4), .val (.ref cc), .val (.int (Int32.ofNat sn)), .val (.int (Int32.ofNat cn)), .val (.ref pw), .unset, .unset, .unset, .unset, .unset] [(.int (Int32.ofNat sn)), (.ref cc)]))
  refine own_st (fun _ kS => XS.iload X0.here hx rfl (hb hby at_261) rfl kS) ?_
  show OFin p e below s _ _ _ (T0.setTop (mkF m 263 #[.val (.long q1), .second, .val (.long q2), .second, .val (.int p3), .val (.int p4), .val (.ref cc), .val (.int (Int32.ofNat sn)), .val (.int (Int32.ofNat cn)), .val (.ref pw), .unset, .unset, .unset, .unset, .unset] [(.int (Int32.ofNat cn)), (.int (Int32.ofNat sn)), (.ref cc)]))
  refine own_st (fun _ kS => XS.iconst X0.here hx rfl (hb hby at_263) kS) ?_
  show OFin p e below s _ _ _ (T0.setTop (mkF m 264 #[.val (.long q1), .second, .val (.long q2), .second, .val (.int p3), .val (.int p4), .val (.ref cc), .val (.int (Int32.ofNat sn)), .val (.int (Int32.ofNat cn)), .val (.ref pw), .unset, .unset, .unset, .unset, .unset] [(.int (5 : Int32)), (.int (Int32.ofNat cn)), (.int (Int32.ofNat sn)), (.ref cc)]))
  obtain ⟨v29, T29, L29, X29, hQ29, st29⟩ := own_static X0 hx hZ (y := (⟨"io/countersign/TimestampFormReadDigitsPinLaw", "fine", "([CIII)Z"⟩ : MethodName)) (rm := ⟨0, 0, 0, 0⟩) (W := 0) (argsL := [(.ref cc), (.int (Int32.ofNat sn)), (.int (Int32.ofNat cn)), (.int (5 : Int32))]) (rest := []) hown (own_w hw 12 rfl) (own_w hw 13 rfl) (own_w hw 3 rfl) (own_w hw 14 rfl) (rmFi l Z a0 hw cc _ _ (5 : Int32) h0 (fun j => cs.getD j 0) (sn + 5) F_a (fun q => by have q1 : 5 < cn := (own_nlt (a := 5) (by decide) (by omega)).mp q; exact ⟨own_add (a := sn) (b := 5) (by omega), by omega⟩)) e0 (g := (mkF m 264 #[.val (.long q1), .second, .val (.long q2), .second, .val (.int p3), .val (.int p4), .val (.ref cc), .val (.int (Int32.ofNat sn)), .val (.int (Int32.ofNat cn)), .val (.ref pw), .unset, .unset, .unset, .unset, .unset] [(.int (5 : Int32)), (.int (Int32.ofNat cn)), (.int (Int32.ofNat sn)), (.ref cc)])) rfl (by rw [hml]; rfl) (lenOf own_pd4 rfl) rfl (by show 2 * 0 + _ ≤ _; exact Nat.le_of_eq rfl) (hb hby at_264) (by decide) (by decide) (by decide) (by decide)
  obtain ⟨rfl, e29, rfl⟩ := hQ29
  rw [List.append_nil] at X29
  refine own_st (st29) ?_
  clear st29 X0 e0
  show OFin p e below s _ _ _ (T29.setTop (mkF m 267 #[.val (.long q1), .second, .val (.long q2), .second, .val (.int p3), .val (.int p4), .val (.ref cc), .val (.int (Int32.ofNat sn)), .val (.int (Int32.ofNat cn)), .val (.ref pw), .unset, .unset, .unset, .unset, .unset] [(.int (own_g (fun j => cs.getD j 0) sn cn 5))]))
  by_cases k5 : (own_g (fun j => cs.getD j 0) sn cn 5) = (0 : Int32)
  · refine own_st (fun _ kS => XS.ifYes X29.here hx rfl (pc0 := 267) (pc' := 316) rfl (hb hby at_267) rfl ((if0 _ _).trans (teq k5).1) (by decide) (by decide) kS) ?_
    show OFin p e below s _ _ _ (T29.setTop (mkF m 316 #[.val (.long q1), .second, .val (.long q2), .second, .val (.int p3), .val (.int p4), .val (.ref cc), .val (.int (Int32.ofNat sn)), .val (.int (Int32.ofNat cn)), .val (.ref pw), .unset, .unset, .unset, .unset, .unset] []))
    refine own_st (fun _ kS => XS.iconst X29.here hx rfl (hb hby at_316) kS) ?_
    show OFin p e below s _ _ _ (T29.setTop (mkF m 317 #[.val (.long q1), .second, .val (.long q2), .second, .val (.int p3), .val (.int p4), .val (.ref cc), .val (.int (Int32.ofNat sn)), .val (.int (Int32.ofNat cn)), .val (.ref pw), .unset, .unset, .unset, .unset, .unset] [(.int (0 : Int32))]))
    refine own_st (fun _ kS => XS.istore X29.here hx rfl (hb hby at_317) rfl (l' := #[.val (.long q1), .second, .val (.long q2), .second, .val (.int p3), .val (.int p4), .val (.ref cc), .val (.int (Int32.ofNat sn)), .val (.int (Int32.ofNat cn)), .val (.ref pw), .val (.int (0 : Int32)), .unset, .unset, .unset, .unset]) rfl kS) ?_
    show OFin p e below s _ _ _ (T29.setTop (mkF m 319 #[.val (.long q1), .second, .val (.long q2), .second, .val (.int p3), .val (.int p4), .val (.ref cc), .val (.int (Int32.ofNat sn)), .val (.int (Int32.ofNat cn)), .val (.ref pw), .val (.int (0 : Int32)), .unset, .unset, .unset, .unset] []))
    exact own_pT hw hC0 X29 e29 n0 Z0 q1 q2 p3 p4 cc kC cs z fm pw sn cn 0 hlen hp S_c hz S_f rf V_c O N0 F_p hsn hcn rfl rfl (by simp only [own_ok9, k0, k1, k2, k3, k4, k5, if_true, if_false])
  · refine own_st (fun _ kS => XS.ifNo X29.here hx rfl (hb hby at_267) rfl ((if0 _ _).trans (feq k5).1) kS) ?_
    show OFin p e below s _ _ _ (T29.setTop (mkF m 270 #[.val (.long q1), .second, .val (.long q2), .second, .val (.int p3), .val (.int p4), .val (.ref cc), .val (.int (Int32.ofNat sn)), .val (.int (Int32.ofNat cn)), .val (.ref pw), .unset, .unset, .unset, .unset, .unset] []))
    exact own_pF6 hw hC0 X29 e29 n0 Z0 q1 q2 p3 p4 cc kC cs z fm pw sn cn hlen hp S_c hz S_f rf V_c O N0 F_p hsn hcn rfl rfl k0 k1 k2 k3 k4 k5
set_option maxRecDepth 65536 in
set_option maxHeartbeats 40000000 in
theorem own_pF4 {l : Launch} {Z : State} {a0 : Array Value} (hw : ∀ d ∈ tables_1, d.before a0 Z = true) {p : Program} {e : Env} {s : State} {m : MethodId} {args : Array Value} {below : List Frame} {meth : Method} {c : Code} (hC : OCtx Z p s m meth c "io/countersign/TimestampFormReadDigitsPinLaw" "law" code maxLocals ret) {T0 : State} {locs : List Loc} {cells slots : Nat} (X0 : Stand p l e room_1 s m args below meth c T0 locs cells slots) {h0 : Heap} (e0 : T0.heap = h0) (n0 : Nat) (Z0 : n0 ≤ h0.size) (q1 q2 : Int64) (p3 p4 : Int32) (cc : Addr) (kC : ClassId) (cs : List Int32) (z : Int32) (fm : Value) (pw : Addr) (sn cn : Nat) (hlen : cs.length = 12) (hp : ∀ c ∈ cs, ¬ c < 0 ∧ ¬ (255 : Int32) < c) (S_c : Sta Z Z.heap "java/lang/String" "COMPACT_STRINGS" "Z" (.int z)) (hz : ¬ z = 0) (S_f : Sta Z Z.heap "jdk/internal/util/Preconditions" "SIOOBE_FORMATTER" "Ljava/util/function/BiFunction;" fm) (rf : fm.isRef = true) (V_c : Arv Z h0 cc kC .char (12 : Int32) (cs.map Value.int) (.int 0)) (O : Old Z n0 h0) (N0 : Fr n0 locs) (F_p : OArr Z h0 pw .int 9 (fun i => .int (own_pw i))) (hsn : sn ≤ 3) (hcn : cn ≤ 9) (hcs : cells = 2) (hss : slots = 21) (k0 : ¬ own_g (fun j => cs.getD j 0) sn cn 0 = 0) (k1 : ¬ own_g (fun j => cs.getD j 0) sn cn 1 = 0) (k2 : ¬ own_g (fun j => cs.getD j 0) sn cn 2 = 0) (k3 : ¬ own_g (fun j => cs.getD j 0) sn cn 3 = 0) :
    OFin p e below s room_1.cells room_1.slots (fun v h L => v = some (.int (1 : Int32)) ∧ Fr n0 L) (T0.setTop (mkF m 244 #[.val (.long q1), .second, .val (.long q2), .second, .val (.int p3), .val (.int p4), .val (.ref cc), .val (.int (Int32.ofNat sn)), .val (.int (Int32.ofNat cn)), .val (.ref pw), .unset, .unset, .unset, .unset, .unset] [])) := by
  have hC0 := hC
  obtain ⟨hx, hZ, hby, hml, hown, hret, hlk, hnm⟩ := hC
  have F_a : OArr Z h0 cc .char 12 (fun i => .int (cs.getD i 0)) := OArr.of V_c rfl (fun i _ => own_csA cs i)
  have hcs0 := hcs
  have hss0 := hss
  subst hcs hss
  refine own_st (fun _ kS => XS.aload X0.here hx rfl (hb hby at_244) rfl rfl kS) ?_
  show OFin p e below s _ _ _ (T0.setTop (mkF m 246 #[.val (.long q1), .second, .val (.long q2), .second, .val (.int p3), .val (.int p4), .val (.ref cc), .val (.int (Int32.ofNat sn)), .val (.int (Int32.ofNat cn)), .val (.ref pw), .unset, .unset, .unset, .unset, .unset] [(.ref cc)]))
  refine own_st (fun _ kS => XS.iload X0.here hx rfl (hb hby at_246) rfl kS) ?_
  show OFin p e below s _ _ _ (T0.setTop (mkF m 248 #[.val (.long q1), .second, .val (.long q2), .second, .val (.int p3), .val (.int p4), .val (.ref cc), .val (.int (Int32.ofNat sn)), .val (.int (Int32.ofNat cn)), .val (.ref pw), .unset, .unset, .unset, .unset, .unset] [(.int (Int32.ofNat sn)), (.ref cc)]))
  refine own_st (fun _ kS => XS.iload X0.here hx rfl (hb hby at_248) rfl kS) ?_
  show OFin p e below s _ _ _ (T0.setTop (mkF m 250 #[.val (.long q1), .second, .val (.long q2), .second, .val (.int p3), .val (.int p4), .val (.ref cc), .val (.int (Int32.ofNat sn)), .val (.int (Int32.ofNat cn)), .val (.ref pw), .unset, .unset, .unset, .unset, .unset] [(.int (Int32.ofNat cn)), (.int (Int32.ofNat sn)), (.ref cc)]))
  refine own_st (fun _ kS => XS.iconst X0.here hx rfl (hb hby at_250) kS) ?_
  show OFin p e below s _ _ _ (T0.setTop (mkF m 251 #[.val (.long q1), .second, .val (.long q2), .second, .val (.int p3), .val (.int p4), .val (.ref cc), .val (.int (Int32.ofNat sn)), .val (.int (Int32.ofNat cn)), .val (.ref pw), .unset, .unset, .unset, .unset, .unset] [(.int (4 : Int32)), (.int (Int32.ofNat cn)), (.int (Int32.ofNat sn)), (.ref cc)]))
  obtain ⟨v30, T30, L30, X30, hQ30, st30⟩ := own_static X0 hx hZ (y := (⟨"io/countersign/TimestampFormReadDigitsPinLaw", "fine", "([CIII)Z"⟩ : MethodName)) (rm := ⟨0, 0, 0, 0⟩) (W := 0) (argsL := [(.ref cc), (.int (Int32.ofNat sn)), (.int (Int32.ofNat cn)), (.int (4 : Int32))]) (rest := []) hown (own_w hw 12 rfl) (own_w hw 13 rfl) (own_w hw 3 rfl) (own_w hw 14 rfl) (rmFi l Z a0 hw cc _ _ (4 : Int32) h0 (fun j => cs.getD j 0) (sn + 4) F_a (fun q => by have q1 : 4 < cn := (own_nlt (a := 4) (by decide) (by omega)).mp q; exact ⟨own_add (a := sn) (b := 4) (by omega), by omega⟩)) e0 (g := (mkF m 251 #[.val (.long q1), .second, .val (.long q2), .second, .val (.int p3), .val (.int p4), .val (.ref cc), .val (.int (Int32.ofNat sn)), .val (.int (Int32.ofNat cn)), .val (.ref pw), .unset, .unset, .unset, .unset, .unset] [(.int (4 : Int32)), (.int (Int32.ofNat cn)), (.int (Int32.ofNat sn)), (.ref cc)])) rfl (by rw [hml]; rfl) (lenOf own_pd4 rfl) rfl (by show 2 * 0 + _ ≤ _; exact Nat.le_of_eq rfl) (hb hby at_251) (by decide) (by decide) (by decide) (by decide)
  obtain ⟨rfl, e30, rfl⟩ := hQ30
  rw [List.append_nil] at X30
  refine own_st (st30) ?_
  clear st30 X0 e0
  show OFin p e below s _ _ _ (T30.setTop (mkF m 254 #[.val (.long q1), .second, .val (.long q2), .second, .val (.int p3), .val (.int p4), .val (.ref cc), .val (.int (Int32.ofNat sn)), .val (.int (Int32.ofNat cn)), .val (.ref pw), .unset, .unset, .unset, .unset, .unset] [(.int (own_g (fun j => cs.getD j 0) sn cn 4))]))
  by_cases k4 : (own_g (fun j => cs.getD j 0) sn cn 4) = (0 : Int32)
  · refine own_st (fun _ kS => XS.ifYes X30.here hx rfl (pc0 := 254) (pc' := 316) rfl (hb hby at_254) rfl ((if0 _ _).trans (teq k4).1) (by decide) (by decide) kS) ?_
    show OFin p e below s _ _ _ (T30.setTop (mkF m 316 #[.val (.long q1), .second, .val (.long q2), .second, .val (.int p3), .val (.int p4), .val (.ref cc), .val (.int (Int32.ofNat sn)), .val (.int (Int32.ofNat cn)), .val (.ref pw), .unset, .unset, .unset, .unset, .unset] []))
    refine own_st (fun _ kS => XS.iconst X30.here hx rfl (hb hby at_316) kS) ?_
    show OFin p e below s _ _ _ (T30.setTop (mkF m 317 #[.val (.long q1), .second, .val (.long q2), .second, .val (.int p3), .val (.int p4), .val (.ref cc), .val (.int (Int32.ofNat sn)), .val (.int (Int32.ofNat cn)), .val (.ref pw), .unset, .unset, .unset, .unset, .unset] [(.int (0 : Int32))]))
    refine own_st (fun _ kS => XS.istore X30.here hx rfl (hb hby at_317) rfl (l' := #[.val (.long q1), .second, .val (.long q2), .second, .val (.int p3), .val (.int p4), .val (.ref cc), .val (.int (Int32.ofNat sn)), .val (.int (Int32.ofNat cn)), .val (.ref pw), .val (.int (0 : Int32)), .unset, .unset, .unset, .unset]) rfl kS) ?_
    show OFin p e below s _ _ _ (T30.setTop (mkF m 319 #[.val (.long q1), .second, .val (.long q2), .second, .val (.int p3), .val (.int p4), .val (.ref cc), .val (.int (Int32.ofNat sn)), .val (.int (Int32.ofNat cn)), .val (.ref pw), .val (.int (0 : Int32)), .unset, .unset, .unset, .unset] []))
    exact own_pT hw hC0 X30 e30 n0 Z0 q1 q2 p3 p4 cc kC cs z fm pw sn cn 0 hlen hp S_c hz S_f rf V_c O N0 F_p hsn hcn rfl rfl (by simp only [own_ok9, k0, k1, k2, k3, k4, if_true, if_false])
  · refine own_st (fun _ kS => XS.ifNo X30.here hx rfl (hb hby at_254) rfl ((if0 _ _).trans (feq k4).1) kS) ?_
    show OFin p e below s _ _ _ (T30.setTop (mkF m 257 #[.val (.long q1), .second, .val (.long q2), .second, .val (.int p3), .val (.int p4), .val (.ref cc), .val (.int (Int32.ofNat sn)), .val (.int (Int32.ofNat cn)), .val (.ref pw), .unset, .unset, .unset, .unset, .unset] []))
    exact own_pF5 hw hC0 X30 e30 n0 Z0 q1 q2 p3 p4 cc kC cs z fm pw sn cn hlen hp S_c hz S_f rf V_c O N0 F_p hsn hcn rfl rfl k0 k1 k2 k3 k4
set_option maxRecDepth 65536 in
set_option maxHeartbeats 40000000 in
theorem own_pF3 {l : Launch} {Z : State} {a0 : Array Value} (hw : ∀ d ∈ tables_1, d.before a0 Z = true) {p : Program} {e : Env} {s : State} {m : MethodId} {args : Array Value} {below : List Frame} {meth : Method} {c : Code} (hC : OCtx Z p s m meth c "io/countersign/TimestampFormReadDigitsPinLaw" "law" code maxLocals ret) {T0 : State} {locs : List Loc} {cells slots : Nat} (X0 : Stand p l e room_1 s m args below meth c T0 locs cells slots) {h0 : Heap} (e0 : T0.heap = h0) (n0 : Nat) (Z0 : n0 ≤ h0.size) (q1 q2 : Int64) (p3 p4 : Int32) (cc : Addr) (kC : ClassId) (cs : List Int32) (z : Int32) (fm : Value) (pw : Addr) (sn cn : Nat) (hlen : cs.length = 12) (hp : ∀ c ∈ cs, ¬ c < 0 ∧ ¬ (255 : Int32) < c) (S_c : Sta Z Z.heap "java/lang/String" "COMPACT_STRINGS" "Z" (.int z)) (hz : ¬ z = 0) (S_f : Sta Z Z.heap "jdk/internal/util/Preconditions" "SIOOBE_FORMATTER" "Ljava/util/function/BiFunction;" fm) (rf : fm.isRef = true) (V_c : Arv Z h0 cc kC .char (12 : Int32) (cs.map Value.int) (.int 0)) (O : Old Z n0 h0) (N0 : Fr n0 locs) (F_p : OArr Z h0 pw .int 9 (fun i => .int (own_pw i))) (hsn : sn ≤ 3) (hcn : cn ≤ 9) (hcs : cells = 2) (hss : slots = 21) (k0 : ¬ own_g (fun j => cs.getD j 0) sn cn 0 = 0) (k1 : ¬ own_g (fun j => cs.getD j 0) sn cn 1 = 0) (k2 : ¬ own_g (fun j => cs.getD j 0) sn cn 2 = 0) :
    OFin p e below s room_1.cells room_1.slots (fun v h L => v = some (.int (1 : Int32)) ∧ Fr n0 L) (T0.setTop (mkF m 231 #[.val (.long q1), .second, .val (.long q2), .second, .val (.int p3), .val (.int p4), .val (.ref cc), .val (.int (Int32.ofNat sn)), .val (.int (Int32.ofNat cn)), .val (.ref pw), .unset, .unset, .unset, .unset, .unset] [])) := by
  have hC0 := hC
  obtain ⟨hx, hZ, hby, hml, hown, hret, hlk, hnm⟩ := hC
  have F_a : OArr Z h0 cc .char 12 (fun i => .int (cs.getD i 0)) := OArr.of V_c rfl (fun i _ => own_csA cs i)
  have hcs0 := hcs
  have hss0 := hss
  subst hcs hss
  refine own_st (fun _ kS => XS.aload X0.here hx rfl (hb hby at_231) rfl rfl kS) ?_
  show OFin p e below s _ _ _ (T0.setTop (mkF m 233 #[.val (.long q1), .second, .val (.long q2), .second, .val (.int p3), .val (.int p4), .val (.ref cc), .val (.int (Int32.ofNat sn)), .val (.int (Int32.ofNat cn)), .val (.ref pw), .unset, .unset, .unset, .unset, .unset] [(.ref cc)]))
  refine own_st (fun _ kS => XS.iload X0.here hx rfl (hb hby at_233) rfl kS) ?_
  show OFin p e below s _ _ _ (T0.setTop (mkF m 235 #[.val (.long q1), .second, .val (.long q2), .second, .val (.int p3), .val (.int p4), .val (.ref cc), .val (.int (Int32.ofNat sn)), .val (.int (Int32.ofNat cn)), .val (.ref pw), .unset, .unset, .unset, .unset, .unset] [(.int (Int32.ofNat sn)), (.ref cc)]))
  refine own_st (fun _ kS => XS.iload X0.here hx rfl (hb hby at_235) rfl kS) ?_
  show OFin p e below s _ _ _ (T0.setTop (mkF m 237 #[.val (.long q1), .second, .val (.long q2), .second, .val (.int p3), .val (.int p4), .val (.ref cc), .val (.int (Int32.ofNat sn)), .val (.int (Int32.ofNat cn)), .val (.ref pw), .unset, .unset, .unset, .unset, .unset] [(.int (Int32.ofNat cn)), (.int (Int32.ofNat sn)), (.ref cc)]))
  refine own_st (fun _ kS => XS.iconst X0.here hx rfl (hb hby at_237) kS) ?_
  show OFin p e below s _ _ _ (T0.setTop (mkF m 238 #[.val (.long q1), .second, .val (.long q2), .second, .val (.int p3), .val (.int p4), .val (.ref cc), .val (.int (Int32.ofNat sn)), .val (.int (Int32.ofNat cn)), .val (.ref pw), .unset, .unset, .unset, .unset, .unset] [(.int (3 : Int32)), (.int (Int32.ofNat cn)), (.int (Int32.ofNat sn)), (.ref cc)]))
  obtain ⟨v31, T31, L31, X31, hQ31, st31⟩ := own_static X0 hx hZ (y := (⟨"io/countersign/TimestampFormReadDigitsPinLaw", "fine", "([CIII)Z"⟩ : MethodName)) (rm := ⟨0, 0, 0, 0⟩) (W := 0) (argsL := [(.ref cc), (.int (Int32.ofNat sn)), (.int (Int32.ofNat cn)), (.int (3 : Int32))]) (rest := []) hown (own_w hw 12 rfl) (own_w hw 13 rfl) (own_w hw 3 rfl) (own_w hw 14 rfl) (rmFi l Z a0 hw cc _ _ (3 : Int32) h0 (fun j => cs.getD j 0) (sn + 3) F_a (fun q => by have q1 : 3 < cn := (own_nlt (a := 3) (by decide) (by omega)).mp q; exact ⟨own_add (a := sn) (b := 3) (by omega), by omega⟩)) e0 (g := (mkF m 238 #[.val (.long q1), .second, .val (.long q2), .second, .val (.int p3), .val (.int p4), .val (.ref cc), .val (.int (Int32.ofNat sn)), .val (.int (Int32.ofNat cn)), .val (.ref pw), .unset, .unset, .unset, .unset, .unset] [(.int (3 : Int32)), (.int (Int32.ofNat cn)), (.int (Int32.ofNat sn)), (.ref cc)])) rfl (by rw [hml]; rfl) (lenOf own_pd4 rfl) rfl (by show 2 * 0 + _ ≤ _; exact Nat.le_of_eq rfl) (hb hby at_238) (by decide) (by decide) (by decide) (by decide)
  obtain ⟨rfl, e31, rfl⟩ := hQ31
  rw [List.append_nil] at X31
  refine own_st (st31) ?_
  clear st31 X0 e0
  show OFin p e below s _ _ _ (T31.setTop (mkF m 241 #[.val (.long q1), .second, .val (.long q2), .second, .val (.int p3), .val (.int p4), .val (.ref cc), .val (.int (Int32.ofNat sn)), .val (.int (Int32.ofNat cn)), .val (.ref pw), .unset, .unset, .unset, .unset, .unset] [(.int (own_g (fun j => cs.getD j 0) sn cn 3))]))
  by_cases k3 : (own_g (fun j => cs.getD j 0) sn cn 3) = (0 : Int32)
  · refine own_st (fun _ kS => XS.ifYes X31.here hx rfl (pc0 := 241) (pc' := 316) rfl (hb hby at_241) rfl ((if0 _ _).trans (teq k3).1) (by decide) (by decide) kS) ?_
    show OFin p e below s _ _ _ (T31.setTop (mkF m 316 #[.val (.long q1), .second, .val (.long q2), .second, .val (.int p3), .val (.int p4), .val (.ref cc), .val (.int (Int32.ofNat sn)), .val (.int (Int32.ofNat cn)), .val (.ref pw), .unset, .unset, .unset, .unset, .unset] []))
    refine own_st (fun _ kS => XS.iconst X31.here hx rfl (hb hby at_316) kS) ?_
    show OFin p e below s _ _ _ (T31.setTop (mkF m 317 #[.val (.long q1), .second, .val (.long q2), .second, .val (.int p3), .val (.int p4), .val (.ref cc), .val (.int (Int32.ofNat sn)), .val (.int (Int32.ofNat cn)), .val (.ref pw), .unset, .unset, .unset, .unset, .unset] [(.int (0 : Int32))]))
    refine own_st (fun _ kS => XS.istore X31.here hx rfl (hb hby at_317) rfl (l' := #[.val (.long q1), .second, .val (.long q2), .second, .val (.int p3), .val (.int p4), .val (.ref cc), .val (.int (Int32.ofNat sn)), .val (.int (Int32.ofNat cn)), .val (.ref pw), .val (.int (0 : Int32)), .unset, .unset, .unset, .unset]) rfl kS) ?_
    show OFin p e below s _ _ _ (T31.setTop (mkF m 319 #[.val (.long q1), .second, .val (.long q2), .second, .val (.int p3), .val (.int p4), .val (.ref cc), .val (.int (Int32.ofNat sn)), .val (.int (Int32.ofNat cn)), .val (.ref pw), .val (.int (0 : Int32)), .unset, .unset, .unset, .unset] []))
    exact own_pT hw hC0 X31 e31 n0 Z0 q1 q2 p3 p4 cc kC cs z fm pw sn cn 0 hlen hp S_c hz S_f rf V_c O N0 F_p hsn hcn rfl rfl (by simp only [own_ok9, k0, k1, k2, k3, if_true, if_false])
  · refine own_st (fun _ kS => XS.ifNo X31.here hx rfl (hb hby at_241) rfl ((if0 _ _).trans (feq k3).1) kS) ?_
    show OFin p e below s _ _ _ (T31.setTop (mkF m 244 #[.val (.long q1), .second, .val (.long q2), .second, .val (.int p3), .val (.int p4), .val (.ref cc), .val (.int (Int32.ofNat sn)), .val (.int (Int32.ofNat cn)), .val (.ref pw), .unset, .unset, .unset, .unset, .unset] []))
    exact own_pF4 hw hC0 X31 e31 n0 Z0 q1 q2 p3 p4 cc kC cs z fm pw sn cn hlen hp S_c hz S_f rf V_c O N0 F_p hsn hcn rfl rfl k0 k1 k2 k3
set_option maxRecDepth 65536 in
set_option maxHeartbeats 40000000 in
theorem own_pF2 {l : Launch} {Z : State} {a0 : Array Value} (hw : ∀ d ∈ tables_1, d.before a0 Z = true) {p : Program} {e : Env} {s : State} {m : MethodId} {args : Array Value} {below : List Frame} {meth : Method} {c : Code} (hC : OCtx Z p s m meth c "io/countersign/TimestampFormReadDigitsPinLaw" "law" code maxLocals ret) {T0 : State} {locs : List Loc} {cells slots : Nat} (X0 : Stand p l e room_1 s m args below meth c T0 locs cells slots) {h0 : Heap} (e0 : T0.heap = h0) (n0 : Nat) (Z0 : n0 ≤ h0.size) (q1 q2 : Int64) (p3 p4 : Int32) (cc : Addr) (kC : ClassId) (cs : List Int32) (z : Int32) (fm : Value) (pw : Addr) (sn cn : Nat) (hlen : cs.length = 12) (hp : ∀ c ∈ cs, ¬ c < 0 ∧ ¬ (255 : Int32) < c) (S_c : Sta Z Z.heap "java/lang/String" "COMPACT_STRINGS" "Z" (.int z)) (hz : ¬ z = 0) (S_f : Sta Z Z.heap "jdk/internal/util/Preconditions" "SIOOBE_FORMATTER" "Ljava/util/function/BiFunction;" fm) (rf : fm.isRef = true) (V_c : Arv Z h0 cc kC .char (12 : Int32) (cs.map Value.int) (.int 0)) (O : Old Z n0 h0) (N0 : Fr n0 locs) (F_p : OArr Z h0 pw .int 9 (fun i => .int (own_pw i))) (hsn : sn ≤ 3) (hcn : cn ≤ 9) (hcs : cells = 2) (hss : slots = 21) (k0 : ¬ own_g (fun j => cs.getD j 0) sn cn 0 = 0) (k1 : ¬ own_g (fun j => cs.getD j 0) sn cn 1 = 0) :
    OFin p e below s room_1.cells room_1.slots (fun v h L => v = some (.int (1 : Int32)) ∧ Fr n0 L) (T0.setTop (mkF m 218 #[.val (.long q1), .second, .val (.long q2), .second, .val (.int p3), .val (.int p4), .val (.ref cc), .val (.int (Int32.ofNat sn)), .val (.int (Int32.ofNat cn)), .val (.ref pw), .unset, .unset, .unset, .unset, .unset] [])) := by
  have hC0 := hC
  obtain ⟨hx, hZ, hby, hml, hown, hret, hlk, hnm⟩ := hC
  have F_a : OArr Z h0 cc .char 12 (fun i => .int (cs.getD i 0)) := OArr.of V_c rfl (fun i _ => own_csA cs i)
  have hcs0 := hcs
  have hss0 := hss
  subst hcs hss
  refine own_st (fun _ kS => XS.aload X0.here hx rfl (hb hby at_218) rfl rfl kS) ?_
  show OFin p e below s _ _ _ (T0.setTop (mkF m 220 #[.val (.long q1), .second, .val (.long q2), .second, .val (.int p3), .val (.int p4), .val (.ref cc), .val (.int (Int32.ofNat sn)), .val (.int (Int32.ofNat cn)), .val (.ref pw), .unset, .unset, .unset, .unset, .unset] [(.ref cc)]))
  refine own_st (fun _ kS => XS.iload X0.here hx rfl (hb hby at_220) rfl kS) ?_
  show OFin p e below s _ _ _ (T0.setTop (mkF m 222 #[.val (.long q1), .second, .val (.long q2), .second, .val (.int p3), .val (.int p4), .val (.ref cc), .val (.int (Int32.ofNat sn)), .val (.int (Int32.ofNat cn)), .val (.ref pw), .unset, .unset, .unset, .unset, .unset] [(.int (Int32.ofNat sn)), (.ref cc)]))
  refine own_st (fun _ kS => XS.iload X0.here hx rfl (hb hby at_222) rfl kS) ?_
  show OFin p e below s _ _ _ (T0.setTop (mkF m 224 #[.val (.long q1), .second, .val (.long q2), .second, .val (.int p3), .val (.int p4), .val (.ref cc), .val (.int (Int32.ofNat sn)), .val (.int (Int32.ofNat cn)), .val (.ref pw), .unset, .unset, .unset, .unset, .unset] [(.int (Int32.ofNat cn)), (.int (Int32.ofNat sn)), (.ref cc)]))
  refine own_st (fun _ kS => XS.iconst X0.here hx rfl (hb hby at_224) kS) ?_
  show OFin p e below s _ _ _ (T0.setTop (mkF m 225 #[.val (.long q1), .second, .val (.long q2), .second, .val (.int p3), .val (.int p4), .val (.ref cc), .val (.int (Int32.ofNat sn)), .val (.int (Int32.ofNat cn)), .val (.ref pw), .unset, .unset, .unset, .unset, .unset] [(.int (2 : Int32)), (.int (Int32.ofNat cn)), (.int (Int32.ofNat sn)), (.ref cc)]))
  obtain ⟨v32, T32, L32, X32, hQ32, st32⟩ := own_static X0 hx hZ (y := (⟨"io/countersign/TimestampFormReadDigitsPinLaw", "fine", "([CIII)Z"⟩ : MethodName)) (rm := ⟨0, 0, 0, 0⟩) (W := 0) (argsL := [(.ref cc), (.int (Int32.ofNat sn)), (.int (Int32.ofNat cn)), (.int (2 : Int32))]) (rest := []) hown (own_w hw 12 rfl) (own_w hw 13 rfl) (own_w hw 3 rfl) (own_w hw 14 rfl) (rmFi l Z a0 hw cc _ _ (2 : Int32) h0 (fun j => cs.getD j 0) (sn + 2) F_a (fun q => by have q1 : 2 < cn := (own_nlt (a := 2) (by decide) (by omega)).mp q; exact ⟨own_add (a := sn) (b := 2) (by omega), by omega⟩)) e0 (g := (mkF m 225 #[.val (.long q1), .second, .val (.long q2), .second, .val (.int p3), .val (.int p4), .val (.ref cc), .val (.int (Int32.ofNat sn)), .val (.int (Int32.ofNat cn)), .val (.ref pw), .unset, .unset, .unset, .unset, .unset] [(.int (2 : Int32)), (.int (Int32.ofNat cn)), (.int (Int32.ofNat sn)), (.ref cc)])) rfl (by rw [hml]; rfl) (lenOf own_pd4 rfl) rfl (by show 2 * 0 + _ ≤ _; exact Nat.le_of_eq rfl) (hb hby at_225) (by decide) (by decide) (by decide) (by decide)
  obtain ⟨rfl, e32, rfl⟩ := hQ32
  rw [List.append_nil] at X32
  refine own_st (st32) ?_
  clear st32 X0 e0
  show OFin p e below s _ _ _ (T32.setTop (mkF m 228 #[.val (.long q1), .second, .val (.long q2), .second, .val (.int p3), .val (.int p4), .val (.ref cc), .val (.int (Int32.ofNat sn)), .val (.int (Int32.ofNat cn)), .val (.ref pw), .unset, .unset, .unset, .unset, .unset] [(.int (own_g (fun j => cs.getD j 0) sn cn 2))]))
  by_cases k2 : (own_g (fun j => cs.getD j 0) sn cn 2) = (0 : Int32)
  · refine own_st (fun _ kS => XS.ifYes X32.here hx rfl (pc0 := 228) (pc' := 316) rfl (hb hby at_228) rfl ((if0 _ _).trans (teq k2).1) (by decide) (by decide) kS) ?_
    show OFin p e below s _ _ _ (T32.setTop (mkF m 316 #[.val (.long q1), .second, .val (.long q2), .second, .val (.int p3), .val (.int p4), .val (.ref cc), .val (.int (Int32.ofNat sn)), .val (.int (Int32.ofNat cn)), .val (.ref pw), .unset, .unset, .unset, .unset, .unset] []))
    refine own_st (fun _ kS => XS.iconst X32.here hx rfl (hb hby at_316) kS) ?_
    show OFin p e below s _ _ _ (T32.setTop (mkF m 317 #[.val (.long q1), .second, .val (.long q2), .second, .val (.int p3), .val (.int p4), .val (.ref cc), .val (.int (Int32.ofNat sn)), .val (.int (Int32.ofNat cn)), .val (.ref pw), .unset, .unset, .unset, .unset, .unset] [(.int (0 : Int32))]))
    refine own_st (fun _ kS => XS.istore X32.here hx rfl (hb hby at_317) rfl (l' := #[.val (.long q1), .second, .val (.long q2), .second, .val (.int p3), .val (.int p4), .val (.ref cc), .val (.int (Int32.ofNat sn)), .val (.int (Int32.ofNat cn)), .val (.ref pw), .val (.int (0 : Int32)), .unset, .unset, .unset, .unset]) rfl kS) ?_
    show OFin p e below s _ _ _ (T32.setTop (mkF m 319 #[.val (.long q1), .second, .val (.long q2), .second, .val (.int p3), .val (.int p4), .val (.ref cc), .val (.int (Int32.ofNat sn)), .val (.int (Int32.ofNat cn)), .val (.ref pw), .val (.int (0 : Int32)), .unset, .unset, .unset, .unset] []))
    exact own_pT hw hC0 X32 e32 n0 Z0 q1 q2 p3 p4 cc kC cs z fm pw sn cn 0 hlen hp S_c hz S_f rf V_c O N0 F_p hsn hcn rfl rfl (by simp only [own_ok9, k0, k1, k2, if_true, if_false])
  · refine own_st (fun _ kS => XS.ifNo X32.here hx rfl (hb hby at_228) rfl ((if0 _ _).trans (feq k2).1) kS) ?_
    show OFin p e below s _ _ _ (T32.setTop (mkF m 231 #[.val (.long q1), .second, .val (.long q2), .second, .val (.int p3), .val (.int p4), .val (.ref cc), .val (.int (Int32.ofNat sn)), .val (.int (Int32.ofNat cn)), .val (.ref pw), .unset, .unset, .unset, .unset, .unset] []))
    exact own_pF3 hw hC0 X32 e32 n0 Z0 q1 q2 p3 p4 cc kC cs z fm pw sn cn hlen hp S_c hz S_f rf V_c O N0 F_p hsn hcn rfl rfl k0 k1 k2
set_option maxRecDepth 65536 in
set_option maxHeartbeats 40000000 in
theorem own_pF1 {l : Launch} {Z : State} {a0 : Array Value} (hw : ∀ d ∈ tables_1, d.before a0 Z = true) {p : Program} {e : Env} {s : State} {m : MethodId} {args : Array Value} {below : List Frame} {meth : Method} {c : Code} (hC : OCtx Z p s m meth c "io/countersign/TimestampFormReadDigitsPinLaw" "law" code maxLocals ret) {T0 : State} {locs : List Loc} {cells slots : Nat} (X0 : Stand p l e room_1 s m args below meth c T0 locs cells slots) {h0 : Heap} (e0 : T0.heap = h0) (n0 : Nat) (Z0 : n0 ≤ h0.size) (q1 q2 : Int64) (p3 p4 : Int32) (cc : Addr) (kC : ClassId) (cs : List Int32) (z : Int32) (fm : Value) (pw : Addr) (sn cn : Nat) (hlen : cs.length = 12) (hp : ∀ c ∈ cs, ¬ c < 0 ∧ ¬ (255 : Int32) < c) (S_c : Sta Z Z.heap "java/lang/String" "COMPACT_STRINGS" "Z" (.int z)) (hz : ¬ z = 0) (S_f : Sta Z Z.heap "jdk/internal/util/Preconditions" "SIOOBE_FORMATTER" "Ljava/util/function/BiFunction;" fm) (rf : fm.isRef = true) (V_c : Arv Z h0 cc kC .char (12 : Int32) (cs.map Value.int) (.int 0)) (O : Old Z n0 h0) (N0 : Fr n0 locs) (F_p : OArr Z h0 pw .int 9 (fun i => .int (own_pw i))) (hsn : sn ≤ 3) (hcn : cn ≤ 9) (hcs : cells = 2) (hss : slots = 21) (k0 : ¬ own_g (fun j => cs.getD j 0) sn cn 0 = 0) :
    OFin p e below s room_1.cells room_1.slots (fun v h L => v = some (.int (1 : Int32)) ∧ Fr n0 L) (T0.setTop (mkF m 205 #[.val (.long q1), .second, .val (.long q2), .second, .val (.int p3), .val (.int p4), .val (.ref cc), .val (.int (Int32.ofNat sn)), .val (.int (Int32.ofNat cn)), .val (.ref pw), .unset, .unset, .unset, .unset, .unset] [])) := by
  have hC0 := hC
  obtain ⟨hx, hZ, hby, hml, hown, hret, hlk, hnm⟩ := hC
  have F_a : OArr Z h0 cc .char 12 (fun i => .int (cs.getD i 0)) := OArr.of V_c rfl (fun i _ => own_csA cs i)
  have hcs0 := hcs
  have hss0 := hss
  subst hcs hss
  refine own_st (fun _ kS => XS.aload X0.here hx rfl (hb hby at_205) rfl rfl kS) ?_
  show OFin p e below s _ _ _ (T0.setTop (mkF m 207 #[.val (.long q1), .second, .val (.long q2), .second, .val (.int p3), .val (.int p4), .val (.ref cc), .val (.int (Int32.ofNat sn)), .val (.int (Int32.ofNat cn)), .val (.ref pw), .unset, .unset, .unset, .unset, .unset] [(.ref cc)]))
  refine own_st (fun _ kS => XS.iload X0.here hx rfl (hb hby at_207) rfl kS) ?_
  show OFin p e below s _ _ _ (T0.setTop (mkF m 209 #[.val (.long q1), .second, .val (.long q2), .second, .val (.int p3), .val (.int p4), .val (.ref cc), .val (.int (Int32.ofNat sn)), .val (.int (Int32.ofNat cn)), .val (.ref pw), .unset, .unset, .unset, .unset, .unset] [(.int (Int32.ofNat sn)), (.ref cc)]))
  refine own_st (fun _ kS => XS.iload X0.here hx rfl (hb hby at_209) rfl kS) ?_
  show OFin p e below s _ _ _ (T0.setTop (mkF m 211 #[.val (.long q1), .second, .val (.long q2), .second, .val (.int p3), .val (.int p4), .val (.ref cc), .val (.int (Int32.ofNat sn)), .val (.int (Int32.ofNat cn)), .val (.ref pw), .unset, .unset, .unset, .unset, .unset] [(.int (Int32.ofNat cn)), (.int (Int32.ofNat sn)), (.ref cc)]))
  refine own_st (fun _ kS => XS.iconst X0.here hx rfl (hb hby at_211) kS) ?_
  show OFin p e below s _ _ _ (T0.setTop (mkF m 212 #[.val (.long q1), .second, .val (.long q2), .second, .val (.int p3), .val (.int p4), .val (.ref cc), .val (.int (Int32.ofNat sn)), .val (.int (Int32.ofNat cn)), .val (.ref pw), .unset, .unset, .unset, .unset, .unset] [(.int (1 : Int32)), (.int (Int32.ofNat cn)), (.int (Int32.ofNat sn)), (.ref cc)]))
  obtain ⟨v33, T33, L33, X33, hQ33, st33⟩ := own_static X0 hx hZ (y := (⟨"io/countersign/TimestampFormReadDigitsPinLaw", "fine", "([CIII)Z"⟩ : MethodName)) (rm := ⟨0, 0, 0, 0⟩) (W := 0) (argsL := [(.ref cc), (.int (Int32.ofNat sn)), (.int (Int32.ofNat cn)), (.int (1 : Int32))]) (rest := []) hown (own_w hw 12 rfl) (own_w hw 13 rfl) (own_w hw 3 rfl) (own_w hw 14 rfl) (rmFi l Z a0 hw cc _ _ (1 : Int32) h0 (fun j => cs.getD j 0) (sn + 1) F_a (fun q => by have q1 : 1 < cn := (own_nlt (a := 1) (by decide) (by omega)).mp q; exact ⟨own_add (a := sn) (b := 1) (by omega), by omega⟩)) e0 (g := (mkF m 212 #[.val (.long q1), .second, .val (.long q2), .second, .val (.int p3), .val (.int p4), .val (.ref cc), .val (.int (Int32.ofNat sn)), .val (.int (Int32.ofNat cn)), .val (.ref pw), .unset, .unset, .unset, .unset, .unset] [(.int (1 : Int32)), (.int (Int32.ofNat cn)), (.int (Int32.ofNat sn)), (.ref cc)])) rfl (by rw [hml]; rfl) (lenOf own_pd4 rfl) rfl (by show 2 * 0 + _ ≤ _; exact Nat.le_of_eq rfl) (hb hby at_212) (by decide) (by decide) (by decide) (by decide)
  obtain ⟨rfl, e33, rfl⟩ := hQ33
  rw [List.append_nil] at X33
  refine own_st (st33) ?_
  clear st33 X0 e0
  show OFin p e below s _ _ _ (T33.setTop (mkF m 215 #[.val (.long q1), .second, .val (.long q2), .second, .val (.int p3), .val (.int p4), .val (.ref cc), .val (.int (Int32.ofNat sn)), .val (.int (Int32.ofNat cn)), .val (.ref pw), .unset, .unset, .unset, .unset, .unset] [(.int (own_g (fun j => cs.getD j 0) sn cn 1))]))
  by_cases k1 : (own_g (fun j => cs.getD j 0) sn cn 1) = (0 : Int32)
  · refine own_st (fun _ kS => XS.ifYes X33.here hx rfl (pc0 := 215) (pc' := 316) rfl (hb hby at_215) rfl ((if0 _ _).trans (teq k1).1) (by decide) (by decide) kS) ?_
    show OFin p e below s _ _ _ (T33.setTop (mkF m 316 #[.val (.long q1), .second, .val (.long q2), .second, .val (.int p3), .val (.int p4), .val (.ref cc), .val (.int (Int32.ofNat sn)), .val (.int (Int32.ofNat cn)), .val (.ref pw), .unset, .unset, .unset, .unset, .unset] []))
    refine own_st (fun _ kS => XS.iconst X33.here hx rfl (hb hby at_316) kS) ?_
    show OFin p e below s _ _ _ (T33.setTop (mkF m 317 #[.val (.long q1), .second, .val (.long q2), .second, .val (.int p3), .val (.int p4), .val (.ref cc), .val (.int (Int32.ofNat sn)), .val (.int (Int32.ofNat cn)), .val (.ref pw), .unset, .unset, .unset, .unset, .unset] [(.int (0 : Int32))]))
    refine own_st (fun _ kS => XS.istore X33.here hx rfl (hb hby at_317) rfl (l' := #[.val (.long q1), .second, .val (.long q2), .second, .val (.int p3), .val (.int p4), .val (.ref cc), .val (.int (Int32.ofNat sn)), .val (.int (Int32.ofNat cn)), .val (.ref pw), .val (.int (0 : Int32)), .unset, .unset, .unset, .unset]) rfl kS) ?_
    show OFin p e below s _ _ _ (T33.setTop (mkF m 319 #[.val (.long q1), .second, .val (.long q2), .second, .val (.int p3), .val (.int p4), .val (.ref cc), .val (.int (Int32.ofNat sn)), .val (.int (Int32.ofNat cn)), .val (.ref pw), .val (.int (0 : Int32)), .unset, .unset, .unset, .unset] []))
    exact own_pT hw hC0 X33 e33 n0 Z0 q1 q2 p3 p4 cc kC cs z fm pw sn cn 0 hlen hp S_c hz S_f rf V_c O N0 F_p hsn hcn rfl rfl (by simp only [own_ok9, k0, k1, if_true, if_false])
  · refine own_st (fun _ kS => XS.ifNo X33.here hx rfl (hb hby at_215) rfl ((if0 _ _).trans (feq k1).1) kS) ?_
    show OFin p e below s _ _ _ (T33.setTop (mkF m 218 #[.val (.long q1), .second, .val (.long q2), .second, .val (.int p3), .val (.int p4), .val (.ref cc), .val (.int (Int32.ofNat sn)), .val (.int (Int32.ofNat cn)), .val (.ref pw), .unset, .unset, .unset, .unset, .unset] []))
    exact own_pF2 hw hC0 X33 e33 n0 Z0 q1 q2 p3 p4 cc kC cs z fm pw sn cn hlen hp S_c hz S_f rf V_c O N0 F_p hsn hcn rfl rfl k0 k1
set_option maxRecDepth 65536 in
set_option maxHeartbeats 40000000 in
theorem own_pF0 {l : Launch} {Z : State} {a0 : Array Value} (hw : ∀ d ∈ tables_1, d.before a0 Z = true) {p : Program} {e : Env} {s : State} {m : MethodId} {args : Array Value} {below : List Frame} {meth : Method} {c : Code} (hC : OCtx Z p s m meth c "io/countersign/TimestampFormReadDigitsPinLaw" "law" code maxLocals ret) {T0 : State} {locs : List Loc} {cells slots : Nat} (X0 : Stand p l e room_1 s m args below meth c T0 locs cells slots) {h0 : Heap} (e0 : T0.heap = h0) (n0 : Nat) (Z0 : n0 ≤ h0.size) (q1 q2 : Int64) (p3 p4 : Int32) (cc : Addr) (kC : ClassId) (cs : List Int32) (z : Int32) (fm : Value) (pw : Addr) (sn cn : Nat) (hlen : cs.length = 12) (hp : ∀ c ∈ cs, ¬ c < 0 ∧ ¬ (255 : Int32) < c) (S_c : Sta Z Z.heap "java/lang/String" "COMPACT_STRINGS" "Z" (.int z)) (hz : ¬ z = 0) (S_f : Sta Z Z.heap "jdk/internal/util/Preconditions" "SIOOBE_FORMATTER" "Ljava/util/function/BiFunction;" fm) (rf : fm.isRef = true) (V_c : Arv Z h0 cc kC .char (12 : Int32) (cs.map Value.int) (.int 0)) (O : Old Z n0 h0) (N0 : Fr n0 locs) (F_p : OArr Z h0 pw .int 9 (fun i => .int (own_pw i))) (hsn : sn ≤ 3) (hcn : cn ≤ 9) (hcs : cells = 2) (hss : slots = 21)  :
    OFin p e below s room_1.cells room_1.slots (fun v h L => v = some (.int (1 : Int32)) ∧ Fr n0 L) (T0.setTop (mkF m 192 #[.val (.long q1), .second, .val (.long q2), .second, .val (.int p3), .val (.int p4), .val (.ref cc), .val (.int (Int32.ofNat sn)), .val (.int (Int32.ofNat cn)), .val (.ref pw), .unset, .unset, .unset, .unset, .unset] [])) := by
  have hC0 := hC
  obtain ⟨hx, hZ, hby, hml, hown, hret, hlk, hnm⟩ := hC
  have F_a : OArr Z h0 cc .char 12 (fun i => .int (cs.getD i 0)) := OArr.of V_c rfl (fun i _ => own_csA cs i)
  have hcs0 := hcs
  have hss0 := hss
  subst hcs hss
  refine own_st (fun _ kS => XS.aload X0.here hx rfl (hb hby at_192) rfl rfl kS) ?_
  show OFin p e below s _ _ _ (T0.setTop (mkF m 194 #[.val (.long q1), .second, .val (.long q2), .second, .val (.int p3), .val (.int p4), .val (.ref cc), .val (.int (Int32.ofNat sn)), .val (.int (Int32.ofNat cn)), .val (.ref pw), .unset, .unset, .unset, .unset, .unset] [(.ref cc)]))
  refine own_st (fun _ kS => XS.iload X0.here hx rfl (hb hby at_194) rfl kS) ?_
  show OFin p e below s _ _ _ (T0.setTop (mkF m 196 #[.val (.long q1), .second, .val (.long q2), .second, .val (.int p3), .val (.int p4), .val (.ref cc), .val (.int (Int32.ofNat sn)), .val (.int (Int32.ofNat cn)), .val (.ref pw), .unset, .unset, .unset, .unset, .unset] [(.int (Int32.ofNat sn)), (.ref cc)]))
  refine own_st (fun _ kS => XS.iload X0.here hx rfl (hb hby at_196) rfl kS) ?_
  show OFin p e below s _ _ _ (T0.setTop (mkF m 198 #[.val (.long q1), .second, .val (.long q2), .second, .val (.int p3), .val (.int p4), .val (.ref cc), .val (.int (Int32.ofNat sn)), .val (.int (Int32.ofNat cn)), .val (.ref pw), .unset, .unset, .unset, .unset, .unset] [(.int (Int32.ofNat cn)), (.int (Int32.ofNat sn)), (.ref cc)]))
  refine own_st (fun _ kS => XS.iconst X0.here hx rfl (hb hby at_198) kS) ?_
  show OFin p e below s _ _ _ (T0.setTop (mkF m 199 #[.val (.long q1), .second, .val (.long q2), .second, .val (.int p3), .val (.int p4), .val (.ref cc), .val (.int (Int32.ofNat sn)), .val (.int (Int32.ofNat cn)), .val (.ref pw), .unset, .unset, .unset, .unset, .unset] [(.int (0 : Int32)), (.int (Int32.ofNat cn)), (.int (Int32.ofNat sn)), (.ref cc)]))
  obtain ⟨v34, T34, L34, X34, hQ34, st34⟩ := own_static X0 hx hZ (y := (⟨"io/countersign/TimestampFormReadDigitsPinLaw", "fine", "([CIII)Z"⟩ : MethodName)) (rm := ⟨0, 0, 0, 0⟩) (W := 0) (argsL := [(.ref cc), (.int (Int32.ofNat sn)), (.int (Int32.ofNat cn)), (.int (0 : Int32))]) (rest := []) hown (own_w hw 12 rfl) (own_w hw 13 rfl) (own_w hw 3 rfl) (own_w hw 14 rfl) (rmFi l Z a0 hw cc _ _ (0 : Int32) h0 (fun j => cs.getD j 0) (sn + 0) F_a (fun q => by have q1 : 0 < cn := (own_nlt (a := 0) (by decide) (by omega)).mp q; exact ⟨own_add (a := sn) (b := 0) (by omega), by omega⟩)) e0 (g := (mkF m 199 #[.val (.long q1), .second, .val (.long q2), .second, .val (.int p3), .val (.int p4), .val (.ref cc), .val (.int (Int32.ofNat sn)), .val (.int (Int32.ofNat cn)), .val (.ref pw), .unset, .unset, .unset, .unset, .unset] [(.int (0 : Int32)), (.int (Int32.ofNat cn)), (.int (Int32.ofNat sn)), (.ref cc)])) rfl (by rw [hml]; rfl) (lenOf own_pd4 rfl) rfl (by show 2 * 0 + _ ≤ _; exact Nat.le_of_eq rfl) (hb hby at_199) (by decide) (by decide) (by decide) (by decide)
  obtain ⟨rfl, e34, rfl⟩ := hQ34
  rw [List.append_nil] at X34
  refine own_st (st34) ?_
  clear st34 X0 e0
  show OFin p e below s _ _ _ (T34.setTop (mkF m 202 #[.val (.long q1), .second, .val (.long q2), .second, .val (.int p3), .val (.int p4), .val (.ref cc), .val (.int (Int32.ofNat sn)), .val (.int (Int32.ofNat cn)), .val (.ref pw), .unset, .unset, .unset, .unset, .unset] [(.int (own_g (fun j => cs.getD j 0) sn cn 0))]))
  by_cases k0 : (own_g (fun j => cs.getD j 0) sn cn 0) = (0 : Int32)
  · refine own_st (fun _ kS => XS.ifYes X34.here hx rfl (pc0 := 202) (pc' := 316) rfl (hb hby at_202) rfl ((if0 _ _).trans (teq k0).1) (by decide) (by decide) kS) ?_
    show OFin p e below s _ _ _ (T34.setTop (mkF m 316 #[.val (.long q1), .second, .val (.long q2), .second, .val (.int p3), .val (.int p4), .val (.ref cc), .val (.int (Int32.ofNat sn)), .val (.int (Int32.ofNat cn)), .val (.ref pw), .unset, .unset, .unset, .unset, .unset] []))
    refine own_st (fun _ kS => XS.iconst X34.here hx rfl (hb hby at_316) kS) ?_
    show OFin p e below s _ _ _ (T34.setTop (mkF m 317 #[.val (.long q1), .second, .val (.long q2), .second, .val (.int p3), .val (.int p4), .val (.ref cc), .val (.int (Int32.ofNat sn)), .val (.int (Int32.ofNat cn)), .val (.ref pw), .unset, .unset, .unset, .unset, .unset] [(.int (0 : Int32))]))
    refine own_st (fun _ kS => XS.istore X34.here hx rfl (hb hby at_317) rfl (l' := #[.val (.long q1), .second, .val (.long q2), .second, .val (.int p3), .val (.int p4), .val (.ref cc), .val (.int (Int32.ofNat sn)), .val (.int (Int32.ofNat cn)), .val (.ref pw), .val (.int (0 : Int32)), .unset, .unset, .unset, .unset]) rfl kS) ?_
    show OFin p e below s _ _ _ (T34.setTop (mkF m 319 #[.val (.long q1), .second, .val (.long q2), .second, .val (.int p3), .val (.int p4), .val (.ref cc), .val (.int (Int32.ofNat sn)), .val (.int (Int32.ofNat cn)), .val (.ref pw), .val (.int (0 : Int32)), .unset, .unset, .unset, .unset] []))
    exact own_pT hw hC0 X34 e34 n0 Z0 q1 q2 p3 p4 cc kC cs z fm pw sn cn 0 hlen hp S_c hz S_f rf V_c O N0 F_p hsn hcn rfl rfl (by simp only [own_ok9, k0, if_true, if_false])
  · refine own_st (fun _ kS => XS.ifNo X34.here hx rfl (hb hby at_202) rfl ((if0 _ _).trans (feq k0).1) kS) ?_
    show OFin p e below s _ _ _ (T34.setTop (mkF m 205 #[.val (.long q1), .second, .val (.long q2), .second, .val (.int p3), .val (.int p4), .val (.ref cc), .val (.int (Int32.ofNat sn)), .val (.int (Int32.ofNat cn)), .val (.ref pw), .unset, .unset, .unset, .unset, .unset] []))
    exact own_pF1 hw hC0 X34 e34 n0 Z0 q1 q2 p3 p4 cc kC cs z fm pw sn cn hlen hp S_c hz S_f rf V_c O N0 F_p hsn hcn rfl rfl k0
theorem own_nch (q : Int64) (k : Int32) : ¬ nar .char (own_ch q k) < 0 ∧ ¬ (255 : Int32) < nar .char (own_ch q k) := by
  have h := own_ch_r q k
  have e : nar .char (own_ch q k) = own_ch q k := own_i2c h.1 h.2
  rw [e, own_lt, own_lt]
  have e0 : (0 : Int32).toInt = 0 := rfl
  have e1 : (255 : Int32).toInt = 255 := rfl
  omega
theorem own_st3 (x : Int32) : ∃ sn : Nat, sn ≤ 3 ∧ x &&& 3 = Int32.ofNat sn := by
  have e : (x &&& 3).toInt = x.toInt % 2 ^ 2 := Jvm.Kit.i32_mask x 3 (k := 2) (by decide) (by decide)
  refine ⟨(x &&& 3).toInt.toNat, by omega, Int32.toInt_inj.mp ?_⟩
  rw [own_tn (by omega)]; omega
theorem own_ct9 (x : Int32) : ∃ cn : Nat, cn ≤ 9 ∧ (x &&& 2147483647) % 10 = Int32.ofNat cn := by
  have e : (x &&& 2147483647).toInt = x.toInt % 2 ^ 31 := Jvm.Kit.i32_mask x 2147483647 (k := 31) (by decide) (by decide)
  have e2 : ((x &&& 2147483647) % 10).toInt = (x &&& 2147483647).toInt % 10 := by rw [Int32.toInt_mod]; show Int.tmod _ 10 = _; exact Int.tmod_eq_emod_of_nonneg (by omega)
  refine ⟨((x &&& 2147483647) % 10).toInt.toNat, by omega, Int32.toInt_inj.mp ?_⟩
  rw [own_tn (by omega)]; omega
set_option maxRecDepth 65536 in
set_option maxHeartbeats 40000000 in
theorem own_pB {l : Launch} {Z : State} {a0 : Array Value} (hw : ∀ d ∈ tables_1, d.before a0 Z = true) {p : Program} {e : Env} {s : State} {m : MethodId} {args : Array Value} {below : List Frame} {meth : Method} {c : Code} (hC : OCtx Z p s m meth c "io/countersign/TimestampFormReadDigitsPinLaw" "law" code maxLocals ret) {T0 : State} {locs : List Loc} {cells slots : Nat} (X0 : Stand p l e room_1 s m args below meth c T0 locs cells slots) {h0 : Heap} (e0 : T0.heap = h0) (n0 : Nat) (Z0 : n0 ≤ h0.size) (q1 q2 : Int64) (p3 p4 : Int32) (cc : Addr) (kC : ClassId) (cs : List Int32) (z : Int32) (fm : Value) (hlen : cs.length = 12) (hp : ∀ c ∈ cs, ¬ c < 0 ∧ ¬ (255 : Int32) < c) (S_c : Sta Z Z.heap "java/lang/String" "COMPACT_STRINGS" "Z" (.int z)) (hz : ¬ z = 0) (S_f : Sta Z Z.heap "jdk/internal/util/Preconditions" "SIOOBE_FORMATTER" "Ljava/util/function/BiFunction;" fm) (rf : fm.isRef = true) (V_c : Arv Z h0 cc kC .char (12 : Int32) (cs.map Value.int) (.int 0)) (O : Old Z n0 h0) (N0 : Fr n0 locs) (hcs : cells = 1) (hss : slots = 12) :
    OFin p e below s room_1.cells room_1.slots (fun v h L => v = some (.int (1 : Int32)) ∧ Fr n0 L) (T0.setTop (mkF m 121 #[.val (.long q1), .second, .val (.long q2), .second, .val (.int p3), .val (.int p4), .val (.ref cc), .unset, .unset, .unset, .unset, .unset, .unset, .unset, .unset] [])) := by
  have hC0 := hC
  obtain ⟨hx, hZ, hby, hml, hown, hret, hlk, hnm⟩ := hC
  subst hcs hss
  refine own_st (fun _ kS => XS.iload X0.here hx rfl (hb hby at_121) rfl kS) ?_
  show OFin p e below s _ _ _ (T0.setTop (mkF m 123 #[.val (.long q1), .second, .val (.long q2), .second, .val (.int p3), .val (.int p4), .val (.ref cc), .unset, .unset, .unset, .unset, .unset, .unset, .unset, .unset] [(.int p3)]))
  refine own_st (fun _ kS => XS.iconst X0.here hx rfl (hb hby at_123) kS) ?_
  show OFin p e below s _ _ _ (T0.setTop (mkF m 124 #[.val (.long q1), .second, .val (.long q2), .second, .val (.int p3), .val (.int p4), .val (.ref cc), .unset, .unset, .unset, .unset, .unset, .unset, .unset, .unset] [(.int (3 : Int32)), (.int p3)]))
  refine own_st (fun _ kS => XS.iand X0.here hx rfl (hb hby at_124) rfl kS) ?_
  show OFin p e below s _ _ _ (T0.setTop (mkF m 125 #[.val (.long q1), .second, .val (.long q2), .second, .val (.int p3), .val (.int p4), .val (.ref cc), .unset, .unset, .unset, .unset, .unset, .unset, .unset, .unset] [(.int (p3 &&& (3 : Int32)))]))
  refine own_st (fun _ kS => XS.istore X0.here hx rfl (hb hby at_125) rfl (l' := #[.val (.long q1), .second, .val (.long q2), .second, .val (.int p3), .val (.int p4), .val (.ref cc), .val (.int (p3 &&& (3 : Int32))), .unset, .unset, .unset, .unset, .unset, .unset, .unset]) rfl kS) ?_
  show OFin p e below s _ _ _ (T0.setTop (mkF m 127 #[.val (.long q1), .second, .val (.long q2), .second, .val (.int p3), .val (.int p4), .val (.ref cc), .val (.int (p3 &&& (3 : Int32))), .unset, .unset, .unset, .unset, .unset, .unset, .unset] []))
  obtain ⟨sn, hsn, es⟩ := own_st3 p3
  rw [es]
  show OFin p e below s _ _ _ (T0.setTop (mkF m 127 #[.val (.long q1), .second, .val (.long q2), .second, .val (.int p3), .val (.int p4), .val (.ref cc), .val (.int (Int32.ofNat sn)), .unset, .unset, .unset, .unset, .unset, .unset, .unset] []))
  refine own_st (fun _ kS => XS.iload X0.here hx rfl (hb hby at_127) rfl kS) ?_
  show OFin p e below s _ _ _ (T0.setTop (mkF m 129 #[.val (.long q1), .second, .val (.long q2), .second, .val (.int p3), .val (.int p4), .val (.ref cc), .val (.int (Int32.ofNat sn)), .unset, .unset, .unset, .unset, .unset, .unset, .unset] [(.int p4)]))
  refine own_st (X0.ldcInt hx hown (mvT hZ (own_w hw 6 rfl)) (g := (mkF m 129 #[.val (.long q1), .second, .val (.long q2), .second, .val (.int p3), .val (.int p4), .val (.ref cc), .val (.int (Int32.ofNat sn)), .unset, .unset, .unset, .unset, .unset, .unset, .unset] [(.int p4)])) rfl (hb hby at_129)) ?_
  show OFin p e below s _ _ _ (T0.setTop (mkF m 131 #[.val (.long q1), .second, .val (.long q2), .second, .val (.int p3), .val (.int p4), .val (.ref cc), .val (.int (Int32.ofNat sn)), .unset, .unset, .unset, .unset, .unset, .unset, .unset] [(.int (2147483647 : Int32)), (.int p4)]))
  refine own_st (fun _ kS => XS.iand X0.here hx rfl (hb hby at_131) rfl kS) ?_
  show OFin p e below s _ _ _ (T0.setTop (mkF m 132 #[.val (.long q1), .second, .val (.long q2), .second, .val (.int p3), .val (.int p4), .val (.ref cc), .val (.int (Int32.ofNat sn)), .unset, .unset, .unset, .unset, .unset, .unset, .unset] [(.int (p4 &&& (2147483647 : Int32)))]))
  refine own_st (fun _ kS => XS.bipush X0.here hx rfl (hb hby at_132) kS) ?_
  show OFin p e below s _ _ _ (T0.setTop (mkF m 134 #[.val (.long q1), .second, .val (.long q2), .second, .val (.int p3), .val (.int p4), .val (.ref cc), .val (.int (Int32.ofNat sn)), .unset, .unset, .unset, .unset, .unset, .unset, .unset] [(.int (10 : Int32)), (.int (p4 &&& (2147483647 : Int32)))]))
  refine own_st (fun _ kS => iremM (g := (mkF m 134 #[.val (.long q1), .second, .val (.long q2), .second, .val (.int p3), .val (.int p4), .val (.ref cc), .val (.int (Int32.ofNat sn)), .unset, .unset, .unset, .unset, .unset, .unset, .unset] [(.int (10 : Int32)), (.int (p4 &&& (2147483647 : Int32)))])) X0 hx rfl (hb hby at_134) rfl (by decide) kS) ?_
  show OFin p e below s _ _ _ (T0.setTop (mkF m 135 #[.val (.long q1), .second, .val (.long q2), .second, .val (.int p3), .val (.int p4), .val (.ref cc), .val (.int (Int32.ofNat sn)), .unset, .unset, .unset, .unset, .unset, .unset, .unset] [(.int ((p4 &&& (2147483647 : Int32)) % (10 : Int32)))]))
  refine own_st (fun _ kS => XS.istore X0.here hx rfl (hb hby at_135) rfl (l' := #[.val (.long q1), .second, .val (.long q2), .second, .val (.int p3), .val (.int p4), .val (.ref cc), .val (.int (Int32.ofNat sn)), .val (.int ((p4 &&& (2147483647 : Int32)) % (10 : Int32))), .unset, .unset, .unset, .unset, .unset, .unset]) rfl kS) ?_
  show OFin p e below s _ _ _ (T0.setTop (mkF m 137 #[.val (.long q1), .second, .val (.long q2), .second, .val (.int p3), .val (.int p4), .val (.ref cc), .val (.int (Int32.ofNat sn)), .val (.int ((p4 &&& (2147483647 : Int32)) % (10 : Int32))), .unset, .unset, .unset, .unset, .unset, .unset] []))
  obtain ⟨cn, hcn, ec⟩ := own_ct9 p4
  rw [ec]
  show OFin p e below s _ _ _ (T0.setTop (mkF m 137 #[.val (.long q1), .second, .val (.long q2), .second, .val (.int p3), .val (.int p4), .val (.ref cc), .val (.int (Int32.ofNat sn)), .val (.int (Int32.ofNat cn)), .unset, .unset, .unset, .unset, .unset, .unset] []))
  refine own_st (fun _ kS => XS.bipush X0.here hx rfl (hb hby at_137) kS) ?_
  show OFin p e below s _ _ _ (T0.setTop (mkF m 139 #[.val (.long q1), .second, .val (.long q2), .second, .val (.int p3), .val (.int p4), .val (.ref cc), .val (.int (Int32.ofNat sn)), .val (.int (Int32.ofNat cn)), .unset, .unset, .unset, .unset, .unset, .unset] [(.int (9 : Int32))]))
  obtain ⟨T85, h85, k85, X85, e85, E85, A85, st85⟩ := newP X0 hx hZ (own_w hw 7 rfl) e0 (g := (mkF m 139 #[.val (.long q1), .second, .val (.long q2), .second, .val (.int p3), .val (.int p4), .val (.ref cc), .val (.int (Int32.ofNat sn)), .val (.int (Int32.ofNat cn)), .unset, .unset, .unset, .unset, .unset, .unset] [(.int (9 : Int32))])) rfl (hb hby at_139) rfl (by decide) (cap := 9) (by decide) (by decide) (by decide) (by decide)
  obtain ⟨pw, g85⟩ : ∃ z, z = h0.size := ⟨_, rfl⟩
  rw [← g85] at A85 st85
  have ne_cc_pw : cc ≠ pw := Nat.ne_of_lt (Nat.lt_of_lt_of_le V_c.lt (Nat.le_of_eq g85.symm))
  have g_pw : n0 ≤ pw := Nat.le_trans Z0 (Nat.le_of_eq g85.symm)
  have od85 := O.ext E85
  have f86 := V_c.ext E85
  have f87 : Arv Z h85 pw k85 .int (9 : Int32) [(.int (0 : Int32)), (.int (0 : Int32)), (.int (0 : Int32)), (.int (0 : Int32)), (.int (0 : Int32)), (.int (0 : Int32)), (.int (0 : Int32)), (.int (0 : Int32)), (.int (0 : Int32))] (.int (0 : Int32)) := (Arv.new A85 (by decide)).pad (pad_rep [] (.int (0 : Int32)) 9)
  have sz85 : n0 ≤ h85.size := Nat.le_trans Z0 E85.1
  refine own_st (st85) ?_
  clear st85 X0 e0 E85 g85
  show OFin p e below s _ _ _ (T85.setTop (mkF m 141 #[.val (.long q1), .second, .val (.long q2), .second, .val (.int p3), .val (.int p4), .val (.ref cc), .val (.int (Int32.ofNat sn)), .val (.int (Int32.ofNat cn)), .unset, .unset, .unset, .unset, .unset, .unset] [(.ref pw)]))
  refine own_st (fun _ kS => XS.dup X85.here hx rfl (hb hby at_141) rfl rfl kS) ?_
  show OFin p e below s _ _ _ (T85.setTop (mkF m 142 #[.val (.long q1), .second, .val (.long q2), .second, .val (.int p3), .val (.int p4), .val (.ref cc), .val (.int (Int32.ofNat sn)), .val (.int (Int32.ofNat cn)), .unset, .unset, .unset, .unset, .unset, .unset] [(.ref pw), (.ref pw)]))
  refine own_st (fun _ kS => XS.iconst X85.here hx rfl (hb hby at_142) kS) ?_
  show OFin p e below s _ _ _ (T85.setTop (mkF m 143 #[.val (.long q1), .second, .val (.long q2), .second, .val (.int p3), .val (.int p4), .val (.ref cc), .val (.int (Int32.ofNat sn)), .val (.int (Int32.ofNat cn)), .unset, .unset, .unset, .unset, .unset, .unset] [(.int (0 : Int32)), (.ref pw), (.ref pw)]))
  refine own_st (fun _ kS => XS.iconst X85.here hx rfl (hb hby at_143) kS) ?_
  show OFin p e below s _ _ _ (T85.setTop (mkF m 144 #[.val (.long q1), .second, .val (.long q2), .second, .val (.int p3), .val (.int p4), .val (.ref cc), .val (.int (Int32.ofNat sn)), .val (.int (Int32.ofNat cn)), .unset, .unset, .unset, .unset, .unset, .unset] [(.int (1 : Int32)), (.int (0 : Int32)), (.ref pw), (.ref pw)]))
  obtain ⟨cl88, Ar88, q88, S88, N88, H88, G88⟩ := id f87
  have hin88 : ¬ ((0 : Int32) < 0 ∨ cl88.slots.size ≤ ((0 : Int32)).toNatClampNeg) := inb_of S88 ⟨by decide, by decide⟩
  obtain ⟨T88, h88, X88, e88, W88, st88⟩ := stI X85 hx hZ e85 Ar88 (j := (0 : Int32)) hin88 (g := (mkF m 144 #[.val (.long q1), .second, .val (.long q2), .second, .val (.int p3), .val (.int p4), .val (.ref cc), .val (.int (Int32.ofNat sn)), .val (.int (Int32.ofNat cn)), .unset, .unset, .unset, .unset, .unset, .unset] [(.int (1 : Int32)), (.int (0 : Int32)), (.ref pw), (.ref pw)])) rfl rfl (hb hby at_144)
  have f89 := Arv.set Ar88 q88 S88 N88 H88 G88 rfl W88 0 rfl (Nat.le_of_ble_eq_true rfl)
  have od88 := od85.wr W88 g_pw
  clear od85
  have f90 := f86.other W88 ne_cc_pw
  clear f86
  have sz88 : n0 ≤ h88.size := by rw [W88.size]; exact sz85
  clear sz85
  have fr88 := Fr.snoc X88 N0 g_pw
  clear N0
  refine own_st (st88) ?_
  clear st88 X85 e85 W88 Ar88 q88 S88 N88 H88 G88 hin88 f87
  show OFin p e below s _ _ _ (T88.setTop (mkF m 145 #[.val (.long q1), .second, .val (.long q2), .second, .val (.int p3), .val (.int p4), .val (.ref cc), .val (.int (Int32.ofNat sn)), .val (.int (Int32.ofNat cn)), .unset, .unset, .unset, .unset, .unset, .unset] [(.ref pw)]))
  refine own_st (fun _ kS => XS.dup X88.here hx rfl (hb hby at_145) rfl rfl kS) ?_
  show OFin p e below s _ _ _ (T88.setTop (mkF m 146 #[.val (.long q1), .second, .val (.long q2), .second, .val (.int p3), .val (.int p4), .val (.ref cc), .val (.int (Int32.ofNat sn)), .val (.int (Int32.ofNat cn)), .unset, .unset, .unset, .unset, .unset, .unset] [(.ref pw), (.ref pw)]))
  refine own_st (fun _ kS => XS.iconst X88.here hx rfl (hb hby at_146) kS) ?_
  show OFin p e below s _ _ _ (T88.setTop (mkF m 147 #[.val (.long q1), .second, .val (.long q2), .second, .val (.int p3), .val (.int p4), .val (.ref cc), .val (.int (Int32.ofNat sn)), .val (.int (Int32.ofNat cn)), .unset, .unset, .unset, .unset, .unset, .unset] [(.int (1 : Int32)), (.ref pw), (.ref pw)]))
  refine own_st (fun _ kS => XS.bipush X88.here hx rfl (hb hby at_147) kS) ?_
  show OFin p e below s _ _ _ (T88.setTop (mkF m 149 #[.val (.long q1), .second, .val (.long q2), .second, .val (.int p3), .val (.int p4), .val (.ref cc), .val (.int (Int32.ofNat sn)), .val (.int (Int32.ofNat cn)), .unset, .unset, .unset, .unset, .unset, .unset] [(.int (10 : Int32)), (.int (1 : Int32)), (.ref pw), (.ref pw)]))
  obtain ⟨cl92, Ar92, q92, S92, N92, H92, G92⟩ := id f89
  have hin92 : ¬ ((1 : Int32) < 0 ∨ cl92.slots.size ≤ ((1 : Int32)).toNatClampNeg) := inb_of S92 ⟨by decide, by decide⟩
  obtain ⟨T92, h92, X92, e92, W92, st92⟩ := stI X88 hx hZ e88 Ar92 (j := (1 : Int32)) hin92 (g := (mkF m 149 #[.val (.long q1), .second, .val (.long q2), .second, .val (.int p3), .val (.int p4), .val (.ref cc), .val (.int (Int32.ofNat sn)), .val (.int (Int32.ofNat cn)), .unset, .unset, .unset, .unset, .unset, .unset] [(.int (10 : Int32)), (.int (1 : Int32)), (.ref pw), (.ref pw)])) rfl rfl (hb hby at_149)
  have f93 := Arv.set Ar92 q92 S92 N92 H92 G92 rfl W92 1 rfl (Nat.le_of_ble_eq_true rfl)
  have od92 := od88.wr W92 g_pw
  clear od88
  have f94 := f90.other W92 ne_cc_pw
  clear f90
  have sz92 : n0 ≤ h92.size := by rw [W92.size]; exact sz88
  clear sz88
  have fr92 := Fr.snoc X92 fr88 g_pw
  clear fr88
  refine own_st (st92) ?_
  clear st92 X88 e88 W92 Ar92 q92 S92 N92 H92 G92 hin92 f89
  show OFin p e below s _ _ _ (T92.setTop (mkF m 150 #[.val (.long q1), .second, .val (.long q2), .second, .val (.int p3), .val (.int p4), .val (.ref cc), .val (.int (Int32.ofNat sn)), .val (.int (Int32.ofNat cn)), .unset, .unset, .unset, .unset, .unset, .unset] [(.ref pw)]))
  refine own_st (fun _ kS => XS.dup X92.here hx rfl (hb hby at_150) rfl rfl kS) ?_
  show OFin p e below s _ _ _ (T92.setTop (mkF m 151 #[.val (.long q1), .second, .val (.long q2), .second, .val (.int p3), .val (.int p4), .val (.ref cc), .val (.int (Int32.ofNat sn)), .val (.int (Int32.ofNat cn)), .unset, .unset, .unset, .unset, .unset, .unset] [(.ref pw), (.ref pw)]))
  refine own_st (fun _ kS => XS.iconst X92.here hx rfl (hb hby at_151) kS) ?_
  show OFin p e below s _ _ _ (T92.setTop (mkF m 152 #[.val (.long q1), .second, .val (.long q2), .second, .val (.int p3), .val (.int p4), .val (.ref cc), .val (.int (Int32.ofNat sn)), .val (.int (Int32.ofNat cn)), .unset, .unset, .unset, .unset, .unset, .unset] [(.int (2 : Int32)), (.ref pw), (.ref pw)]))
  refine own_st (fun _ kS => XS.bipush X92.here hx rfl (hb hby at_152) kS) ?_
  show OFin p e below s _ _ _ (T92.setTop (mkF m 154 #[.val (.long q1), .second, .val (.long q2), .second, .val (.int p3), .val (.int p4), .val (.ref cc), .val (.int (Int32.ofNat sn)), .val (.int (Int32.ofNat cn)), .unset, .unset, .unset, .unset, .unset, .unset] [(.int (100 : Int32)), (.int (2 : Int32)), (.ref pw), (.ref pw)]))
  obtain ⟨cl96, Ar96, q96, S96, N96, H96, G96⟩ := id f93
  have hin96 : ¬ ((2 : Int32) < 0 ∨ cl96.slots.size ≤ ((2 : Int32)).toNatClampNeg) := inb_of S96 ⟨by decide, by decide⟩
  obtain ⟨T96, h96, X96, e96, W96, st96⟩ := stI X92 hx hZ e92 Ar96 (j := (2 : Int32)) hin96 (g := (mkF m 154 #[.val (.long q1), .second, .val (.long q2), .second, .val (.int p3), .val (.int p4), .val (.ref cc), .val (.int (Int32.ofNat sn)), .val (.int (Int32.ofNat cn)), .unset, .unset, .unset, .unset, .unset, .unset] [(.int (100 : Int32)), (.int (2 : Int32)), (.ref pw), (.ref pw)])) rfl rfl (hb hby at_154)
  have f97 := Arv.set Ar96 q96 S96 N96 H96 G96 rfl W96 2 rfl (Nat.le_of_ble_eq_true rfl)
  have od96 := od92.wr W96 g_pw
  clear od92
  have f98 := f94.other W96 ne_cc_pw
  clear f94
  have sz96 : n0 ≤ h96.size := by rw [W96.size]; exact sz92
  clear sz92
  have fr96 := Fr.snoc X96 fr92 g_pw
  clear fr92
  refine own_st (st96) ?_
  clear st96 X92 e92 W96 Ar96 q96 S96 N96 H96 G96 hin96 f93
  show OFin p e below s _ _ _ (T96.setTop (mkF m 155 #[.val (.long q1), .second, .val (.long q2), .second, .val (.int p3), .val (.int p4), .val (.ref cc), .val (.int (Int32.ofNat sn)), .val (.int (Int32.ofNat cn)), .unset, .unset, .unset, .unset, .unset, .unset] [(.ref pw)]))
  refine own_st (fun _ kS => XS.dup X96.here hx rfl (hb hby at_155) rfl rfl kS) ?_
  show OFin p e below s _ _ _ (T96.setTop (mkF m 156 #[.val (.long q1), .second, .val (.long q2), .second, .val (.int p3), .val (.int p4), .val (.ref cc), .val (.int (Int32.ofNat sn)), .val (.int (Int32.ofNat cn)), .unset, .unset, .unset, .unset, .unset, .unset] [(.ref pw), (.ref pw)]))
  refine own_st (fun _ kS => XS.iconst X96.here hx rfl (hb hby at_156) kS) ?_
  show OFin p e below s _ _ _ (T96.setTop (mkF m 157 #[.val (.long q1), .second, .val (.long q2), .second, .val (.int p3), .val (.int p4), .val (.ref cc), .val (.int (Int32.ofNat sn)), .val (.int (Int32.ofNat cn)), .unset, .unset, .unset, .unset, .unset, .unset] [(.int (3 : Int32)), (.ref pw), (.ref pw)]))
  refine own_st (fun _ kS => XS.sipush X96.here hx rfl (hb hby at_157) kS) ?_
  show OFin p e below s _ _ _ (T96.setTop (mkF m 160 #[.val (.long q1), .second, .val (.long q2), .second, .val (.int p3), .val (.int p4), .val (.ref cc), .val (.int (Int32.ofNat sn)), .val (.int (Int32.ofNat cn)), .unset, .unset, .unset, .unset, .unset, .unset] [(.int (1000 : Int32)), (.int (3 : Int32)), (.ref pw), (.ref pw)]))
  obtain ⟨cl100, Ar100, q100, S100, N100, H100, G100⟩ := id f97
  have hin100 : ¬ ((3 : Int32) < 0 ∨ cl100.slots.size ≤ ((3 : Int32)).toNatClampNeg) := inb_of S100 ⟨by decide, by decide⟩
  obtain ⟨T100, h100, X100, e100, W100, st100⟩ := stI X96 hx hZ e96 Ar100 (j := (3 : Int32)) hin100 (g := (mkF m 160 #[.val (.long q1), .second, .val (.long q2), .second, .val (.int p3), .val (.int p4), .val (.ref cc), .val (.int (Int32.ofNat sn)), .val (.int (Int32.ofNat cn)), .unset, .unset, .unset, .unset, .unset, .unset] [(.int (1000 : Int32)), (.int (3 : Int32)), (.ref pw), (.ref pw)])) rfl rfl (hb hby at_160)
  have f101 := Arv.set Ar100 q100 S100 N100 H100 G100 rfl W100 3 rfl (Nat.le_of_ble_eq_true rfl)
  have od100 := od96.wr W100 g_pw
  clear od96
  have f102 := f98.other W100 ne_cc_pw
  clear f98
  have sz100 : n0 ≤ h100.size := by rw [W100.size]; exact sz96
  clear sz96
  have fr100 := Fr.snoc X100 fr96 g_pw
  clear fr96
  refine own_st (st100) ?_
  clear st100 X96 e96 W100 Ar100 q100 S100 N100 H100 G100 hin100 f97
  show OFin p e below s _ _ _ (T100.setTop (mkF m 161 #[.val (.long q1), .second, .val (.long q2), .second, .val (.int p3), .val (.int p4), .val (.ref cc), .val (.int (Int32.ofNat sn)), .val (.int (Int32.ofNat cn)), .unset, .unset, .unset, .unset, .unset, .unset] [(.ref pw)]))
  refine own_st (fun _ kS => XS.dup X100.here hx rfl (hb hby at_161) rfl rfl kS) ?_
  show OFin p e below s _ _ _ (T100.setTop (mkF m 162 #[.val (.long q1), .second, .val (.long q2), .second, .val (.int p3), .val (.int p4), .val (.ref cc), .val (.int (Int32.ofNat sn)), .val (.int (Int32.ofNat cn)), .unset, .unset, .unset, .unset, .unset, .unset] [(.ref pw), (.ref pw)]))
  refine own_st (fun _ kS => XS.iconst X100.here hx rfl (hb hby at_162) kS) ?_
  show OFin p e below s _ _ _ (T100.setTop (mkF m 163 #[.val (.long q1), .second, .val (.long q2), .second, .val (.int p3), .val (.int p4), .val (.ref cc), .val (.int (Int32.ofNat sn)), .val (.int (Int32.ofNat cn)), .unset, .unset, .unset, .unset, .unset, .unset] [(.int (4 : Int32)), (.ref pw), (.ref pw)]))
  refine own_st (fun _ kS => XS.sipush X100.here hx rfl (hb hby at_163) kS) ?_
  show OFin p e below s _ _ _ (T100.setTop (mkF m 166 #[.val (.long q1), .second, .val (.long q2), .second, .val (.int p3), .val (.int p4), .val (.ref cc), .val (.int (Int32.ofNat sn)), .val (.int (Int32.ofNat cn)), .unset, .unset, .unset, .unset, .unset, .unset] [(.int (10000 : Int32)), (.int (4 : Int32)), (.ref pw), (.ref pw)]))
  obtain ⟨cl104, Ar104, q104, S104, N104, H104, G104⟩ := id f101
  have hin104 : ¬ ((4 : Int32) < 0 ∨ cl104.slots.size ≤ ((4 : Int32)).toNatClampNeg) := inb_of S104 ⟨by decide, by decide⟩
  obtain ⟨T104, h104, X104, e104, W104, st104⟩ := stI X100 hx hZ e100 Ar104 (j := (4 : Int32)) hin104 (g := (mkF m 166 #[.val (.long q1), .second, .val (.long q2), .second, .val (.int p3), .val (.int p4), .val (.ref cc), .val (.int (Int32.ofNat sn)), .val (.int (Int32.ofNat cn)), .unset, .unset, .unset, .unset, .unset, .unset] [(.int (10000 : Int32)), (.int (4 : Int32)), (.ref pw), (.ref pw)])) rfl rfl (hb hby at_166)
  have f105 := Arv.set Ar104 q104 S104 N104 H104 G104 rfl W104 4 rfl (Nat.le_of_ble_eq_true rfl)
  have od104 := od100.wr W104 g_pw
  clear od100
  have f106 := f102.other W104 ne_cc_pw
  clear f102
  have sz104 : n0 ≤ h104.size := by rw [W104.size]; exact sz100
  clear sz100
  have fr104 := Fr.snoc X104 fr100 g_pw
  clear fr100
  refine own_st (st104) ?_
  clear st104 X100 e100 W104 Ar104 q104 S104 N104 H104 G104 hin104 f101
  show OFin p e below s _ _ _ (T104.setTop (mkF m 167 #[.val (.long q1), .second, .val (.long q2), .second, .val (.int p3), .val (.int p4), .val (.ref cc), .val (.int (Int32.ofNat sn)), .val (.int (Int32.ofNat cn)), .unset, .unset, .unset, .unset, .unset, .unset] [(.ref pw)]))
  refine own_st (fun _ kS => XS.dup X104.here hx rfl (hb hby at_167) rfl rfl kS) ?_
  show OFin p e below s _ _ _ (T104.setTop (mkF m 168 #[.val (.long q1), .second, .val (.long q2), .second, .val (.int p3), .val (.int p4), .val (.ref cc), .val (.int (Int32.ofNat sn)), .val (.int (Int32.ofNat cn)), .unset, .unset, .unset, .unset, .unset, .unset] [(.ref pw), (.ref pw)]))
  refine own_st (fun _ kS => XS.iconst X104.here hx rfl (hb hby at_168) kS) ?_
  show OFin p e below s _ _ _ (T104.setTop (mkF m 169 #[.val (.long q1), .second, .val (.long q2), .second, .val (.int p3), .val (.int p4), .val (.ref cc), .val (.int (Int32.ofNat sn)), .val (.int (Int32.ofNat cn)), .unset, .unset, .unset, .unset, .unset, .unset] [(.int (5 : Int32)), (.ref pw), (.ref pw)]))
  refine own_st (X104.ldcInt hx hown (mvT hZ (own_w hw 8 rfl)) (g := (mkF m 169 #[.val (.long q1), .second, .val (.long q2), .second, .val (.int p3), .val (.int p4), .val (.ref cc), .val (.int (Int32.ofNat sn)), .val (.int (Int32.ofNat cn)), .unset, .unset, .unset, .unset, .unset, .unset] [(.int (5 : Int32)), (.ref pw), (.ref pw)])) rfl (hb hby at_169)) ?_
  show OFin p e below s _ _ _ (T104.setTop (mkF m 171 #[.val (.long q1), .second, .val (.long q2), .second, .val (.int p3), .val (.int p4), .val (.ref cc), .val (.int (Int32.ofNat sn)), .val (.int (Int32.ofNat cn)), .unset, .unset, .unset, .unset, .unset, .unset] [(.int (100000 : Int32)), (.int (5 : Int32)), (.ref pw), (.ref pw)]))
  obtain ⟨cl108, Ar108, q108, S108, N108, H108, G108⟩ := id f105
  have hin108 : ¬ ((5 : Int32) < 0 ∨ cl108.slots.size ≤ ((5 : Int32)).toNatClampNeg) := inb_of S108 ⟨by decide, by decide⟩
  obtain ⟨T108, h108, X108, e108, W108, st108⟩ := stI X104 hx hZ e104 Ar108 (j := (5 : Int32)) hin108 (g := (mkF m 171 #[.val (.long q1), .second, .val (.long q2), .second, .val (.int p3), .val (.int p4), .val (.ref cc), .val (.int (Int32.ofNat sn)), .val (.int (Int32.ofNat cn)), .unset, .unset, .unset, .unset, .unset, .unset] [(.int (100000 : Int32)), (.int (5 : Int32)), (.ref pw), (.ref pw)])) rfl rfl (hb hby at_171)
  have f109 := Arv.set Ar108 q108 S108 N108 H108 G108 rfl W108 5 rfl (Nat.le_of_ble_eq_true rfl)
  have od108 := od104.wr W108 g_pw
  clear od104
  have f110 := f106.other W108 ne_cc_pw
  clear f106
  have sz108 : n0 ≤ h108.size := by rw [W108.size]; exact sz104
  clear sz104
  have fr108 := Fr.snoc X108 fr104 g_pw
  clear fr104
  refine own_st (st108) ?_
  clear st108 X104 e104 W108 Ar108 q108 S108 N108 H108 G108 hin108 f105
  show OFin p e below s _ _ _ (T108.setTop (mkF m 172 #[.val (.long q1), .second, .val (.long q2), .second, .val (.int p3), .val (.int p4), .val (.ref cc), .val (.int (Int32.ofNat sn)), .val (.int (Int32.ofNat cn)), .unset, .unset, .unset, .unset, .unset, .unset] [(.ref pw)]))
  refine own_st (fun _ kS => XS.dup X108.here hx rfl (hb hby at_172) rfl rfl kS) ?_
  show OFin p e below s _ _ _ (T108.setTop (mkF m 173 #[.val (.long q1), .second, .val (.long q2), .second, .val (.int p3), .val (.int p4), .val (.ref cc), .val (.int (Int32.ofNat sn)), .val (.int (Int32.ofNat cn)), .unset, .unset, .unset, .unset, .unset, .unset] [(.ref pw), (.ref pw)]))
  refine own_st (fun _ kS => XS.bipush X108.here hx rfl (hb hby at_173) kS) ?_
  show OFin p e below s _ _ _ (T108.setTop (mkF m 175 #[.val (.long q1), .second, .val (.long q2), .second, .val (.int p3), .val (.int p4), .val (.ref cc), .val (.int (Int32.ofNat sn)), .val (.int (Int32.ofNat cn)), .unset, .unset, .unset, .unset, .unset, .unset] [(.int (6 : Int32)), (.ref pw), (.ref pw)]))
  refine own_st (X108.ldcInt hx hown (mvT hZ (own_w hw 9 rfl)) (g := (mkF m 175 #[.val (.long q1), .second, .val (.long q2), .second, .val (.int p3), .val (.int p4), .val (.ref cc), .val (.int (Int32.ofNat sn)), .val (.int (Int32.ofNat cn)), .unset, .unset, .unset, .unset, .unset, .unset] [(.int (6 : Int32)), (.ref pw), (.ref pw)])) rfl (hb hby at_175)) ?_
  show OFin p e below s _ _ _ (T108.setTop (mkF m 177 #[.val (.long q1), .second, .val (.long q2), .second, .val (.int p3), .val (.int p4), .val (.ref cc), .val (.int (Int32.ofNat sn)), .val (.int (Int32.ofNat cn)), .unset, .unset, .unset, .unset, .unset, .unset] [(.int (1000000 : Int32)), (.int (6 : Int32)), (.ref pw), (.ref pw)]))
  obtain ⟨cl112, Ar112, q112, S112, N112, H112, G112⟩ := id f109
  have hin112 : ¬ ((6 : Int32) < 0 ∨ cl112.slots.size ≤ ((6 : Int32)).toNatClampNeg) := inb_of S112 ⟨by decide, by decide⟩
  obtain ⟨T112, h112, X112, e112, W112, st112⟩ := stI X108 hx hZ e108 Ar112 (j := (6 : Int32)) hin112 (g := (mkF m 177 #[.val (.long q1), .second, .val (.long q2), .second, .val (.int p3), .val (.int p4), .val (.ref cc), .val (.int (Int32.ofNat sn)), .val (.int (Int32.ofNat cn)), .unset, .unset, .unset, .unset, .unset, .unset] [(.int (1000000 : Int32)), (.int (6 : Int32)), (.ref pw), (.ref pw)])) rfl rfl (hb hby at_177)
  have f113 := Arv.set Ar112 q112 S112 N112 H112 G112 rfl W112 6 rfl (Nat.le_of_ble_eq_true rfl)
  have od112 := od108.wr W112 g_pw
  clear od108
  have f114 := f110.other W112 ne_cc_pw
  clear f110
  have sz112 : n0 ≤ h112.size := by rw [W112.size]; exact sz108
  clear sz108
  have fr112 := Fr.snoc X112 fr108 g_pw
  clear fr108
  refine own_st (st112) ?_
  clear st112 X108 e108 W112 Ar112 q112 S112 N112 H112 G112 hin112 f109
  show OFin p e below s _ _ _ (T112.setTop (mkF m 178 #[.val (.long q1), .second, .val (.long q2), .second, .val (.int p3), .val (.int p4), .val (.ref cc), .val (.int (Int32.ofNat sn)), .val (.int (Int32.ofNat cn)), .unset, .unset, .unset, .unset, .unset, .unset] [(.ref pw)]))
  refine own_st (fun _ kS => XS.dup X112.here hx rfl (hb hby at_178) rfl rfl kS) ?_
  show OFin p e below s _ _ _ (T112.setTop (mkF m 179 #[.val (.long q1), .second, .val (.long q2), .second, .val (.int p3), .val (.int p4), .val (.ref cc), .val (.int (Int32.ofNat sn)), .val (.int (Int32.ofNat cn)), .unset, .unset, .unset, .unset, .unset, .unset] [(.ref pw), (.ref pw)]))
  refine own_st (fun _ kS => XS.bipush X112.here hx rfl (hb hby at_179) kS) ?_
  show OFin p e below s _ _ _ (T112.setTop (mkF m 181 #[.val (.long q1), .second, .val (.long q2), .second, .val (.int p3), .val (.int p4), .val (.ref cc), .val (.int (Int32.ofNat sn)), .val (.int (Int32.ofNat cn)), .unset, .unset, .unset, .unset, .unset, .unset] [(.int (7 : Int32)), (.ref pw), (.ref pw)]))
  refine own_st (X112.ldcInt hx hown (mvT hZ (own_w hw 10 rfl)) (g := (mkF m 181 #[.val (.long q1), .second, .val (.long q2), .second, .val (.int p3), .val (.int p4), .val (.ref cc), .val (.int (Int32.ofNat sn)), .val (.int (Int32.ofNat cn)), .unset, .unset, .unset, .unset, .unset, .unset] [(.int (7 : Int32)), (.ref pw), (.ref pw)])) rfl (hb hby at_181)) ?_
  show OFin p e below s _ _ _ (T112.setTop (mkF m 183 #[.val (.long q1), .second, .val (.long q2), .second, .val (.int p3), .val (.int p4), .val (.ref cc), .val (.int (Int32.ofNat sn)), .val (.int (Int32.ofNat cn)), .unset, .unset, .unset, .unset, .unset, .unset] [(.int (10000000 : Int32)), (.int (7 : Int32)), (.ref pw), (.ref pw)]))
  obtain ⟨cl116, Ar116, q116, S116, N116, H116, G116⟩ := id f113
  have hin116 : ¬ ((7 : Int32) < 0 ∨ cl116.slots.size ≤ ((7 : Int32)).toNatClampNeg) := inb_of S116 ⟨by decide, by decide⟩
  obtain ⟨T116, h116, X116, e116, W116, st116⟩ := stI X112 hx hZ e112 Ar116 (j := (7 : Int32)) hin116 (g := (mkF m 183 #[.val (.long q1), .second, .val (.long q2), .second, .val (.int p3), .val (.int p4), .val (.ref cc), .val (.int (Int32.ofNat sn)), .val (.int (Int32.ofNat cn)), .unset, .unset, .unset, .unset, .unset, .unset] [(.int (10000000 : Int32)), (.int (7 : Int32)), (.ref pw), (.ref pw)])) rfl rfl (hb hby at_183)
  have f117 := Arv.set Ar116 q116 S116 N116 H116 G116 rfl W116 7 rfl (Nat.le_of_ble_eq_true rfl)
  have od116 := od112.wr W116 g_pw
  clear od112
  have f118 := f114.other W116 ne_cc_pw
  clear f114
  have sz116 : n0 ≤ h116.size := by rw [W116.size]; exact sz112
  clear sz112
  have fr116 := Fr.snoc X116 fr112 g_pw
  clear fr112
  refine own_st (st116) ?_
  clear st116 X112 e112 W116 Ar116 q116 S116 N116 H116 G116 hin116 f113
  show OFin p e below s _ _ _ (T116.setTop (mkF m 184 #[.val (.long q1), .second, .val (.long q2), .second, .val (.int p3), .val (.int p4), .val (.ref cc), .val (.int (Int32.ofNat sn)), .val (.int (Int32.ofNat cn)), .unset, .unset, .unset, .unset, .unset, .unset] [(.ref pw)]))
  refine own_st (fun _ kS => XS.dup X116.here hx rfl (hb hby at_184) rfl rfl kS) ?_
  show OFin p e below s _ _ _ (T116.setTop (mkF m 185 #[.val (.long q1), .second, .val (.long q2), .second, .val (.int p3), .val (.int p4), .val (.ref cc), .val (.int (Int32.ofNat sn)), .val (.int (Int32.ofNat cn)), .unset, .unset, .unset, .unset, .unset, .unset] [(.ref pw), (.ref pw)]))
  refine own_st (fun _ kS => XS.bipush X116.here hx rfl (hb hby at_185) kS) ?_
  show OFin p e below s _ _ _ (T116.setTop (mkF m 187 #[.val (.long q1), .second, .val (.long q2), .second, .val (.int p3), .val (.int p4), .val (.ref cc), .val (.int (Int32.ofNat sn)), .val (.int (Int32.ofNat cn)), .unset, .unset, .unset, .unset, .unset, .unset] [(.int (8 : Int32)), (.ref pw), (.ref pw)]))
  refine own_st (X116.ldcInt hx hown (mvT hZ (own_w hw 11 rfl)) (g := (mkF m 187 #[.val (.long q1), .second, .val (.long q2), .second, .val (.int p3), .val (.int p4), .val (.ref cc), .val (.int (Int32.ofNat sn)), .val (.int (Int32.ofNat cn)), .unset, .unset, .unset, .unset, .unset, .unset] [(.int (8 : Int32)), (.ref pw), (.ref pw)])) rfl (hb hby at_187)) ?_
  show OFin p e below s _ _ _ (T116.setTop (mkF m 189 #[.val (.long q1), .second, .val (.long q2), .second, .val (.int p3), .val (.int p4), .val (.ref cc), .val (.int (Int32.ofNat sn)), .val (.int (Int32.ofNat cn)), .unset, .unset, .unset, .unset, .unset, .unset] [(.int (100000000 : Int32)), (.int (8 : Int32)), (.ref pw), (.ref pw)]))
  obtain ⟨cl120, Ar120, q120, S120, N120, H120, G120⟩ := id f117
  have hin120 : ¬ ((8 : Int32) < 0 ∨ cl120.slots.size ≤ ((8 : Int32)).toNatClampNeg) := inb_of S120 ⟨by decide, by decide⟩
  obtain ⟨T120, h120, X120, e120, W120, st120⟩ := stI X116 hx hZ e116 Ar120 (j := (8 : Int32)) hin120 (g := (mkF m 189 #[.val (.long q1), .second, .val (.long q2), .second, .val (.int p3), .val (.int p4), .val (.ref cc), .val (.int (Int32.ofNat sn)), .val (.int (Int32.ofNat cn)), .unset, .unset, .unset, .unset, .unset, .unset] [(.int (100000000 : Int32)), (.int (8 : Int32)), (.ref pw), (.ref pw)])) rfl rfl (hb hby at_189)
  have f121 := Arv.set Ar120 q120 S120 N120 H120 G120 rfl W120 8 rfl (Nat.le_of_ble_eq_true rfl)
  have od120 := od116.wr W120 g_pw
  clear od116
  have f122 := f118.other W120 ne_cc_pw
  clear f118
  have sz120 : n0 ≤ h120.size := by rw [W120.size]; exact sz116
  clear sz116
  have fr120 := Fr.snoc X120 fr116 g_pw
  clear fr116
  refine own_st (st120) ?_
  clear st120 X116 e116 W120 Ar120 q120 S120 N120 H120 G120 hin120 f117
  show OFin p e below s _ _ _ (T120.setTop (mkF m 190 #[.val (.long q1), .second, .val (.long q2), .second, .val (.int p3), .val (.int p4), .val (.ref cc), .val (.int (Int32.ofNat sn)), .val (.int (Int32.ofNat cn)), .unset, .unset, .unset, .unset, .unset, .unset] [(.ref pw)]))
  refine own_st (fun _ kS => XS.astore X120.here hx rfl (hb hby at_190) rfl rfl (l' := #[.val (.long q1), .second, .val (.long q2), .second, .val (.int p3), .val (.int p4), .val (.ref cc), .val (.int (Int32.ofNat sn)), .val (.int (Int32.ofNat cn)), .val (.ref pw), .unset, .unset, .unset, .unset, .unset]) rfl kS) ?_
  show OFin p e below s _ _ _ (T120.setTop (mkF m 192 #[.val (.long q1), .second, .val (.long q2), .second, .val (.int p3), .val (.int p4), .val (.ref cc), .val (.int (Int32.ofNat sn)), .val (.int (Int32.ofNat cn)), .val (.ref pw), .unset, .unset, .unset, .unset, .unset] []))
  have f124 : OArr Z h120 pw .int 9 (fun i => .int (own_pw i)) := OArr.of f121 rfl (fun i hi => by rcases (by omega : i = 0 ∨ i = 1 ∨ i = 2 ∨ i = 3 ∨ i = 4 ∨ i = 5 ∨ i = 6 ∨ i = 7 ∨ i = 8) with rfl | rfl | rfl | rfl | rfl | rfl | rfl | rfl | rfl <;> rfl)
  exact own_pF0 hw hC0 X120 e120 n0 sz120 q1 q2 p3 p4 cc kC cs z fm pw sn cn hlen hp S_c hz S_f rf f122 od120 fr120 f124 hsn hcn rfl rfl
set_option maxRecDepth 65536 in
set_option maxHeartbeats 40000000 in
theorem rm0 (l : Launch) (Z : State) (a0 : Array Value) (hw : ∀ d ∈ tables_1, d.before a0 Z = true) (q1 : Int64) (q2 : Int64) (p3 : Int32) (p4 : Int32) (h0 : Heap) (n0 : Nat) (Z0 : n0 ≤ h0.size) (z : Int32) (fm : Value) (S_c : Sta Z Z.heap "java/lang/String" "COMPACT_STRINGS" "Z" (.int z)) (hz : ¬ z = 0) (S_f : Sta Z Z.heap "jdk/internal/util/Preconditions" "SIOOBE_FORMATTER" "Ljava/util/function/BiFunction;" fm) (rf : fm.isRef = true) (O : Old Z n0 h0) :
    OMet l Z x code maxLocals ret room_1 #[(.long q1), (.long q2), (.int p3), (.int p4)] h0 (fun v h L => v = some (.int (1 : Int32)) ∧ Fr n0 L) := by
  refine own_enter own_pn0 ?_
  intro p e s m below meth c T0 X0 hC e0
  obtain ⟨hx, hZ, hby, hml, hown, hret, hlk, hnm⟩ := hC
  have hown : s.vm.findClass "io/countersign/TimestampFormReadDigitsPinLaw" = some m.cls := hown
  refine own_at (own_ef0_JJII m q1 q2 p3 p4) ?_
  show OFin p e below s _ _ _ (T0.setTop (mkF m 0 #[.val (.long q1), .second, .val (.long q2), .second, .val (.int p3), .val (.int p4), .unset, .unset, .unset, .unset, .unset, .unset, .unset, .unset, .unset] []))
  have hC0 : OCtx Z p s m meth c "io/countersign/TimestampFormReadDigitsPinLaw" "law" code maxLocals ret := ⟨hx, hZ, hby, hml, hown, hret, hlk, hnm⟩
  have N0 := Fr.nil n0
  refine own_st (fun _ kS => XS.bipush X0.here hx rfl (hb hby at_0) kS) ?_
  show OFin p e below s _ _ _ (T0.setTop (mkF m 2 #[.val (.long q1), .second, .val (.long q2), .second, .val (.int p3), .val (.int p4), .unset, .unset, .unset, .unset, .unset, .unset, .unset, .unset, .unset] [(.int (12 : Int32))]))
  obtain ⟨T35, h35, k35, X35, e35, E35, A35, st35⟩ := newP X0 hx hZ (own_w hw 0 rfl) e0 (g := (mkF m 2 #[.val (.long q1), .second, .val (.long q2), .second, .val (.int p3), .val (.int p4), .unset, .unset, .unset, .unset, .unset, .unset, .unset, .unset, .unset] [(.int (12 : Int32))])) rfl (hb hby at_2) rfl (by decide) (cap := 12) (by decide) (by decide) (by decide) (by decide)
  obtain ⟨cc, g35⟩ : ∃ z, z = h0.size := ⟨_, rfl⟩
  rw [← g35] at A35 st35
  have g_cc : n0 ≤ cc := Nat.le_trans Z0 (Nat.le_of_eq g35.symm)
  have od35 := O.ext E35
  have f36 : Arv Z h35 cc k35 .char (12 : Int32) [(.int (0 : Int32)), (.int (0 : Int32)), (.int (0 : Int32)), (.int (0 : Int32)), (.int (0 : Int32)), (.int (0 : Int32)), (.int (0 : Int32)), (.int (0 : Int32)), (.int (0 : Int32)), (.int (0 : Int32)), (.int (0 : Int32)), (.int (0 : Int32))] (.int (0 : Int32)) := (Arv.new A35 (by decide)).pad (pad_rep [] (.int (0 : Int32)) 12)
  have sz35 : n0 ≤ h35.size := Nat.le_trans Z0 E35.1
  refine own_st (st35) ?_
  clear st35 X0 e0 E35 g35
  show OFin p e below s _ _ _ (T35.setTop (mkF m 4 #[.val (.long q1), .second, .val (.long q2), .second, .val (.int p3), .val (.int p4), .unset, .unset, .unset, .unset, .unset, .unset, .unset, .unset, .unset] [(.ref cc)]))
  refine own_st (fun _ kS => XS.astore X35.here hx rfl (hb hby at_4) rfl rfl (l' := #[.val (.long q1), .second, .val (.long q2), .second, .val (.int p3), .val (.int p4), .val (.ref cc), .unset, .unset, .unset, .unset, .unset, .unset, .unset, .unset]) rfl kS) ?_
  show OFin p e below s _ _ _ (T35.setTop (mkF m 6 #[.val (.long q1), .second, .val (.long q2), .second, .val (.int p3), .val (.int p4), .val (.ref cc), .unset, .unset, .unset, .unset, .unset, .unset, .unset, .unset] []))
  refine own_st (fun _ kS => XS.aload X35.here hx rfl (hb hby at_6) rfl rfl kS) ?_
  show OFin p e below s _ _ _ (T35.setTop (mkF m 8 #[.val (.long q1), .second, .val (.long q2), .second, .val (.int p3), .val (.int p4), .val (.ref cc), .unset, .unset, .unset, .unset, .unset, .unset, .unset, .unset] [(.ref cc)]))
  refine own_st (fun _ kS => XS.iconst X35.here hx rfl (hb hby at_8) kS) ?_
  show OFin p e below s _ _ _ (T35.setTop (mkF m 9 #[.val (.long q1), .second, .val (.long q2), .second, .val (.int p3), .val (.int p4), .val (.ref cc), .unset, .unset, .unset, .unset, .unset, .unset, .unset, .unset] [(.int (0 : Int32)), (.ref cc)]))
  refine own_st (fun _ kS => XS.lloadN X35.here hx rfl (hb hby at_9) rfl kS) ?_
  show OFin p e below s _ _ _ (T35.setTop (mkF m 10 #[.val (.long q1), .second, .val (.long q2), .second, .val (.int p3), .val (.int p4), .val (.ref cc), .unset, .unset, .unset, .unset, .unset, .unset, .unset, .unset] [(.long q1), (.int (0 : Int32)), (.ref cc)]))
  refine own_st (fun _ kS => XS.iconst X35.here hx rfl (hb hby at_10) kS) ?_
  show OFin p e below s _ _ _ (T35.setTop (mkF m 11 #[.val (.long q1), .second, .val (.long q2), .second, .val (.int p3), .val (.int p4), .val (.ref cc), .unset, .unset, .unset, .unset, .unset, .unset, .unset, .unset] [(.int (0 : Int32)), (.long q1), (.int (0 : Int32)), (.ref cc)]))
  obtain ⟨v37, T37, L37, X37, hQ37, st37⟩ := own_static X35 hx hZ (y := (⟨"io/countersign/TimestampFormReadDigitsPinLaw", "ch", "(JI)C"⟩ : MethodName)) (rm := ⟨0, 0, 0, 0⟩) (W := 2) (argsL := [(.long q1), (.int (0 : Int32))]) (rest := [(.int (0 : Int32)), (.ref cc)]) hown (own_w hw 1 rfl) (own_w hw 2 rfl) (own_w hw 3 rfl) (own_w hw 4 rfl) (rmCh l Z a0 hw q1 (0 : Int32) h35) e35 (g := (mkF m 11 #[.val (.long q1), .second, .val (.long q2), .second, .val (.int p3), .val (.int p4), .val (.ref cc), .unset, .unset, .unset, .unset, .unset, .unset, .unset, .unset] [(.int (0 : Int32)), (.long q1), (.int (0 : Int32)), (.ref cc)])) rfl (by rw [hml]; rfl) (lenOf own_pd5 rfl) rfl (by show 2 * 0 + _ ≤ _; exact Nat.le_of_eq rfl) (hb hby at_11) (by decide) (by decide) (by decide) (by decide)
  obtain ⟨rfl, e37, rfl⟩ := hQ37
  rw [List.append_nil] at X37
  refine own_st (st37) ?_
  clear st37 X35 e35
  show OFin p e below s _ _ _ (T37.setTop (mkF m 14 #[.val (.long q1), .second, .val (.long q2), .second, .val (.int p3), .val (.int p4), .val (.ref cc), .unset, .unset, .unset, .unset, .unset, .unset, .unset, .unset] [(.int (own_ch q1 (0 : Int32))), (.int (0 : Int32)), (.ref cc)]))
  obtain ⟨cl38, Ar38, q38, S38, N38, H38, G38⟩ := id f36
  have hin38 : ¬ ((0 : Int32) < 0 ∨ cl38.slots.size ≤ ((0 : Int32)).toNatClampNeg) := inb_of S38 ⟨by decide, by decide⟩
  obtain ⟨T38, h38, X38, e38, W38, st38⟩ := stC X37 hx hZ e37 Ar38 (j := (0 : Int32)) hin38 (g := (mkF m 14 #[.val (.long q1), .second, .val (.long q2), .second, .val (.int p3), .val (.int p4), .val (.ref cc), .unset, .unset, .unset, .unset, .unset, .unset, .unset, .unset] [(.int (own_ch q1 (0 : Int32))), (.int (0 : Int32)), (.ref cc)])) rfl rfl (hb hby at_14)
  have f39 := Arv.set Ar38 q38 S38 N38 H38 G38 (fits_nar_char _) W38 0 rfl (Nat.le_of_ble_eq_true rfl)
  have od38 := od35.wr W38 g_cc
  clear od35
  have sz38 : n0 ≤ h38.size := by rw [W38.size]; exact sz35
  clear sz35
  have fr38 := Fr.snoc X38 N0 g_cc
  clear N0
  refine own_st (st38) ?_
  clear st38 X37 e37 W38 Ar38 q38 S38 N38 H38 G38 hin38 f36
  show OFin p e below s _ _ _ (T38.setTop (mkF m 15 #[.val (.long q1), .second, .val (.long q2), .second, .val (.int p3), .val (.int p4), .val (.ref cc), .unset, .unset, .unset, .unset, .unset, .unset, .unset, .unset] []))
  refine own_st (fun _ kS => XS.aload X38.here hx rfl (hb hby at_15) rfl rfl kS) ?_
  show OFin p e below s _ _ _ (T38.setTop (mkF m 17 #[.val (.long q1), .second, .val (.long q2), .second, .val (.int p3), .val (.int p4), .val (.ref cc), .unset, .unset, .unset, .unset, .unset, .unset, .unset, .unset] [(.ref cc)]))
  refine own_st (fun _ kS => XS.iconst X38.here hx rfl (hb hby at_17) kS) ?_
  show OFin p e below s _ _ _ (T38.setTop (mkF m 18 #[.val (.long q1), .second, .val (.long q2), .second, .val (.int p3), .val (.int p4), .val (.ref cc), .unset, .unset, .unset, .unset, .unset, .unset, .unset, .unset] [(.int (1 : Int32)), (.ref cc)]))
  refine own_st (fun _ kS => XS.lloadN X38.here hx rfl (hb hby at_18) rfl kS) ?_
  show OFin p e below s _ _ _ (T38.setTop (mkF m 19 #[.val (.long q1), .second, .val (.long q2), .second, .val (.int p3), .val (.int p4), .val (.ref cc), .unset, .unset, .unset, .unset, .unset, .unset, .unset, .unset] [(.long q1), (.int (1 : Int32)), (.ref cc)]))
  refine own_st (fun _ kS => XS.iconst X38.here hx rfl (hb hby at_19) kS) ?_
  show OFin p e below s _ _ _ (T38.setTop (mkF m 20 #[.val (.long q1), .second, .val (.long q2), .second, .val (.int p3), .val (.int p4), .val (.ref cc), .unset, .unset, .unset, .unset, .unset, .unset, .unset, .unset] [(.int (1 : Int32)), (.long q1), (.int (1 : Int32)), (.ref cc)]))
  obtain ⟨v41, T41, L41, X41, hQ41, st41⟩ := own_static X38 hx hZ (y := (⟨"io/countersign/TimestampFormReadDigitsPinLaw", "ch", "(JI)C"⟩ : MethodName)) (rm := ⟨0, 0, 0, 0⟩) (W := 2) (argsL := [(.long q1), (.int (1 : Int32))]) (rest := [(.int (1 : Int32)), (.ref cc)]) hown (own_w hw 1 rfl) (own_w hw 2 rfl) (own_w hw 3 rfl) (own_w hw 4 rfl) (rmCh l Z a0 hw q1 (1 : Int32) h38) e38 (g := (mkF m 20 #[.val (.long q1), .second, .val (.long q2), .second, .val (.int p3), .val (.int p4), .val (.ref cc), .unset, .unset, .unset, .unset, .unset, .unset, .unset, .unset] [(.int (1 : Int32)), (.long q1), (.int (1 : Int32)), (.ref cc)])) rfl (by rw [hml]; rfl) (lenOf own_pd5 rfl) rfl (by show 2 * 0 + _ ≤ _; exact Nat.le_of_eq rfl) (hb hby at_20) (by decide) (by decide) (by decide) (by decide)
  obtain ⟨rfl, e41, rfl⟩ := hQ41
  rw [List.append_nil] at X41
  refine own_st (st41) ?_
  clear st41 X38 e38
  show OFin p e below s _ _ _ (T41.setTop (mkF m 23 #[.val (.long q1), .second, .val (.long q2), .second, .val (.int p3), .val (.int p4), .val (.ref cc), .unset, .unset, .unset, .unset, .unset, .unset, .unset, .unset] [(.int (own_ch q1 (1 : Int32))), (.int (1 : Int32)), (.ref cc)]))
  obtain ⟨cl42, Ar42, q42, S42, N42, H42, G42⟩ := id f39
  have hin42 : ¬ ((1 : Int32) < 0 ∨ cl42.slots.size ≤ ((1 : Int32)).toNatClampNeg) := inb_of S42 ⟨by decide, by decide⟩
  obtain ⟨T42, h42, X42, e42, W42, st42⟩ := stC X41 hx hZ e41 Ar42 (j := (1 : Int32)) hin42 (g := (mkF m 23 #[.val (.long q1), .second, .val (.long q2), .second, .val (.int p3), .val (.int p4), .val (.ref cc), .unset, .unset, .unset, .unset, .unset, .unset, .unset, .unset] [(.int (own_ch q1 (1 : Int32))), (.int (1 : Int32)), (.ref cc)])) rfl rfl (hb hby at_23)
  have f43 := Arv.set Ar42 q42 S42 N42 H42 G42 (fits_nar_char _) W42 1 rfl (Nat.le_of_ble_eq_true rfl)
  have od42 := od38.wr W42 g_cc
  clear od38
  have sz42 : n0 ≤ h42.size := by rw [W42.size]; exact sz38
  clear sz38
  have fr42 := Fr.snoc X42 fr38 g_cc
  clear fr38
  refine own_st (st42) ?_
  clear st42 X41 e41 W42 Ar42 q42 S42 N42 H42 G42 hin42 f39
  show OFin p e below s _ _ _ (T42.setTop (mkF m 24 #[.val (.long q1), .second, .val (.long q2), .second, .val (.int p3), .val (.int p4), .val (.ref cc), .unset, .unset, .unset, .unset, .unset, .unset, .unset, .unset] []))
  refine own_st (fun _ kS => XS.aload X42.here hx rfl (hb hby at_24) rfl rfl kS) ?_
  show OFin p e below s _ _ _ (T42.setTop (mkF m 26 #[.val (.long q1), .second, .val (.long q2), .second, .val (.int p3), .val (.int p4), .val (.ref cc), .unset, .unset, .unset, .unset, .unset, .unset, .unset, .unset] [(.ref cc)]))
  refine own_st (fun _ kS => XS.iconst X42.here hx rfl (hb hby at_26) kS) ?_
  show OFin p e below s _ _ _ (T42.setTop (mkF m 27 #[.val (.long q1), .second, .val (.long q2), .second, .val (.int p3), .val (.int p4), .val (.ref cc), .unset, .unset, .unset, .unset, .unset, .unset, .unset, .unset] [(.int (2 : Int32)), (.ref cc)]))
  refine own_st (fun _ kS => XS.lloadN X42.here hx rfl (hb hby at_27) rfl kS) ?_
  show OFin p e below s _ _ _ (T42.setTop (mkF m 28 #[.val (.long q1), .second, .val (.long q2), .second, .val (.int p3), .val (.int p4), .val (.ref cc), .unset, .unset, .unset, .unset, .unset, .unset, .unset, .unset] [(.long q1), (.int (2 : Int32)), (.ref cc)]))
  refine own_st (fun _ kS => XS.iconst X42.here hx rfl (hb hby at_28) kS) ?_
  show OFin p e below s _ _ _ (T42.setTop (mkF m 29 #[.val (.long q1), .second, .val (.long q2), .second, .val (.int p3), .val (.int p4), .val (.ref cc), .unset, .unset, .unset, .unset, .unset, .unset, .unset, .unset] [(.int (2 : Int32)), (.long q1), (.int (2 : Int32)), (.ref cc)]))
  obtain ⟨v45, T45, L45, X45, hQ45, st45⟩ := own_static X42 hx hZ (y := (⟨"io/countersign/TimestampFormReadDigitsPinLaw", "ch", "(JI)C"⟩ : MethodName)) (rm := ⟨0, 0, 0, 0⟩) (W := 2) (argsL := [(.long q1), (.int (2 : Int32))]) (rest := [(.int (2 : Int32)), (.ref cc)]) hown (own_w hw 1 rfl) (own_w hw 2 rfl) (own_w hw 3 rfl) (own_w hw 4 rfl) (rmCh l Z a0 hw q1 (2 : Int32) h42) e42 (g := (mkF m 29 #[.val (.long q1), .second, .val (.long q2), .second, .val (.int p3), .val (.int p4), .val (.ref cc), .unset, .unset, .unset, .unset, .unset, .unset, .unset, .unset] [(.int (2 : Int32)), (.long q1), (.int (2 : Int32)), (.ref cc)])) rfl (by rw [hml]; rfl) (lenOf own_pd5 rfl) rfl (by show 2 * 0 + _ ≤ _; exact Nat.le_of_eq rfl) (hb hby at_29) (by decide) (by decide) (by decide) (by decide)
  obtain ⟨rfl, e45, rfl⟩ := hQ45
  rw [List.append_nil] at X45
  refine own_st (st45) ?_
  clear st45 X42 e42
  show OFin p e below s _ _ _ (T45.setTop (mkF m 32 #[.val (.long q1), .second, .val (.long q2), .second, .val (.int p3), .val (.int p4), .val (.ref cc), .unset, .unset, .unset, .unset, .unset, .unset, .unset, .unset] [(.int (own_ch q1 (2 : Int32))), (.int (2 : Int32)), (.ref cc)]))
  obtain ⟨cl46, Ar46, q46, S46, N46, H46, G46⟩ := id f43
  have hin46 : ¬ ((2 : Int32) < 0 ∨ cl46.slots.size ≤ ((2 : Int32)).toNatClampNeg) := inb_of S46 ⟨by decide, by decide⟩
  obtain ⟨T46, h46, X46, e46, W46, st46⟩ := stC X45 hx hZ e45 Ar46 (j := (2 : Int32)) hin46 (g := (mkF m 32 #[.val (.long q1), .second, .val (.long q2), .second, .val (.int p3), .val (.int p4), .val (.ref cc), .unset, .unset, .unset, .unset, .unset, .unset, .unset, .unset] [(.int (own_ch q1 (2 : Int32))), (.int (2 : Int32)), (.ref cc)])) rfl rfl (hb hby at_32)
  have f47 := Arv.set Ar46 q46 S46 N46 H46 G46 (fits_nar_char _) W46 2 rfl (Nat.le_of_ble_eq_true rfl)
  have od46 := od42.wr W46 g_cc
  clear od42
  have sz46 : n0 ≤ h46.size := by rw [W46.size]; exact sz42
  clear sz42
  have fr46 := Fr.snoc X46 fr42 g_cc
  clear fr42
  refine own_st (st46) ?_
  clear st46 X45 e45 W46 Ar46 q46 S46 N46 H46 G46 hin46 f43
  show OFin p e below s _ _ _ (T46.setTop (mkF m 33 #[.val (.long q1), .second, .val (.long q2), .second, .val (.int p3), .val (.int p4), .val (.ref cc), .unset, .unset, .unset, .unset, .unset, .unset, .unset, .unset] []))
  refine own_st (fun _ kS => XS.aload X46.here hx rfl (hb hby at_33) rfl rfl kS) ?_
  show OFin p e below s _ _ _ (T46.setTop (mkF m 35 #[.val (.long q1), .second, .val (.long q2), .second, .val (.int p3), .val (.int p4), .val (.ref cc), .unset, .unset, .unset, .unset, .unset, .unset, .unset, .unset] [(.ref cc)]))
  refine own_st (fun _ kS => XS.iconst X46.here hx rfl (hb hby at_35) kS) ?_
  show OFin p e below s _ _ _ (T46.setTop (mkF m 36 #[.val (.long q1), .second, .val (.long q2), .second, .val (.int p3), .val (.int p4), .val (.ref cc), .unset, .unset, .unset, .unset, .unset, .unset, .unset, .unset] [(.int (3 : Int32)), (.ref cc)]))
  refine own_st (fun _ kS => XS.lloadN X46.here hx rfl (hb hby at_36) rfl kS) ?_
  show OFin p e below s _ _ _ (T46.setTop (mkF m 37 #[.val (.long q1), .second, .val (.long q2), .second, .val (.int p3), .val (.int p4), .val (.ref cc), .unset, .unset, .unset, .unset, .unset, .unset, .unset, .unset] [(.long q1), (.int (3 : Int32)), (.ref cc)]))
  refine own_st (fun _ kS => XS.iconst X46.here hx rfl (hb hby at_37) kS) ?_
  show OFin p e below s _ _ _ (T46.setTop (mkF m 38 #[.val (.long q1), .second, .val (.long q2), .second, .val (.int p3), .val (.int p4), .val (.ref cc), .unset, .unset, .unset, .unset, .unset, .unset, .unset, .unset] [(.int (3 : Int32)), (.long q1), (.int (3 : Int32)), (.ref cc)]))
  obtain ⟨v49, T49, L49, X49, hQ49, st49⟩ := own_static X46 hx hZ (y := (⟨"io/countersign/TimestampFormReadDigitsPinLaw", "ch", "(JI)C"⟩ : MethodName)) (rm := ⟨0, 0, 0, 0⟩) (W := 2) (argsL := [(.long q1), (.int (3 : Int32))]) (rest := [(.int (3 : Int32)), (.ref cc)]) hown (own_w hw 1 rfl) (own_w hw 2 rfl) (own_w hw 3 rfl) (own_w hw 4 rfl) (rmCh l Z a0 hw q1 (3 : Int32) h46) e46 (g := (mkF m 38 #[.val (.long q1), .second, .val (.long q2), .second, .val (.int p3), .val (.int p4), .val (.ref cc), .unset, .unset, .unset, .unset, .unset, .unset, .unset, .unset] [(.int (3 : Int32)), (.long q1), (.int (3 : Int32)), (.ref cc)])) rfl (by rw [hml]; rfl) (lenOf own_pd5 rfl) rfl (by show 2 * 0 + _ ≤ _; exact Nat.le_of_eq rfl) (hb hby at_38) (by decide) (by decide) (by decide) (by decide)
  obtain ⟨rfl, e49, rfl⟩ := hQ49
  rw [List.append_nil] at X49
  refine own_st (st49) ?_
  clear st49 X46 e46
  show OFin p e below s _ _ _ (T49.setTop (mkF m 41 #[.val (.long q1), .second, .val (.long q2), .second, .val (.int p3), .val (.int p4), .val (.ref cc), .unset, .unset, .unset, .unset, .unset, .unset, .unset, .unset] [(.int (own_ch q1 (3 : Int32))), (.int (3 : Int32)), (.ref cc)]))
  obtain ⟨cl50, Ar50, q50, S50, N50, H50, G50⟩ := id f47
  have hin50 : ¬ ((3 : Int32) < 0 ∨ cl50.slots.size ≤ ((3 : Int32)).toNatClampNeg) := inb_of S50 ⟨by decide, by decide⟩
  obtain ⟨T50, h50, X50, e50, W50, st50⟩ := stC X49 hx hZ e49 Ar50 (j := (3 : Int32)) hin50 (g := (mkF m 41 #[.val (.long q1), .second, .val (.long q2), .second, .val (.int p3), .val (.int p4), .val (.ref cc), .unset, .unset, .unset, .unset, .unset, .unset, .unset, .unset] [(.int (own_ch q1 (3 : Int32))), (.int (3 : Int32)), (.ref cc)])) rfl rfl (hb hby at_41)
  have f51 := Arv.set Ar50 q50 S50 N50 H50 G50 (fits_nar_char _) W50 3 rfl (Nat.le_of_ble_eq_true rfl)
  have od50 := od46.wr W50 g_cc
  clear od46
  have sz50 : n0 ≤ h50.size := by rw [W50.size]; exact sz46
  clear sz46
  have fr50 := Fr.snoc X50 fr46 g_cc
  clear fr46
  refine own_st (st50) ?_
  clear st50 X49 e49 W50 Ar50 q50 S50 N50 H50 G50 hin50 f47
  show OFin p e below s _ _ _ (T50.setTop (mkF m 42 #[.val (.long q1), .second, .val (.long q2), .second, .val (.int p3), .val (.int p4), .val (.ref cc), .unset, .unset, .unset, .unset, .unset, .unset, .unset, .unset] []))
  refine own_st (fun _ kS => XS.aload X50.here hx rfl (hb hby at_42) rfl rfl kS) ?_
  show OFin p e below s _ _ _ (T50.setTop (mkF m 44 #[.val (.long q1), .second, .val (.long q2), .second, .val (.int p3), .val (.int p4), .val (.ref cc), .unset, .unset, .unset, .unset, .unset, .unset, .unset, .unset] [(.ref cc)]))
  refine own_st (fun _ kS => XS.iconst X50.here hx rfl (hb hby at_44) kS) ?_
  show OFin p e below s _ _ _ (T50.setTop (mkF m 45 #[.val (.long q1), .second, .val (.long q2), .second, .val (.int p3), .val (.int p4), .val (.ref cc), .unset, .unset, .unset, .unset, .unset, .unset, .unset, .unset] [(.int (4 : Int32)), (.ref cc)]))
  refine own_st (fun _ kS => XS.lloadN X50.here hx rfl (hb hby at_45) rfl kS) ?_
  show OFin p e below s _ _ _ (T50.setTop (mkF m 46 #[.val (.long q1), .second, .val (.long q2), .second, .val (.int p3), .val (.int p4), .val (.ref cc), .unset, .unset, .unset, .unset, .unset, .unset, .unset, .unset] [(.long q1), (.int (4 : Int32)), (.ref cc)]))
  refine own_st (fun _ kS => XS.iconst X50.here hx rfl (hb hby at_46) kS) ?_
  show OFin p e below s _ _ _ (T50.setTop (mkF m 47 #[.val (.long q1), .second, .val (.long q2), .second, .val (.int p3), .val (.int p4), .val (.ref cc), .unset, .unset, .unset, .unset, .unset, .unset, .unset, .unset] [(.int (4 : Int32)), (.long q1), (.int (4 : Int32)), (.ref cc)]))
  obtain ⟨v53, T53, L53, X53, hQ53, st53⟩ := own_static X50 hx hZ (y := (⟨"io/countersign/TimestampFormReadDigitsPinLaw", "ch", "(JI)C"⟩ : MethodName)) (rm := ⟨0, 0, 0, 0⟩) (W := 2) (argsL := [(.long q1), (.int (4 : Int32))]) (rest := [(.int (4 : Int32)), (.ref cc)]) hown (own_w hw 1 rfl) (own_w hw 2 rfl) (own_w hw 3 rfl) (own_w hw 4 rfl) (rmCh l Z a0 hw q1 (4 : Int32) h50) e50 (g := (mkF m 47 #[.val (.long q1), .second, .val (.long q2), .second, .val (.int p3), .val (.int p4), .val (.ref cc), .unset, .unset, .unset, .unset, .unset, .unset, .unset, .unset] [(.int (4 : Int32)), (.long q1), (.int (4 : Int32)), (.ref cc)])) rfl (by rw [hml]; rfl) (lenOf own_pd5 rfl) rfl (by show 2 * 0 + _ ≤ _; exact Nat.le_of_eq rfl) (hb hby at_47) (by decide) (by decide) (by decide) (by decide)
  obtain ⟨rfl, e53, rfl⟩ := hQ53
  rw [List.append_nil] at X53
  refine own_st (st53) ?_
  clear st53 X50 e50
  show OFin p e below s _ _ _ (T53.setTop (mkF m 50 #[.val (.long q1), .second, .val (.long q2), .second, .val (.int p3), .val (.int p4), .val (.ref cc), .unset, .unset, .unset, .unset, .unset, .unset, .unset, .unset] [(.int (own_ch q1 (4 : Int32))), (.int (4 : Int32)), (.ref cc)]))
  obtain ⟨cl54, Ar54, q54, S54, N54, H54, G54⟩ := id f51
  have hin54 : ¬ ((4 : Int32) < 0 ∨ cl54.slots.size ≤ ((4 : Int32)).toNatClampNeg) := inb_of S54 ⟨by decide, by decide⟩
  obtain ⟨T54, h54, X54, e54, W54, st54⟩ := stC X53 hx hZ e53 Ar54 (j := (4 : Int32)) hin54 (g := (mkF m 50 #[.val (.long q1), .second, .val (.long q2), .second, .val (.int p3), .val (.int p4), .val (.ref cc), .unset, .unset, .unset, .unset, .unset, .unset, .unset, .unset] [(.int (own_ch q1 (4 : Int32))), (.int (4 : Int32)), (.ref cc)])) rfl rfl (hb hby at_50)
  have f55 := Arv.set Ar54 q54 S54 N54 H54 G54 (fits_nar_char _) W54 4 rfl (Nat.le_of_ble_eq_true rfl)
  have od54 := od50.wr W54 g_cc
  clear od50
  have sz54 : n0 ≤ h54.size := by rw [W54.size]; exact sz50
  clear sz50
  have fr54 := Fr.snoc X54 fr50 g_cc
  clear fr50
  refine own_st (st54) ?_
  clear st54 X53 e53 W54 Ar54 q54 S54 N54 H54 G54 hin54 f51
  show OFin p e below s _ _ _ (T54.setTop (mkF m 51 #[.val (.long q1), .second, .val (.long q2), .second, .val (.int p3), .val (.int p4), .val (.ref cc), .unset, .unset, .unset, .unset, .unset, .unset, .unset, .unset] []))
  refine own_st (fun _ kS => XS.aload X54.here hx rfl (hb hby at_51) rfl rfl kS) ?_
  show OFin p e below s _ _ _ (T54.setTop (mkF m 53 #[.val (.long q1), .second, .val (.long q2), .second, .val (.int p3), .val (.int p4), .val (.ref cc), .unset, .unset, .unset, .unset, .unset, .unset, .unset, .unset] [(.ref cc)]))
  refine own_st (fun _ kS => XS.iconst X54.here hx rfl (hb hby at_53) kS) ?_
  show OFin p e below s _ _ _ (T54.setTop (mkF m 54 #[.val (.long q1), .second, .val (.long q2), .second, .val (.int p3), .val (.int p4), .val (.ref cc), .unset, .unset, .unset, .unset, .unset, .unset, .unset, .unset] [(.int (5 : Int32)), (.ref cc)]))
  refine own_st (fun _ kS => XS.lloadN X54.here hx rfl (hb hby at_54) rfl kS) ?_
  show OFin p e below s _ _ _ (T54.setTop (mkF m 55 #[.val (.long q1), .second, .val (.long q2), .second, .val (.int p3), .val (.int p4), .val (.ref cc), .unset, .unset, .unset, .unset, .unset, .unset, .unset, .unset] [(.long q1), (.int (5 : Int32)), (.ref cc)]))
  refine own_st (fun _ kS => XS.iconst X54.here hx rfl (hb hby at_55) kS) ?_
  show OFin p e below s _ _ _ (T54.setTop (mkF m 56 #[.val (.long q1), .second, .val (.long q2), .second, .val (.int p3), .val (.int p4), .val (.ref cc), .unset, .unset, .unset, .unset, .unset, .unset, .unset, .unset] [(.int (5 : Int32)), (.long q1), (.int (5 : Int32)), (.ref cc)]))
  obtain ⟨v57, T57, L57, X57, hQ57, st57⟩ := own_static X54 hx hZ (y := (⟨"io/countersign/TimestampFormReadDigitsPinLaw", "ch", "(JI)C"⟩ : MethodName)) (rm := ⟨0, 0, 0, 0⟩) (W := 2) (argsL := [(.long q1), (.int (5 : Int32))]) (rest := [(.int (5 : Int32)), (.ref cc)]) hown (own_w hw 1 rfl) (own_w hw 2 rfl) (own_w hw 3 rfl) (own_w hw 4 rfl) (rmCh l Z a0 hw q1 (5 : Int32) h54) e54 (g := (mkF m 56 #[.val (.long q1), .second, .val (.long q2), .second, .val (.int p3), .val (.int p4), .val (.ref cc), .unset, .unset, .unset, .unset, .unset, .unset, .unset, .unset] [(.int (5 : Int32)), (.long q1), (.int (5 : Int32)), (.ref cc)])) rfl (by rw [hml]; rfl) (lenOf own_pd5 rfl) rfl (by show 2 * 0 + _ ≤ _; exact Nat.le_of_eq rfl) (hb hby at_56) (by decide) (by decide) (by decide) (by decide)
  obtain ⟨rfl, e57, rfl⟩ := hQ57
  rw [List.append_nil] at X57
  refine own_st (st57) ?_
  clear st57 X54 e54
  show OFin p e below s _ _ _ (T57.setTop (mkF m 59 #[.val (.long q1), .second, .val (.long q2), .second, .val (.int p3), .val (.int p4), .val (.ref cc), .unset, .unset, .unset, .unset, .unset, .unset, .unset, .unset] [(.int (own_ch q1 (5 : Int32))), (.int (5 : Int32)), (.ref cc)]))
  obtain ⟨cl58, Ar58, q58, S58, N58, H58, G58⟩ := id f55
  have hin58 : ¬ ((5 : Int32) < 0 ∨ cl58.slots.size ≤ ((5 : Int32)).toNatClampNeg) := inb_of S58 ⟨by decide, by decide⟩
  obtain ⟨T58, h58, X58, e58, W58, st58⟩ := stC X57 hx hZ e57 Ar58 (j := (5 : Int32)) hin58 (g := (mkF m 59 #[.val (.long q1), .second, .val (.long q2), .second, .val (.int p3), .val (.int p4), .val (.ref cc), .unset, .unset, .unset, .unset, .unset, .unset, .unset, .unset] [(.int (own_ch q1 (5 : Int32))), (.int (5 : Int32)), (.ref cc)])) rfl rfl (hb hby at_59)
  have f59 := Arv.set Ar58 q58 S58 N58 H58 G58 (fits_nar_char _) W58 5 rfl (Nat.le_of_ble_eq_true rfl)
  have od58 := od54.wr W58 g_cc
  clear od54
  have sz58 : n0 ≤ h58.size := by rw [W58.size]; exact sz54
  clear sz54
  have fr58 := Fr.snoc X58 fr54 g_cc
  clear fr54
  refine own_st (st58) ?_
  clear st58 X57 e57 W58 Ar58 q58 S58 N58 H58 G58 hin58 f55
  show OFin p e below s _ _ _ (T58.setTop (mkF m 60 #[.val (.long q1), .second, .val (.long q2), .second, .val (.int p3), .val (.int p4), .val (.ref cc), .unset, .unset, .unset, .unset, .unset, .unset, .unset, .unset] []))
  refine own_st (fun _ kS => XS.aload X58.here hx rfl (hb hby at_60) rfl rfl kS) ?_
  show OFin p e below s _ _ _ (T58.setTop (mkF m 62 #[.val (.long q1), .second, .val (.long q2), .second, .val (.int p3), .val (.int p4), .val (.ref cc), .unset, .unset, .unset, .unset, .unset, .unset, .unset, .unset] [(.ref cc)]))
  refine own_st (fun _ kS => XS.bipush X58.here hx rfl (hb hby at_62) kS) ?_
  show OFin p e below s _ _ _ (T58.setTop (mkF m 64 #[.val (.long q1), .second, .val (.long q2), .second, .val (.int p3), .val (.int p4), .val (.ref cc), .unset, .unset, .unset, .unset, .unset, .unset, .unset, .unset] [(.int (6 : Int32)), (.ref cc)]))
  refine own_st (fun _ kS => XS.lloadN X58.here hx rfl (hb hby at_64) rfl kS) ?_
  show OFin p e below s _ _ _ (T58.setTop (mkF m 65 #[.val (.long q1), .second, .val (.long q2), .second, .val (.int p3), .val (.int p4), .val (.ref cc), .unset, .unset, .unset, .unset, .unset, .unset, .unset, .unset] [(.long q1), (.int (6 : Int32)), (.ref cc)]))
  refine own_st (fun _ kS => XS.bipush X58.here hx rfl (hb hby at_65) kS) ?_
  show OFin p e below s _ _ _ (T58.setTop (mkF m 67 #[.val (.long q1), .second, .val (.long q2), .second, .val (.int p3), .val (.int p4), .val (.ref cc), .unset, .unset, .unset, .unset, .unset, .unset, .unset, .unset] [(.int (6 : Int32)), (.long q1), (.int (6 : Int32)), (.ref cc)]))
  obtain ⟨v61, T61, L61, X61, hQ61, st61⟩ := own_static X58 hx hZ (y := (⟨"io/countersign/TimestampFormReadDigitsPinLaw", "ch", "(JI)C"⟩ : MethodName)) (rm := ⟨0, 0, 0, 0⟩) (W := 2) (argsL := [(.long q1), (.int (6 : Int32))]) (rest := [(.int (6 : Int32)), (.ref cc)]) hown (own_w hw 1 rfl) (own_w hw 2 rfl) (own_w hw 3 rfl) (own_w hw 4 rfl) (rmCh l Z a0 hw q1 (6 : Int32) h58) e58 (g := (mkF m 67 #[.val (.long q1), .second, .val (.long q2), .second, .val (.int p3), .val (.int p4), .val (.ref cc), .unset, .unset, .unset, .unset, .unset, .unset, .unset, .unset] [(.int (6 : Int32)), (.long q1), (.int (6 : Int32)), (.ref cc)])) rfl (by rw [hml]; rfl) (lenOf own_pd5 rfl) rfl (by show 2 * 0 + _ ≤ _; exact Nat.le_of_eq rfl) (hb hby at_67) (by decide) (by decide) (by decide) (by decide)
  obtain ⟨rfl, e61, rfl⟩ := hQ61
  rw [List.append_nil] at X61
  refine own_st (st61) ?_
  clear st61 X58 e58
  show OFin p e below s _ _ _ (T61.setTop (mkF m 70 #[.val (.long q1), .second, .val (.long q2), .second, .val (.int p3), .val (.int p4), .val (.ref cc), .unset, .unset, .unset, .unset, .unset, .unset, .unset, .unset] [(.int (own_ch q1 (6 : Int32))), (.int (6 : Int32)), (.ref cc)]))
  obtain ⟨cl62, Ar62, q62, S62, N62, H62, G62⟩ := id f59
  have hin62 : ¬ ((6 : Int32) < 0 ∨ cl62.slots.size ≤ ((6 : Int32)).toNatClampNeg) := inb_of S62 ⟨by decide, by decide⟩
  obtain ⟨T62, h62, X62, e62, W62, st62⟩ := stC X61 hx hZ e61 Ar62 (j := (6 : Int32)) hin62 (g := (mkF m 70 #[.val (.long q1), .second, .val (.long q2), .second, .val (.int p3), .val (.int p4), .val (.ref cc), .unset, .unset, .unset, .unset, .unset, .unset, .unset, .unset] [(.int (own_ch q1 (6 : Int32))), (.int (6 : Int32)), (.ref cc)])) rfl rfl (hb hby at_70)
  have f63 := Arv.set Ar62 q62 S62 N62 H62 G62 (fits_nar_char _) W62 6 rfl (Nat.le_of_ble_eq_true rfl)
  have od62 := od58.wr W62 g_cc
  clear od58
  have sz62 : n0 ≤ h62.size := by rw [W62.size]; exact sz58
  clear sz58
  have fr62 := Fr.snoc X62 fr58 g_cc
  clear fr58
  refine own_st (st62) ?_
  clear st62 X61 e61 W62 Ar62 q62 S62 N62 H62 G62 hin62 f59
  show OFin p e below s _ _ _ (T62.setTop (mkF m 71 #[.val (.long q1), .second, .val (.long q2), .second, .val (.int p3), .val (.int p4), .val (.ref cc), .unset, .unset, .unset, .unset, .unset, .unset, .unset, .unset] []))
  refine own_st (fun _ kS => XS.aload X62.here hx rfl (hb hby at_71) rfl rfl kS) ?_
  show OFin p e below s _ _ _ (T62.setTop (mkF m 73 #[.val (.long q1), .second, .val (.long q2), .second, .val (.int p3), .val (.int p4), .val (.ref cc), .unset, .unset, .unset, .unset, .unset, .unset, .unset, .unset] [(.ref cc)]))
  refine own_st (fun _ kS => XS.bipush X62.here hx rfl (hb hby at_73) kS) ?_
  show OFin p e below s _ _ _ (T62.setTop (mkF m 75 #[.val (.long q1), .second, .val (.long q2), .second, .val (.int p3), .val (.int p4), .val (.ref cc), .unset, .unset, .unset, .unset, .unset, .unset, .unset, .unset] [(.int (7 : Int32)), (.ref cc)]))
  refine own_st (fun _ kS => XS.lloadN X62.here hx rfl (hb hby at_75) rfl kS) ?_
  show OFin p e below s _ _ _ (T62.setTop (mkF m 76 #[.val (.long q1), .second, .val (.long q2), .second, .val (.int p3), .val (.int p4), .val (.ref cc), .unset, .unset, .unset, .unset, .unset, .unset, .unset, .unset] [(.long q2), (.int (7 : Int32)), (.ref cc)]))
  refine own_st (fun _ kS => XS.iconst X62.here hx rfl (hb hby at_76) kS) ?_
  show OFin p e below s _ _ _ (T62.setTop (mkF m 77 #[.val (.long q1), .second, .val (.long q2), .second, .val (.int p3), .val (.int p4), .val (.ref cc), .unset, .unset, .unset, .unset, .unset, .unset, .unset, .unset] [(.int (0 : Int32)), (.long q2), (.int (7 : Int32)), (.ref cc)]))
  obtain ⟨v65, T65, L65, X65, hQ65, st65⟩ := own_static X62 hx hZ (y := (⟨"io/countersign/TimestampFormReadDigitsPinLaw", "ch", "(JI)C"⟩ : MethodName)) (rm := ⟨0, 0, 0, 0⟩) (W := 2) (argsL := [(.long q2), (.int (0 : Int32))]) (rest := [(.int (7 : Int32)), (.ref cc)]) hown (own_w hw 1 rfl) (own_w hw 2 rfl) (own_w hw 3 rfl) (own_w hw 4 rfl) (rmCh l Z a0 hw q2 (0 : Int32) h62) e62 (g := (mkF m 77 #[.val (.long q1), .second, .val (.long q2), .second, .val (.int p3), .val (.int p4), .val (.ref cc), .unset, .unset, .unset, .unset, .unset, .unset, .unset, .unset] [(.int (0 : Int32)), (.long q2), (.int (7 : Int32)), (.ref cc)])) rfl (by rw [hml]; rfl) (lenOf own_pd5 rfl) rfl (by show 2 * 0 + _ ≤ _; exact Nat.le_of_eq rfl) (hb hby at_77) (by decide) (by decide) (by decide) (by decide)
  obtain ⟨rfl, e65, rfl⟩ := hQ65
  rw [List.append_nil] at X65
  refine own_st (st65) ?_
  clear st65 X62 e62
  show OFin p e below s _ _ _ (T65.setTop (mkF m 80 #[.val (.long q1), .second, .val (.long q2), .second, .val (.int p3), .val (.int p4), .val (.ref cc), .unset, .unset, .unset, .unset, .unset, .unset, .unset, .unset] [(.int (own_ch q2 (0 : Int32))), (.int (7 : Int32)), (.ref cc)]))
  obtain ⟨cl66, Ar66, q66, S66, N66, H66, G66⟩ := id f63
  have hin66 : ¬ ((7 : Int32) < 0 ∨ cl66.slots.size ≤ ((7 : Int32)).toNatClampNeg) := inb_of S66 ⟨by decide, by decide⟩
  obtain ⟨T66, h66, X66, e66, W66, st66⟩ := stC X65 hx hZ e65 Ar66 (j := (7 : Int32)) hin66 (g := (mkF m 80 #[.val (.long q1), .second, .val (.long q2), .second, .val (.int p3), .val (.int p4), .val (.ref cc), .unset, .unset, .unset, .unset, .unset, .unset, .unset, .unset] [(.int (own_ch q2 (0 : Int32))), (.int (7 : Int32)), (.ref cc)])) rfl rfl (hb hby at_80)
  have f67 := Arv.set Ar66 q66 S66 N66 H66 G66 (fits_nar_char _) W66 7 rfl (Nat.le_of_ble_eq_true rfl)
  have od66 := od62.wr W66 g_cc
  clear od62
  have sz66 : n0 ≤ h66.size := by rw [W66.size]; exact sz62
  clear sz62
  have fr66 := Fr.snoc X66 fr62 g_cc
  clear fr62
  refine own_st (st66) ?_
  clear st66 X65 e65 W66 Ar66 q66 S66 N66 H66 G66 hin66 f63
  show OFin p e below s _ _ _ (T66.setTop (mkF m 81 #[.val (.long q1), .second, .val (.long q2), .second, .val (.int p3), .val (.int p4), .val (.ref cc), .unset, .unset, .unset, .unset, .unset, .unset, .unset, .unset] []))
  refine own_st (fun _ kS => XS.aload X66.here hx rfl (hb hby at_81) rfl rfl kS) ?_
  show OFin p e below s _ _ _ (T66.setTop (mkF m 83 #[.val (.long q1), .second, .val (.long q2), .second, .val (.int p3), .val (.int p4), .val (.ref cc), .unset, .unset, .unset, .unset, .unset, .unset, .unset, .unset] [(.ref cc)]))
  refine own_st (fun _ kS => XS.bipush X66.here hx rfl (hb hby at_83) kS) ?_
  show OFin p e below s _ _ _ (T66.setTop (mkF m 85 #[.val (.long q1), .second, .val (.long q2), .second, .val (.int p3), .val (.int p4), .val (.ref cc), .unset, .unset, .unset, .unset, .unset, .unset, .unset, .unset] [(.int (8 : Int32)), (.ref cc)]))
  refine own_st (fun _ kS => XS.lloadN X66.here hx rfl (hb hby at_85) rfl kS) ?_
  show OFin p e below s _ _ _ (T66.setTop (mkF m 86 #[.val (.long q1), .second, .val (.long q2), .second, .val (.int p3), .val (.int p4), .val (.ref cc), .unset, .unset, .unset, .unset, .unset, .unset, .unset, .unset] [(.long q2), (.int (8 : Int32)), (.ref cc)]))
  refine own_st (fun _ kS => XS.iconst X66.here hx rfl (hb hby at_86) kS) ?_
  show OFin p e below s _ _ _ (T66.setTop (mkF m 87 #[.val (.long q1), .second, .val (.long q2), .second, .val (.int p3), .val (.int p4), .val (.ref cc), .unset, .unset, .unset, .unset, .unset, .unset, .unset, .unset] [(.int (1 : Int32)), (.long q2), (.int (8 : Int32)), (.ref cc)]))
  obtain ⟨v69, T69, L69, X69, hQ69, st69⟩ := own_static X66 hx hZ (y := (⟨"io/countersign/TimestampFormReadDigitsPinLaw", "ch", "(JI)C"⟩ : MethodName)) (rm := ⟨0, 0, 0, 0⟩) (W := 2) (argsL := [(.long q2), (.int (1 : Int32))]) (rest := [(.int (8 : Int32)), (.ref cc)]) hown (own_w hw 1 rfl) (own_w hw 2 rfl) (own_w hw 3 rfl) (own_w hw 4 rfl) (rmCh l Z a0 hw q2 (1 : Int32) h66) e66 (g := (mkF m 87 #[.val (.long q1), .second, .val (.long q2), .second, .val (.int p3), .val (.int p4), .val (.ref cc), .unset, .unset, .unset, .unset, .unset, .unset, .unset, .unset] [(.int (1 : Int32)), (.long q2), (.int (8 : Int32)), (.ref cc)])) rfl (by rw [hml]; rfl) (lenOf own_pd5 rfl) rfl (by show 2 * 0 + _ ≤ _; exact Nat.le_of_eq rfl) (hb hby at_87) (by decide) (by decide) (by decide) (by decide)
  obtain ⟨rfl, e69, rfl⟩ := hQ69
  rw [List.append_nil] at X69
  refine own_st (st69) ?_
  clear st69 X66 e66
  show OFin p e below s _ _ _ (T69.setTop (mkF m 90 #[.val (.long q1), .second, .val (.long q2), .second, .val (.int p3), .val (.int p4), .val (.ref cc), .unset, .unset, .unset, .unset, .unset, .unset, .unset, .unset] [(.int (own_ch q2 (1 : Int32))), (.int (8 : Int32)), (.ref cc)]))
  obtain ⟨cl70, Ar70, q70, S70, N70, H70, G70⟩ := id f67
  have hin70 : ¬ ((8 : Int32) < 0 ∨ cl70.slots.size ≤ ((8 : Int32)).toNatClampNeg) := inb_of S70 ⟨by decide, by decide⟩
  obtain ⟨T70, h70, X70, e70, W70, st70⟩ := stC X69 hx hZ e69 Ar70 (j := (8 : Int32)) hin70 (g := (mkF m 90 #[.val (.long q1), .second, .val (.long q2), .second, .val (.int p3), .val (.int p4), .val (.ref cc), .unset, .unset, .unset, .unset, .unset, .unset, .unset, .unset] [(.int (own_ch q2 (1 : Int32))), (.int (8 : Int32)), (.ref cc)])) rfl rfl (hb hby at_90)
  have f71 := Arv.set Ar70 q70 S70 N70 H70 G70 (fits_nar_char _) W70 8 rfl (Nat.le_of_ble_eq_true rfl)
  have od70 := od66.wr W70 g_cc
  clear od66
  have sz70 : n0 ≤ h70.size := by rw [W70.size]; exact sz66
  clear sz66
  have fr70 := Fr.snoc X70 fr66 g_cc
  clear fr66
  refine own_st (st70) ?_
  clear st70 X69 e69 W70 Ar70 q70 S70 N70 H70 G70 hin70 f67
  show OFin p e below s _ _ _ (T70.setTop (mkF m 91 #[.val (.long q1), .second, .val (.long q2), .second, .val (.int p3), .val (.int p4), .val (.ref cc), .unset, .unset, .unset, .unset, .unset, .unset, .unset, .unset] []))
  refine own_st (fun _ kS => XS.aload X70.here hx rfl (hb hby at_91) rfl rfl kS) ?_
  show OFin p e below s _ _ _ (T70.setTop (mkF m 93 #[.val (.long q1), .second, .val (.long q2), .second, .val (.int p3), .val (.int p4), .val (.ref cc), .unset, .unset, .unset, .unset, .unset, .unset, .unset, .unset] [(.ref cc)]))
  refine own_st (fun _ kS => XS.bipush X70.here hx rfl (hb hby at_93) kS) ?_
  show OFin p e below s _ _ _ (T70.setTop (mkF m 95 #[.val (.long q1), .second, .val (.long q2), .second, .val (.int p3), .val (.int p4), .val (.ref cc), .unset, .unset, .unset, .unset, .unset, .unset, .unset, .unset] [(.int (9 : Int32)), (.ref cc)]))
  refine own_st (fun _ kS => XS.lloadN X70.here hx rfl (hb hby at_95) rfl kS) ?_
  show OFin p e below s _ _ _ (T70.setTop (mkF m 96 #[.val (.long q1), .second, .val (.long q2), .second, .val (.int p3), .val (.int p4), .val (.ref cc), .unset, .unset, .unset, .unset, .unset, .unset, .unset, .unset] [(.long q2), (.int (9 : Int32)), (.ref cc)]))
  refine own_st (fun _ kS => XS.iconst X70.here hx rfl (hb hby at_96) kS) ?_
  show OFin p e below s _ _ _ (T70.setTop (mkF m 97 #[.val (.long q1), .second, .val (.long q2), .second, .val (.int p3), .val (.int p4), .val (.ref cc), .unset, .unset, .unset, .unset, .unset, .unset, .unset, .unset] [(.int (2 : Int32)), (.long q2), (.int (9 : Int32)), (.ref cc)]))
  obtain ⟨v73, T73, L73, X73, hQ73, st73⟩ := own_static X70 hx hZ (y := (⟨"io/countersign/TimestampFormReadDigitsPinLaw", "ch", "(JI)C"⟩ : MethodName)) (rm := ⟨0, 0, 0, 0⟩) (W := 2) (argsL := [(.long q2), (.int (2 : Int32))]) (rest := [(.int (9 : Int32)), (.ref cc)]) hown (own_w hw 1 rfl) (own_w hw 2 rfl) (own_w hw 3 rfl) (own_w hw 4 rfl) (rmCh l Z a0 hw q2 (2 : Int32) h70) e70 (g := (mkF m 97 #[.val (.long q1), .second, .val (.long q2), .second, .val (.int p3), .val (.int p4), .val (.ref cc), .unset, .unset, .unset, .unset, .unset, .unset, .unset, .unset] [(.int (2 : Int32)), (.long q2), (.int (9 : Int32)), (.ref cc)])) rfl (by rw [hml]; rfl) (lenOf own_pd5 rfl) rfl (by show 2 * 0 + _ ≤ _; exact Nat.le_of_eq rfl) (hb hby at_97) (by decide) (by decide) (by decide) (by decide)
  obtain ⟨rfl, e73, rfl⟩ := hQ73
  rw [List.append_nil] at X73
  refine own_st (st73) ?_
  clear st73 X70 e70
  show OFin p e below s _ _ _ (T73.setTop (mkF m 100 #[.val (.long q1), .second, .val (.long q2), .second, .val (.int p3), .val (.int p4), .val (.ref cc), .unset, .unset, .unset, .unset, .unset, .unset, .unset, .unset] [(.int (own_ch q2 (2 : Int32))), (.int (9 : Int32)), (.ref cc)]))
  obtain ⟨cl74, Ar74, q74, S74, N74, H74, G74⟩ := id f71
  have hin74 : ¬ ((9 : Int32) < 0 ∨ cl74.slots.size ≤ ((9 : Int32)).toNatClampNeg) := inb_of S74 ⟨by decide, by decide⟩
  obtain ⟨T74, h74, X74, e74, W74, st74⟩ := stC X73 hx hZ e73 Ar74 (j := (9 : Int32)) hin74 (g := (mkF m 100 #[.val (.long q1), .second, .val (.long q2), .second, .val (.int p3), .val (.int p4), .val (.ref cc), .unset, .unset, .unset, .unset, .unset, .unset, .unset, .unset] [(.int (own_ch q2 (2 : Int32))), (.int (9 : Int32)), (.ref cc)])) rfl rfl (hb hby at_100)
  have f75 := Arv.set Ar74 q74 S74 N74 H74 G74 (fits_nar_char _) W74 9 rfl (Nat.le_of_ble_eq_true rfl)
  have od74 := od70.wr W74 g_cc
  clear od70
  have sz74 : n0 ≤ h74.size := by rw [W74.size]; exact sz70
  clear sz70
  have fr74 := Fr.snoc X74 fr70 g_cc
  clear fr70
  refine own_st (st74) ?_
  clear st74 X73 e73 W74 Ar74 q74 S74 N74 H74 G74 hin74 f71
  show OFin p e below s _ _ _ (T74.setTop (mkF m 101 #[.val (.long q1), .second, .val (.long q2), .second, .val (.int p3), .val (.int p4), .val (.ref cc), .unset, .unset, .unset, .unset, .unset, .unset, .unset, .unset] []))
  refine own_st (fun _ kS => XS.aload X74.here hx rfl (hb hby at_101) rfl rfl kS) ?_
  show OFin p e below s _ _ _ (T74.setTop (mkF m 103 #[.val (.long q1), .second, .val (.long q2), .second, .val (.int p3), .val (.int p4), .val (.ref cc), .unset, .unset, .unset, .unset, .unset, .unset, .unset, .unset] [(.ref cc)]))
  refine own_st (fun _ kS => XS.bipush X74.here hx rfl (hb hby at_103) kS) ?_
  show OFin p e below s _ _ _ (T74.setTop (mkF m 105 #[.val (.long q1), .second, .val (.long q2), .second, .val (.int p3), .val (.int p4), .val (.ref cc), .unset, .unset, .unset, .unset, .unset, .unset, .unset, .unset] [(.int (10 : Int32)), (.ref cc)]))
  refine own_st (fun _ kS => XS.lloadN X74.here hx rfl (hb hby at_105) rfl kS) ?_
  show OFin p e below s _ _ _ (T74.setTop (mkF m 106 #[.val (.long q1), .second, .val (.long q2), .second, .val (.int p3), .val (.int p4), .val (.ref cc), .unset, .unset, .unset, .unset, .unset, .unset, .unset, .unset] [(.long q2), (.int (10 : Int32)), (.ref cc)]))
  refine own_st (fun _ kS => XS.iconst X74.here hx rfl (hb hby at_106) kS) ?_
  show OFin p e below s _ _ _ (T74.setTop (mkF m 107 #[.val (.long q1), .second, .val (.long q2), .second, .val (.int p3), .val (.int p4), .val (.ref cc), .unset, .unset, .unset, .unset, .unset, .unset, .unset, .unset] [(.int (3 : Int32)), (.long q2), (.int (10 : Int32)), (.ref cc)]))
  obtain ⟨v77, T77, L77, X77, hQ77, st77⟩ := own_static X74 hx hZ (y := (⟨"io/countersign/TimestampFormReadDigitsPinLaw", "ch", "(JI)C"⟩ : MethodName)) (rm := ⟨0, 0, 0, 0⟩) (W := 2) (argsL := [(.long q2), (.int (3 : Int32))]) (rest := [(.int (10 : Int32)), (.ref cc)]) hown (own_w hw 1 rfl) (own_w hw 2 rfl) (own_w hw 3 rfl) (own_w hw 4 rfl) (rmCh l Z a0 hw q2 (3 : Int32) h74) e74 (g := (mkF m 107 #[.val (.long q1), .second, .val (.long q2), .second, .val (.int p3), .val (.int p4), .val (.ref cc), .unset, .unset, .unset, .unset, .unset, .unset, .unset, .unset] [(.int (3 : Int32)), (.long q2), (.int (10 : Int32)), (.ref cc)])) rfl (by rw [hml]; rfl) (lenOf own_pd5 rfl) rfl (by show 2 * 0 + _ ≤ _; exact Nat.le_of_eq rfl) (hb hby at_107) (by decide) (by decide) (by decide) (by decide)
  obtain ⟨rfl, e77, rfl⟩ := hQ77
  rw [List.append_nil] at X77
  refine own_st (st77) ?_
  clear st77 X74 e74
  show OFin p e below s _ _ _ (T77.setTop (mkF m 110 #[.val (.long q1), .second, .val (.long q2), .second, .val (.int p3), .val (.int p4), .val (.ref cc), .unset, .unset, .unset, .unset, .unset, .unset, .unset, .unset] [(.int (own_ch q2 (3 : Int32))), (.int (10 : Int32)), (.ref cc)]))
  obtain ⟨cl78, Ar78, q78, S78, N78, H78, G78⟩ := id f75
  have hin78 : ¬ ((10 : Int32) < 0 ∨ cl78.slots.size ≤ ((10 : Int32)).toNatClampNeg) := inb_of S78 ⟨by decide, by decide⟩
  obtain ⟨T78, h78, X78, e78, W78, st78⟩ := stC X77 hx hZ e77 Ar78 (j := (10 : Int32)) hin78 (g := (mkF m 110 #[.val (.long q1), .second, .val (.long q2), .second, .val (.int p3), .val (.int p4), .val (.ref cc), .unset, .unset, .unset, .unset, .unset, .unset, .unset, .unset] [(.int (own_ch q2 (3 : Int32))), (.int (10 : Int32)), (.ref cc)])) rfl rfl (hb hby at_110)
  have f79 := Arv.set Ar78 q78 S78 N78 H78 G78 (fits_nar_char _) W78 10 rfl (Nat.le_of_ble_eq_true rfl)
  have od78 := od74.wr W78 g_cc
  clear od74
  have sz78 : n0 ≤ h78.size := by rw [W78.size]; exact sz74
  clear sz74
  have fr78 := Fr.snoc X78 fr74 g_cc
  clear fr74
  refine own_st (st78) ?_
  clear st78 X77 e77 W78 Ar78 q78 S78 N78 H78 G78 hin78 f75
  show OFin p e below s _ _ _ (T78.setTop (mkF m 111 #[.val (.long q1), .second, .val (.long q2), .second, .val (.int p3), .val (.int p4), .val (.ref cc), .unset, .unset, .unset, .unset, .unset, .unset, .unset, .unset] []))
  refine own_st (fun _ kS => XS.aload X78.here hx rfl (hb hby at_111) rfl rfl kS) ?_
  show OFin p e below s _ _ _ (T78.setTop (mkF m 113 #[.val (.long q1), .second, .val (.long q2), .second, .val (.int p3), .val (.int p4), .val (.ref cc), .unset, .unset, .unset, .unset, .unset, .unset, .unset, .unset] [(.ref cc)]))
  refine own_st (fun _ kS => XS.bipush X78.here hx rfl (hb hby at_113) kS) ?_
  show OFin p e below s _ _ _ (T78.setTop (mkF m 115 #[.val (.long q1), .second, .val (.long q2), .second, .val (.int p3), .val (.int p4), .val (.ref cc), .unset, .unset, .unset, .unset, .unset, .unset, .unset, .unset] [(.int (11 : Int32)), (.ref cc)]))
  refine own_st (fun _ kS => XS.lloadN X78.here hx rfl (hb hby at_115) rfl kS) ?_
  show OFin p e below s _ _ _ (T78.setTop (mkF m 116 #[.val (.long q1), .second, .val (.long q2), .second, .val (.int p3), .val (.int p4), .val (.ref cc), .unset, .unset, .unset, .unset, .unset, .unset, .unset, .unset] [(.long q2), (.int (11 : Int32)), (.ref cc)]))
  refine own_st (fun _ kS => XS.iconst X78.here hx rfl (hb hby at_116) kS) ?_
  show OFin p e below s _ _ _ (T78.setTop (mkF m 117 #[.val (.long q1), .second, .val (.long q2), .second, .val (.int p3), .val (.int p4), .val (.ref cc), .unset, .unset, .unset, .unset, .unset, .unset, .unset, .unset] [(.int (4 : Int32)), (.long q2), (.int (11 : Int32)), (.ref cc)]))
  obtain ⟨v81, T81, L81, X81, hQ81, st81⟩ := own_static X78 hx hZ (y := (⟨"io/countersign/TimestampFormReadDigitsPinLaw", "ch", "(JI)C"⟩ : MethodName)) (rm := ⟨0, 0, 0, 0⟩) (W := 2) (argsL := [(.long q2), (.int (4 : Int32))]) (rest := [(.int (11 : Int32)), (.ref cc)]) hown (own_w hw 1 rfl) (own_w hw 2 rfl) (own_w hw 3 rfl) (own_w hw 4 rfl) (rmCh l Z a0 hw q2 (4 : Int32) h78) e78 (g := (mkF m 117 #[.val (.long q1), .second, .val (.long q2), .second, .val (.int p3), .val (.int p4), .val (.ref cc), .unset, .unset, .unset, .unset, .unset, .unset, .unset, .unset] [(.int (4 : Int32)), (.long q2), (.int (11 : Int32)), (.ref cc)])) rfl (by rw [hml]; rfl) (lenOf own_pd5 rfl) rfl (by show 2 * 0 + _ ≤ _; exact Nat.le_of_eq rfl) (hb hby at_117) (by decide) (by decide) (by decide) (by decide)
  obtain ⟨rfl, e81, rfl⟩ := hQ81
  rw [List.append_nil] at X81
  refine own_st (st81) ?_
  clear st81 X78 e78
  show OFin p e below s _ _ _ (T81.setTop (mkF m 120 #[.val (.long q1), .second, .val (.long q2), .second, .val (.int p3), .val (.int p4), .val (.ref cc), .unset, .unset, .unset, .unset, .unset, .unset, .unset, .unset] [(.int (own_ch q2 (4 : Int32))), (.int (11 : Int32)), (.ref cc)]))
  obtain ⟨cl82, Ar82, q82, S82, N82, H82, G82⟩ := id f79
  have hin82 : ¬ ((11 : Int32) < 0 ∨ cl82.slots.size ≤ ((11 : Int32)).toNatClampNeg) := inb_of S82 ⟨by decide, by decide⟩
  obtain ⟨T82, h82, X82, e82, W82, st82⟩ := stC X81 hx hZ e81 Ar82 (j := (11 : Int32)) hin82 (g := (mkF m 120 #[.val (.long q1), .second, .val (.long q2), .second, .val (.int p3), .val (.int p4), .val (.ref cc), .unset, .unset, .unset, .unset, .unset, .unset, .unset, .unset] [(.int (own_ch q2 (4 : Int32))), (.int (11 : Int32)), (.ref cc)])) rfl rfl (hb hby at_120)
  have f83 := Arv.set Ar82 q82 S82 N82 H82 G82 (fits_nar_char _) W82 11 rfl (Nat.le_of_ble_eq_true rfl)
  have od82 := od78.wr W82 g_cc
  clear od78
  have sz82 : n0 ≤ h82.size := by rw [W82.size]; exact sz78
  clear sz78
  have fr82 := Fr.snoc X82 fr78 g_cc
  clear fr78
  refine own_st (st82) ?_
  clear st82 X81 e81 W82 Ar82 q82 S82 N82 H82 G82 hin82 f79
  show OFin p e below s _ _ _ (T82.setTop (mkF m 121 #[.val (.long q1), .second, .val (.long q2), .second, .val (.int p3), .val (.int p4), .val (.ref cc), .unset, .unset, .unset, .unset, .unset, .unset, .unset, .unset] []))
  have hr : ∀ c ∈ ([nar .char (own_ch q1 (0 : Int32)), nar .char (own_ch q1 (1 : Int32)), nar .char (own_ch q1 (2 : Int32)), nar .char (own_ch q1 (3 : Int32)), nar .char (own_ch q1 (4 : Int32)), nar .char (own_ch q1 (5 : Int32)), nar .char (own_ch q1 (6 : Int32)), nar .char (own_ch q2 (0 : Int32)), nar .char (own_ch q2 (1 : Int32)), nar .char (own_ch q2 (2 : Int32)), nar .char (own_ch q2 (3 : Int32)), nar .char (own_ch q2 (4 : Int32))] : List Int32), ¬ c < 0 ∧ ¬ (255 : Int32) < c := by
    intro c hc
    simp only [List.mem_cons, List.not_mem_nil, or_false] at hc
    rcases hc with rfl | rfl | rfl | rfl | rfl | rfl | rfl | rfl | rfl | rfl | rfl | rfl <;> exact own_nch _ _
  exact own_pB hw hC0 X82 e82 n0 sz82 q1 q2 p3 p4 cc _ [nar .char (own_ch q1 (0 : Int32)), nar .char (own_ch q1 (1 : Int32)), nar .char (own_ch q1 (2 : Int32)), nar .char (own_ch q1 (3 : Int32)), nar .char (own_ch q1 (4 : Int32)), nar .char (own_ch q1 (5 : Int32)), nar .char (own_ch q1 (6 : Int32)), nar .char (own_ch q2 (0 : Int32)), nar .char (own_ch q2 (1 : Int32)), nar .char (own_ch q2 (2 : Int32)), nar .char (own_ch q2 (3 : Int32)), nar .char (own_ch q2 (4 : Int32))] z fm rfl hr S_c hz S_f rf f83 od82 fr82 rfl rfl
set_option maxRecDepth 65536 in
set_option maxHeartbeats 40000000 in
theorem comes_1 {Post : Tables → Env → Array Value → State → Outcome → State → Prop} (hpost : ∀ tb e args s v u, (limb_1_1.after args s (.returned v) u = true ∧ limb_1_2.after args s (.returned v) u = true ∧ True) → FrameEnd s (.returned v) u (Jvm.fieldLocs frame_1_writes args s ++ Jvm.arrayLocs frame_1_arrays args s ++ Jvm.staticLocs frame_1_statics s) 16 192 → Post tb e args s (.returned v) u) :
    ArmFor flags0 classFile x code maxLocals ret World_1 tables_1 room_1 Calls_1 rest_1 Pre_1 Post := by
  intro l hfl _ _ p e ha hc hk s m args below hf hA hF happ hP
  obtain ⟨hcalls, hrest, hpre⟩ := hP
  obtain ⟨-, -, -, hnamed, -, -, -, hat⟩ := (Spec.applies_iff hf).mp happ
  obtain ⟨hg, hn⟩ := and_e (Cond.before_iff.mp (show (Jvm.Cond.and given_1 narrow_1).before args s = true from hpre))
  obtain ⟨gc, hg0⟩ := and_e hg
  obtain ⟨ga0, hg1⟩ := and_e hg0
  obtain ⟨ga1, hg2⟩ := and_e hg1
  obtain ⟨ga2, hg3⟩ := and_e hg2
  obtain ⟨w0, w1, w2, w3, rfl⟩ : ∃ w0 w1 w2 w3 : Value, args = #[w0, w1, w2, w3] := by
    have hs : args.size = 4 := by simpa [Cond.value, given_1] using gc
    obtain ⟨L⟩ := args
    match L, hs with
    | [w0, w1, w2, w3], _ => exact ⟨w0, w1, w2, w3, rfl⟩
  have hw := fun d (hd : d ∈ tables_1) => atoms_spec (ws := Jvm.Cond.code x code maxLocals ret :: tables_1) hat d (List.mem_cons_of_mem _ hd)
  have hfit : Fit s := fun {y c} hc i hi => by
    obtain ⟨ha, rfl⟩ := Array.getElem?_eq_some_iff.mp hc
    have q := List.all_eq_true.mp ((Array.all_eq_true_iff_forall_mem.mp hF) _ (Array.getElem_mem ha)) i (List.mem_range.mpr hi)
    simpa [Array.getElem?_eq_getElem hi] using q
  obtain ⟨i0, ei0⟩ := isL_v ga0
  obtain rfl : w0 = (.long i0) := Option.some.inj ei0
  obtain ⟨i1, ei1⟩ := isL_v ga1
  obtain rfl : w1 = (.long i1) := Option.some.inj ei1
  obtain ⟨i2, ei2⟩ := is_v ga2
  obtain rfl : w2 = (.int i2) := Option.some.inj ei2
  obtain ⟨i3, ei3⟩ := is_v hg3
  obtain rfl : w3 = (.int i3) := Option.some.inj ei3
  obtain ⟨hsets, hown0⟩ := atoms_of _ (rest_1_c_eq ▸ (show rest_1_c.before _ s = true from hrest))
  have n5 := not_v (Cond.before_iff.mp (hsets _ (List.mem_of_getElem? (i := 2) rfl)))
  obtain ⟨zz, e10⟩ := is_v (Cond.before_iff.mp (hsets _ (List.mem_of_getElem? (i := 1) rfl)))
  have S12 : Sta s s.heap "java/lang/String" "COMPACT_STRINGS" "Z" (.int zz) := Sta.start e10 (Or.inl (hsets _ (List.mem_of_getElem? (i := 0) rfl)))
  obtain ⟨v13, e14, r15⟩ := isR_v (Cond.before_iff.mp (hsets _ (List.mem_of_getElem? (i := 8) rfl)))
  have S16 : Sta s s.heap "jdk/internal/util/Preconditions" "SIOOBE_FORMATTER" "Ljava/util/function/BiFunction;" v13 := Sta.start e14 (Or.inl (hsets _ (List.mem_of_getElem? (i := 7) rfl)))
  have c17 : ¬ (zz = (0 : Int32)) := gotF (Cond.eq_ints e10 (Term.int_eval (0))) n5
  obtain ⟨n, o, h1, h2, h3, _, L, rfl, ⟨rfl, N⟩, hq⟩ := rm0 l s _ hw i0 i1 i2 i3 s.heap s.heap.size (Nat.le_refl _) zz v13 S12 c17 S16 r15 (Old.start s) tables_1 p e ha hc hk s m _ below hf ((Spec.applies_iff_loose hf).mp happ).1 ⟨rfl, State.Warmed39.refl s, rfl⟩ trivial
  refine ⟨n, _, h1, h2, h3, hpost _ _ _ _ _ _ ⟨Cond.after_iff.mpr rfl, Cond.after_iff.mpr (eq_i res_at (Term.int_eval (1)) rfl), trivial⟩ ⟨hq.1, hq.2.1, (hq.2.2.sift fun y hy => Or.inr (N y hy)).mono (by decide) (by decide)⟩⟩
theorem main_1_1 : Claimed_1_1 := comes_1 fun _ _ _ _ _ _ h hF => ⟨h.1, hF⟩
theorem main_1_2 : Claimed_1_2 := comes_1 fun _ _ _ _ _ _ h hF => ⟨h.2.1, hF⟩
end Jvm.Pilot.@@N@@
namespace Jvm.Pilot.@@N@@
open Jvm Jvm.ClassFile Sem Op Lib Jvm.Free Jvm.Stand Jvm.Pilot.@@N@@.Jvm.D
/-! MADE BY PROGRAM (witnessworld.py) out of the Statement's table words and the real class files: 20 classes; the members and pool entries that the words name. The judged class is class 1, her method 1. -/
namespace start1
open Jvm.ClassFile
def u (s : String) : CpInfo := .utf8 (stringToUtf16 s)
/-- a pool by its gaps: so many unusable entries, then the entry; so many at the end -/
def gap : Nat → List CpInfo → List CpInfo
  | 0, r => r
  | n + 1, r => .unusable :: gap n r
def poolList (es : List (Nat × CpInfo)) (last : Nat) : List CpInfo := es.foldr (fun e r => gap e.1 (e.2 :: r)) (gap last [])
def pool (es : List (Nat × CpInfo)) (last : Nat) : Array CpInfo := ⟨poolList es last⟩
def fileOf (pool : Array CpInfo) (this : Nat) (attrs : Array Attribute := #[]) (ms : Array MethodInfo := #[]) (fl : Nat := 33) (sup : Nat := 0) (ifs : Array Nat := #[]) (fds : Array FieldInfo := #[]) : ClassFile where
  minorVersion := 0
  majorVersion := 65
  constantPool := pool
  accessFlags := fl
  thisClass := this
  superClass := sup
  interfaces := ifs
  fields := fds
  methods := ms
  attributes := attrs
def plain (name : String) (sup : Option ClassId) : Class where
  name := name
  kind := .ordinary
  loader := none
  accessFlags := 33
  super := sup
  interfaces := #[]
  cf := none
  fields := #[]
  methods := #[]
  instanceTypes := #[]
  staticTypes := #[]
  resolved := #[]
  callSites := []
  init := .initialized
  statics := none
  mirror := none

def pool0 : Array CpInfo := pool [(5, u "<init>"), (0, u "()V"), (1, .class_ 10), (1, u "java/lang/Object")] 113

def k0c0 : Code := { maxStack := 0, maxLocals := 1, code := object_method_1_code, exceptionTable := #[], attributes := #[] }
def k0m0 : Method := { name := "<init>", desc := "()V", sig := { parameters := [], returnType := none }, accessFlags := 1, code := some k0c0 }
/-- java/lang/Object -/
def k0 : Class := { plain "java/lang/Object" none with
  accessFlags := 33
  interfaces := #[]
  cf := some (fileOf pool0 8 #[] #[{ accessFlags := 1, nameIndex := 5, descriptorIndex := 6, attributes := #[] }] 33 0 #[] #[])
  fields := #[]
  methods := #[k0m0]
  instanceTypes := #[]
  staticTypes := #[]
  resolved := Array.replicate 124 none
  statics := none }

def pool1 : Array CpInfo := pool [(2, .class_ 4), (1, u "java/lang/Object"), (0, u "<init>"), (0, u "()V"), (0, .methodref 8 9), (0, .class_ 10), (0, .nameAndType 11 12), (0, u "io/countersign/TimestampFormReadDigitsPinLaw"), (0, u "ch"), (0, u "(JI)C"), (0, .integer 2147483647), (0, .integer 100000), (0, .integer 1000000), (0, .integer 10000000), (0, .integer 100000000), (0, .methodref 8 19), (0, .nameAndType 20 21), (0, u "fine"), (0, u "([CIII)Z"), (0, .methodref 8 23), (0, .nameAndType 24 25), (0, u "term"), (0, u "([CIII[I)J"), (0, .class_ 27), (0, u "java/lang/String"), (0, .methodref 26 29), (0, .nameAndType 5 30), (0, u "([C)V"), (0, .methodref 32 33), (0, .class_ 34), (0, .nameAndType 35 36), (0, u "io/countersign/TimestampForm"), (0, u "readDigits"), (0, u "(Ljava/lang/String;II)I"), (0, .long 255), (3, u "law"), (0, u "(JJII)Z")] 7

def k1m0 : Method := { name := "<init>", desc := "()V", sig := { parameters := [], returnType := none }, accessFlags := 2, code := none }
def k1c1 : Code := { maxStack := 7, maxLocals := 15, code := code, exceptionTable := #[], attributes := #[] }
def k1m1 : Method := { name := "law", desc := "(JJII)Z", sig := { parameters := [.long, .long, .int, .int], returnType := some .boolean }, accessFlags := 9, code := some k1c1 }
def k1c2 : Code := { maxStack := 4, maxLocals := 5, code := method_3_code, exceptionTable := #[], attributes := #[] }
def k1m2 : Method := { name := "ch", desc := "(JI)C", sig := { parameters := [.long, .int], returnType := some .char }, accessFlags := 10, code := some k1c2 }
def k1c3 : Code := { maxStack := 3, maxLocals := 5, code := method_4_code, exceptionTable := #[], attributes := #[] }
def k1m3 : Method := { name := "fine", desc := "([CIII)Z", sig := { parameters := [(.array .char), .int, .int, .int], returnType := some .boolean }, accessFlags := 10, code := some k1c3 }
def k1c4 : Code := { maxStack := 5, maxLocals := 5, code := method_5_code, exceptionTable := #[], attributes := #[] }
def k1m4 : Method := { name := "term", desc := "([CIII[I)J", sig := { parameters := [(.array .char), .int, .int, .int, (.array .int)], returnType := some .long }, accessFlags := 10, code := some k1c4 }
/-- io/countersign/TimestampFormReadDigitsPinLaw -/
def k1 : Class := { plain "io/countersign/TimestampFormReadDigitsPinLaw" (some 0) with
  accessFlags := 49
  interfaces := #[]
  cf := some (fileOf pool1 8 #[] #[{ accessFlags := 2, nameIndex := 5, descriptorIndex := 6, attributes := #[] }, { accessFlags := 9, nameIndex := 41, descriptorIndex := 42, attributes := #[] }, { accessFlags := 10, nameIndex := 11, descriptorIndex := 12, attributes := #[] }, { accessFlags := 10, nameIndex := 20, descriptorIndex := 21, attributes := #[] }, { accessFlags := 10, nameIndex := 24, descriptorIndex := 25, attributes := #[] }] 49 2 #[] #[])
  fields := #[]
  methods := #[k1m0, k1m1, k1m2, k1m3, k1m4]
  instanceTypes := #[]
  staticTypes := #[]
  resolved := Array.replicate 50 none
  statics := none }

def pool2 : Array CpInfo := pool [(1, .class_ 2), (0, u "java/io/Serializable"), (0, .class_ 4), (0, u "java/lang/Object")] 2

/-- java/io/Serializable -/
def k2 : Class := { plain "java/io/Serializable" (some 0) with
  accessFlags := 1537
  interfaces := #[]
  cf := some (fileOf pool2 1 #[] #[] 1537 3 #[] #[])
  fields := #[]
  methods := #[]
  instanceTypes := #[]
  staticTypes := #[]
  resolved := Array.replicate 7 none
  statics := none }

def pool3 : Array CpInfo := pool [(1, .class_ 2), (0, u "java/lang/Comparable"), (0, .class_ 4), (0, u "java/lang/Object")] 7

/-- java/lang/Comparable -/
def k3 : Class := { plain "java/lang/Comparable" (some 0) with
  accessFlags := 1537
  interfaces := #[]
  cf := some (fileOf pool3 1 #[] #[] 1537 3 #[] #[])
  fields := #[]
  methods := #[]
  instanceTypes := #[]
  staticTypes := #[]
  resolved := Array.replicate 12 none
  statics := none }

def pool4 : Array CpInfo := pool [(2, .class_ 4), (1, u "java/lang/CharSequence"), (42, .class_ 48), (0, u "java/lang/CharSequence$1CodePointIterator"), (10, .class_ 60), (0, u "java/lang/CharSequence$1CharIterator"), (5, .class_ 67), (0, u "java/lang/Object")] 63

/-- java/lang/CharSequence -/
def k4 : Class := { plain "java/lang/CharSequence" (some 0) with
  accessFlags := 1537
  interfaces := #[]
  cf := some (fileOf pool4 2 #[.nestMembers #[47, 59]] #[] 1537 66 #[] #[])
  fields := #[]
  methods := #[]
  instanceTypes := #[]
  staticTypes := #[]
  resolved := Array.replicate 131 none
  statics := none }

def pool5 : Array CpInfo := pool [(1, .class_ 2), (0, u "java/lang/constant/Constable"), (0, .class_ 4), (0, u "java/lang/Object")] 6

/-- java/lang/constant/Constable -/
def k5 : Class := { plain "java/lang/constant/Constable" (some 0) with
  accessFlags := 1537
  interfaces := #[]
  cf := some (fileOf pool5 1 #[] #[] 1537 3 #[] #[])
  fields := #[]
  methods := #[]
  instanceTypes := #[]
  staticTypes := #[]
  resolved := Array.replicate 11 none
  statics := none }

def pool6 : Array CpInfo := pool [(1, .class_ 2), (0, u "java/lang/constant/ConstantDesc"), (0, .class_ 4), (0, u "java/lang/Object")] 32

/-- java/lang/constant/ConstantDesc -/
def k6 : Class := { plain "java/lang/constant/ConstantDesc" (some 0) with
  accessFlags := 1537
  interfaces := #[]
  cf := some (fileOf pool6 1 #[] #[] 1537 3 #[] #[])
  fields := #[]
  methods := #[]
  instanceTypes := #[]
  staticTypes := #[]
  resolved := Array.replicate 37 none
  statics := none }

def pool7 : Array CpInfo := pool [(1, .methodref 2 3), (0, .class_ 4), (0, .nameAndType 5 6), (0, u "java/lang/Object"), (0, u "<init>"), (0, u "()V"), (2, .fieldref 10 11), (0, .class_ 12), (0, .nameAndType 13 14), (0, u "java/lang/String"), (0, u "value"), (0, u "[B"), (0, .fieldref 10 16), (0, .nameAndType 17 18), (0, u "coder"), (0, u "B"), (2, u "hash"), (0, u "I"), (2, u "hashIsZero"), (0, u "Z"), (0, .methodref 10 28), (0, .nameAndType 5 29), (0, u "([CIILjava/lang/Void;)V"), (8, .fieldref 10 39), (0, .nameAndType 40 26), (0, u "COMPACT_STRINGS"), (1, .class_ 44), (1, u "java/lang/StringUTF16"), (0, u "compress"), (1, .methodref 42 48), (0, .nameAndType 49 50), (0, u "coderFromArrayLen"), (0, u "([BI)B"), (56, .class_ 109), (1, u "java/lang/StringLatin1"), (32, u "()Z"), (34, .methodref 42 178), (0, .nameAndType 45 179), (0, u "([CII)[B"), (183, u "([BI)C"), (27, u "(II)V"), (35, u "(I)C"), (64, .methodref 10 493), (0, .nameAndType 494 142), (0, u "isLatin1"), (0, .methodref 107 496), (0, .nameAndType 497 363), (0, u "charAt"), (3, u "checkIndex"), (73, .class_ 576), (0, u "java/lang/CharSequence"), (22, u "CASE_INSENSITIVE_ORDER"), (0, u "Ljava/util/Comparator;"), (409, u "([C)V"), (42, .fieldref 1054 1055), (0, .class_ 1056), (0, .nameAndType 1057 1058), (0, u "jdk/internal/util/Preconditions"), (0, u "SIOOBE_FORMATTER"), (0, u "Ljava/util/function/BiFunction;"), (0, .methodref 1054 1060), (0, .nameAndType 501 1061), (0, u "(IILjava/util/function/BiFunction;)I"), (39, u "serialPersistentFields"), (0, u "[Ljava/io/ObjectStreamField;"), (0, .class_ 1104), (0, u "java/lang/String$CaseInsensitiveComparator"), (1, .class_ 1107), (0, u "java/io/Serializable"), (0, .class_ 1109), (0, u "java/lang/Comparable"), (0, .class_ 1111), (0, u "java/lang/constant/Constable"), (0, .class_ 1113), (0, u "java/lang/constant/ConstantDesc"), (2, u "serialVersionUID"), (0, u "J"), (3, u "REPL"), (0, u "C"), (2, u "LATIN1"), (1, u "UTF16")] 323

def k7m0 : Method := { name := "<init>", desc := "()V", sig := { parameters := [], returnType := none }, accessFlags := 1, code := none }
def k7c1 : Code := { maxStack := 5, maxLocals := 2, code := jdk_42_method_3_code, exceptionTable := #[], attributes := #[] }
def k7m1 : Method := { name := "<init>", desc := "([C)V", sig := { parameters := [(.array .char)], returnType := none }, accessFlags := 1, code := some k7c1 }
def k7c2 : Code := { maxStack := 2, maxLocals := 2, code := jdk_42_method_56_code, exceptionTable := #[], attributes := #[] }
def k7m2 : Method := { name := "charAt", desc := "(I)C", sig := { parameters := [.int], returnType := some .char }, accessFlags := 1, code := some k7c2 }
def k7c3 : Code := { maxStack := 4, maxLocals := 6, code := jdk_42_method_149_code, exceptionTable := #[], attributes := #[] }
def k7m3 : Method := { name := "<init>", desc := "([CIILjava/lang/Void;)V", sig := { parameters := [(.array .char), .int, .int, (.object "java/lang/Void")], returnType := none }, accessFlags := 2, code := some k7c3 }
def k7c4 : Code := { maxStack := 1, maxLocals := 1, code := jdk_42_method_154_code, exceptionTable := #[], attributes := #[] }
def k7m4 : Method := { name := "isLatin1", desc := "()Z", sig := { parameters := [], returnType := some .boolean }, accessFlags := 0, code := some k7c4 }
def k7c5 : Code := { maxStack := 3, maxLocals := 2, code := jdk_42_method_155_code, exceptionTable := #[], attributes := #[] }
def k7m5 : Method := { name := "checkIndex", desc := "(II)V", sig := { parameters := [.int, .int], returnType := none }, accessFlags := 8, code := some k7c5 }
/-- java/lang/String -/
def k7 : Class := { plain "java/lang/String" (some 0) with
  accessFlags := 49
  interfaces := #[2, 3, 4, 5, 6]
  cf := some (fileOf pool7 10 #[.nestMembers #[1103]] #[{ accessFlags := 1, nameIndex := 5, descriptorIndex := 6, attributes := #[] }, { accessFlags := 1, nameIndex := 5, descriptorIndex := 1010, attributes := #[] }, { accessFlags := 1, nameIndex := 497, descriptorIndex := 427, attributes := #[] }, { accessFlags := 2, nameIndex := 5, descriptorIndex := 29, attributes := #[] }, { accessFlags := 0, nameIndex := 494, descriptorIndex := 142, attributes := #[] }, { accessFlags := 8, nameIndex := 501, descriptorIndex := 391, attributes := #[] }] 49 2 #[1106, 1108, 575, 1110, 1112] #[{ accessFlags := 18, nameIndex := 13, descriptorIndex := 14, attributes := #[] }, { accessFlags := 18, nameIndex := 17, descriptorIndex := 18, attributes := #[] }, { accessFlags := 2, nameIndex := 21, descriptorIndex := 22, attributes := #[] }, { accessFlags := 2, nameIndex := 25, descriptorIndex := 26, attributes := #[] }, { accessFlags := 26, nameIndex := 1116, descriptorIndex := 1117, attributes := #[] }, { accessFlags := 24, nameIndex := 40, descriptorIndex := 26, attributes := #[] }, { accessFlags := 26, nameIndex := 1101, descriptorIndex := 1102, attributes := #[] }, { accessFlags := 26, nameIndex := 1121, descriptorIndex := 1122, attributes := #[] }, { accessFlags := 25, nameIndex := 599, descriptorIndex := 600, attributes := #[] }, { accessFlags := 24, nameIndex := 1125, descriptorIndex := 18, attributes := #[] }, { accessFlags := 24, nameIndex := 1127, descriptorIndex := 18, attributes := #[] }])
  fields := #[{ name := "value", type := (.array .byte), accessFlags := 18, slot := 0, constantValue := 0 }, { name := "coder", type := .byte, accessFlags := 18, slot := 1, constantValue := 0 }, { name := "hash", type := .int, accessFlags := 2, slot := 2, constantValue := 0 }, { name := "hashIsZero", type := .boolean, accessFlags := 2, slot := 3, constantValue := 0 }, { name := "serialVersionUID", type := .long, accessFlags := 26, slot := 0, constantValue := 0 }, { name := "COMPACT_STRINGS", type := .boolean, accessFlags := 24, slot := 1, constantValue := 0 }, { name := "serialPersistentFields", type := (.array (.object "java/io/ObjectStreamField")), accessFlags := 26, slot := 2, constantValue := 0 }, { name := "REPL", type := .char, accessFlags := 26, slot := 3, constantValue := 0 }, { name := "CASE_INSENSITIVE_ORDER", type := (.object "java/util/Comparator"), accessFlags := 25, slot := 4, constantValue := 0 }, { name := "LATIN1", type := .byte, accessFlags := 24, slot := 5, constantValue := 0 }, { name := "UTF16", type := .byte, accessFlags := 24, slot := 6, constantValue := 0 }]
  methods := #[k7m0, k7m1, k7m2, k7m3, k7m4, k7m5]
  instanceTypes := #[(.array .byte), .byte, .int, .boolean]
  staticTypes := #[.long, .boolean, (.array (.object "java/io/ObjectStreamField")), .char, (.object "java/util/Comparator"), .byte, .byte]
  resolved := Array.replicate 1451 none
  statics := some 0 }

def pool8 : Array CpInfo := pool [(6, .class_ 8), (1, u "java/lang/Object"), (0, u "<init>"), (0, u "()V"), (1, .class_ 14), (1, u "java/lang/StringUTF16"), (31, u "$assertionsDisabled"), (0, u "Z"), (13, u "HI_BYTE_SHIFT"), (0, u "I"), (2, u "LO_BYTE_SHIFT"), (49, .methodref 12 116), (0, .nameAndType 117 118), (0, u "compress"), (0, u "([CI[BII)I"), (3, u "([CII)[B"), (138, u "coderFromArrayLen"), (0, u "([BI)B"), (106, .class_ 371), (1, u "java/lang/StringUTF16$LinesSpliterator"), (58, u "MAX_LENGTH"), (196, .class_ 628), (0, u "java/lang/StringUTF16$CodePointsSpliterator"), (0, .class_ 630), (0, u "java/lang/StringUTF16$CharsSpliterator")] 4

def k8m0 : Method := { name := "<init>", desc := "()V", sig := { parameters := [], returnType := none }, accessFlags := 0, code := none }
def k8c1 : Code := { maxStack := 2, maxLocals := 2, code := jdk_52_method_15_code, exceptionTable := #[], attributes := #[] }
def k8m1 : Method := { name := "coderFromArrayLen", desc := "([BI)B", sig := { parameters := [(.array .byte), .int], returnType := some .byte }, accessFlags := 8, code := some k8c1 }
def k8c2 : Code := { maxStack := 5, maxLocals := 6, code := jdk_52_method_16_code, exceptionTable := #[], attributes := #[] }
def k8m2 : Method := { name := "compress", desc := "([CII)[B", sig := { parameters := [(.array .char), .int, .int], returnType := some (.array .byte) }, accessFlags := 9, code := some k8c2 }
def k8c3 : Code := { maxStack := 3, maxLocals := 7, code := jdk_52_method_21_code, exceptionTable := #[], attributes := #[] }
def k8m3 : Method := { name := "compress", desc := "([CI[BII)I", sig := { parameters := [(.array .char), .int, (.array .byte), .int, .int], returnType := some .int }, accessFlags := 9, code := some k8c3 }
/-- java/lang/StringUTF16 -/
def k8 : Class := { plain "java/lang/StringUTF16" (some 0) with
  accessFlags := 48
  interfaces := #[]
  cf := some (fileOf pool8 12 #[.nestMembers #[627, 629, 369]] #[{ accessFlags := 0, nameIndex := 9, descriptorIndex := 10, attributes := #[] }, { accessFlags := 8, nameIndex := 261, descriptorIndex := 262, attributes := #[] }, { accessFlags := 9, nameIndex := 117, descriptorIndex := 122, attributes := #[] }, { accessFlags := 9, nameIndex := 117, descriptorIndex := 118, attributes := #[] }] 48 6 #[] #[{ accessFlags := 26, nameIndex := 61, descriptorIndex := 62, attributes := #[] }, { accessFlags := 26, nameIndex := 65, descriptorIndex := 62, attributes := #[] }, { accessFlags := 24, nameIndex := 430, descriptorIndex := 62, attributes := #[] }, { accessFlags := 4120, nameIndex := 46, descriptorIndex := 47, attributes := #[] }])
  fields := #[{ name := "HI_BYTE_SHIFT", type := .int, accessFlags := 26, slot := 0, constantValue := 0 }, { name := "LO_BYTE_SHIFT", type := .int, accessFlags := 26, slot := 1, constantValue := 0 }, { name := "MAX_LENGTH", type := .int, accessFlags := 24, slot := 2, constantValue := 0 }, { name := "$assertionsDisabled", type := .boolean, accessFlags := 4120, slot := 3, constantValue := 0 }]
  methods := #[k8m0, k8m1, k8m2, k8m3]
  instanceTypes := #[]
  staticTypes := #[.int, .int, .int, .boolean]
  resolved := Array.replicate 635 none
  statics := none }

def pool9 : Array CpInfo := pool [(3, .class_ 4), (0, u "io/countersign/TimestampForm"), (1, .class_ 8), (1, u "java/lang/Object"), (3, u "form"), (6, .class_ 20), (0, u "java/lang/String"), (2, u "Ljava/lang/String;"), (24, u "literals"), (0, u "[I"), (2, u "literalCharacters"), (0, u "[C"), (0, .methodref 19 55), (0, .nameAndType 56 57), (0, u "charAt"), (0, u "(I)C"), (41, u "DAYS_BEFORE_MONTH"), (2, u "DAYS_BEFORE_1970"), (0, u "J"), (2, u "NOT_A_TIME"), (1, u "MONTHS_PER_YEAR"), (0, u "I"), (1, u "HOURS_PER_DAY"), (1, u "MINUTES_PER_HOUR"), (1, u "SECONDS_PER_MINUTE"), (0, u "SECONDS_PER_DAY"), (1, u "LAST_YEAR"), (1, u "DAYS_PER_YEAR"), (9, u "readDigits"), (0, u "(Ljava/lang/String;II)I")] 28

def k9c0 : Code := { maxStack := 3, maxLocals := 6, code := prog_24_method_4_code, exceptionTable := #[], attributes := #[] }
def k9m0 : Method := { name := "readDigits", desc := "(Ljava/lang/String;II)I", sig := { parameters := [(.object "java/lang/String"), .int, .int], returnType := some .int }, accessFlags := 9, code := some k9c0 }
/-- io/countersign/TimestampForm -/
def k9 : Class := { plain "io/countersign/TimestampForm" (some 0) with
  accessFlags := 49
  interfaces := #[]
  cf := some (fileOf pool9 3 #[] #[{ accessFlags := 9, nameIndex := 130, descriptorIndex := 131, attributes := #[] }] 49 6 #[] #[{ accessFlags := 25, nameIndex := 106, descriptorIndex := 103, attributes := #[] }, { accessFlags := 26, nameIndex := 108, descriptorIndex := 109, attributes := #[] }, { accessFlags := 26, nameIndex := 111, descriptorIndex := 109, attributes := #[] }, { accessFlags := 26, nameIndex := 113, descriptorIndex := 109, attributes := #[] }, { accessFlags := 26, nameIndex := 115, descriptorIndex := 109, attributes := #[] }, { accessFlags := 26, nameIndex := 116, descriptorIndex := 109, attributes := #[] }, { accessFlags := 26, nameIndex := 118, descriptorIndex := 109, attributes := #[] }, { accessFlags := 26, nameIndex := 120, descriptorIndex := 109, attributes := #[] }, { accessFlags := 26, nameIndex := 99, descriptorIndex := 49, attributes := #[] }, { accessFlags := 26, nameIndex := 102, descriptorIndex := 103, attributes := #[] }, { accessFlags := 18, nameIndex := 12, descriptorIndex := 23, attributes := #[] }, { accessFlags := 18, nameIndex := 48, descriptorIndex := 49, attributes := #[] }, { accessFlags := 18, nameIndex := 52, descriptorIndex := 53, attributes := #[] }])
  fields := #[{ name := "NOT_A_TIME", type := .long, accessFlags := 25, slot := 0, constantValue := 0 }, { name := "MONTHS_PER_YEAR", type := .int, accessFlags := 26, slot := 1, constantValue := 0 }, { name := "HOURS_PER_DAY", type := .int, accessFlags := 26, slot := 2, constantValue := 0 }, { name := "MINUTES_PER_HOUR", type := .int, accessFlags := 26, slot := 3, constantValue := 0 }, { name := "SECONDS_PER_MINUTE", type := .int, accessFlags := 26, slot := 4, constantValue := 0 }, { name := "SECONDS_PER_DAY", type := .int, accessFlags := 26, slot := 5, constantValue := 0 }, { name := "LAST_YEAR", type := .int, accessFlags := 26, slot := 6, constantValue := 0 }, { name := "DAYS_PER_YEAR", type := .int, accessFlags := 26, slot := 7, constantValue := 0 }, { name := "DAYS_BEFORE_MONTH", type := (.array .int), accessFlags := 26, slot := 8, constantValue := 0 }, { name := "DAYS_BEFORE_1970", type := .long, accessFlags := 26, slot := 9, constantValue := 0 }, { name := "form", type := (.object "java/lang/String"), accessFlags := 18, slot := 0, constantValue := 0 }, { name := "literals", type := (.array .int), accessFlags := 18, slot := 1, constantValue := 0 }, { name := "literalCharacters", type := (.array .char), accessFlags := 18, slot := 2, constantValue := 0 }]
  methods := #[k9m0]
  instanceTypes := #[(.object "java/lang/String"), (.array .int), (.array .char)]
  staticTypes := #[.long, .int, .int, .int, .int, .int, .int, .int, (.array .int), .long]
  resolved := Array.replicate 160 none
  statics := none }

def pool10 : Array CpInfo := pool [(1, .class_ 2), (0, u "java/lang/String"), (1, .class_ 6), (1, u "java/lang/Object"), (0, u "<init>"), (0, u "()V"), (0, .methodref 1 10), (0, .nameAndType 11 12), (0, u "checkIndex"), (0, u "(II)V"), (1, .class_ 16), (1, u "java/lang/StringLatin1"), (36, u "([BI)C"), (67, u "$assertionsDisabled"), (0, u "Z"), (98, .class_ 223), (1, u "java/lang/StringLatin1$LinesSpliterator"), (28, u "charAt"), (137, .class_ 391), (0, u "java/lang/StringLatin1$CharsSpliterator")] 3

def k10m0 : Method := { name := "<init>", desc := "()V", sig := { parameters := [], returnType := none }, accessFlags := 0, code := none }
def k10c1 : Code := { maxStack := 2, maxLocals := 2, code := jdk_43_method_2_code, exceptionTable := #[], attributes := #[] }
def k10m1 : Method := { name := "charAt", desc := "([BI)C", sig := { parameters := [(.array .byte), .int], returnType := some .char }, accessFlags := 9, code := some k10c1 }
/-- java/lang/StringLatin1 -/
def k10 : Class := { plain "java/lang/StringLatin1" (some 0) with
  accessFlags := 48
  interfaces := #[]
  cf := some (fileOf pool10 14 #[.nestMembers #[390, 221]] #[{ accessFlags := 0, nameIndex := 7, descriptorIndex := 8, attributes := #[] }, { accessFlags := 9, nameIndex := 252, descriptorIndex := 53, attributes := #[] }] 48 4 #[] #[{ accessFlags := 4120, nameIndex := 121, descriptorIndex := 122, attributes := #[] }])
  fields := #[{ name := "$assertionsDisabled", type := .boolean, accessFlags := 4120, slot := 0, constantValue := 0 }]
  methods := #[k10m0, k10m1]
  instanceTypes := #[]
  staticTypes := #[.boolean]
  resolved := Array.replicate 395 none
  statics := none }

def pool11 : Array CpInfo := pool [(2, .class_ 4), (1, u "java/lang/Object"), (0, u "<init>"), (0, u "()V"), (17, .class_ 26), (1, u "jdk/internal/util/Preconditions"), (6, u "checkIndex"), (21, .class_ 56), (0, u "jdk/internal/util/Preconditions$4"), (57, .class_ 115), (0, u "jdk/internal/util/Preconditions$1"), (7, u "SIOOBE_FORMATTER"), (0, u "Ljava/util/function/BiFunction;"), (0, .class_ 126), (0, u "jdk/internal/util/Preconditions$2"), (3, u "AIOOBE_FORMATTER"), (0, .class_ 132), (0, u "jdk/internal/util/Preconditions$3"), (3, u "IOOBE_FORMATTER"), (41, u "(IILjava/util/function/BiFunction;)I")] 15

def k11m0 : Method := { name := "<init>", desc := "()V", sig := { parameters := [], returnType := none }, accessFlags := 1, code := none }
def k11c1 : Code := { maxStack := 3, maxLocals := 3, code := jdk_41_method_11_code, exceptionTable := #[], attributes := #[] }
def k11m1 : Method := { name := "checkIndex", desc := "(IILjava/util/function/BiFunction;)I", sig := { parameters := [.int, .int, (.object "java/util/function/BiFunction")], returnType := some .int }, accessFlags := 9, code := some k11c1 }
/-- jdk/internal/util/Preconditions -/
def k11 : Class := { plain "jdk/internal/util/Preconditions" (some 0) with
  accessFlags := 33
  interfaces := #[]
  cf := some (fileOf pool11 24 #[.nestMembers #[55, 131, 125, 114]] #[{ accessFlags := 1, nameIndex := 5, descriptorIndex := 6, attributes := #[] }, { accessFlags := 9, nameIndex := 33, descriptorIndex := 178, attributes := #[] }] 33 2 #[] #[{ accessFlags := 25, nameIndex := 123, descriptorIndex := 124, attributes := #[] }, { accessFlags := 25, nameIndex := 130, descriptorIndex := 124, attributes := #[] }, { accessFlags := 25, nameIndex := 136, descriptorIndex := 124, attributes := #[] }])
  fields := #[{ name := "SIOOBE_FORMATTER", type := (.object "java/util/function/BiFunction"), accessFlags := 25, slot := 0, constantValue := 0 }, { name := "AIOOBE_FORMATTER", type := (.object "java/util/function/BiFunction"), accessFlags := 25, slot := 1, constantValue := 0 }, { name := "IOOBE_FORMATTER", type := (.object "java/util/function/BiFunction"), accessFlags := 25, slot := 2, constantValue := 0 }]
  methods := #[k11m0, k11m1]
  instanceTypes := #[]
  staticTypes := #[(.object "java/util/function/BiFunction"), (.object "java/util/function/BiFunction"), (.object "java/util/function/BiFunction")]
  resolved := Array.replicate 194 none
  statics := some 1 }

def pool12 : Array CpInfo := pool [(9, u "<init>"), (6, .class_ 18), (1, u "java/lang/Object"), (0, u "()V"), (1, .class_ 23), (1, u "jdk/internal/util/ArraysSupport"), (0, u "LOG2_ARRAY_LONG_INDEX_SCALE"), (0, u "I"), (2, u "U"), (0, u "Ljdk/internal/misc/Unsafe;"), (8, u "BIG_ENDIAN"), (0, u "Z"), (8, u "LOG2_BYTE_BIT_SIZE"), (4, u "LOG2_ARRAY_INT_INDEX_SCALE"), (54, u "JLA"), (0, u "Ljdk/internal/access/JavaLangAccess;"), (11, u "LOG2_ARRAY_BOOLEAN_INDEX_SCALE"), (9, u "LOG2_ARRAY_BYTE_INDEX_SCALE"), (5, u "LOG2_ARRAY_CHAR_INDEX_SCALE"), (5, u "LOG2_ARRAY_SHORT_INDEX_SCALE"), (18, u "LOG2_ARRAY_FLOAT_INDEX_SCALE"), (24, u "LOG2_ARRAY_DOUBLE_INDEX_SCALE"), (89, u "T_BOOLEAN"), (2, u "T_CHAR"), (1, u "T_FLOAT"), (1, u "T_DOUBLE"), (1, u "T_BYTE"), (1, u "T_SHORT"), (1, u "T_INT"), (1, u "T_LONG"), (1, u "SOFT_MAX_ARRAY_LENGTH")] 83

def k12m0 : Method := { name := "<init>", desc := "()V", sig := { parameters := [], returnType := none }, accessFlags := 2, code := none }
/-- jdk/internal/util/ArraysSupport -/
def k12 : Class := { plain "jdk/internal/util/ArraysSupport" (some 0) with
  accessFlags := 33
  interfaces := #[]
  cf := some (fileOf pool12 21 #[] #[{ accessFlags := 2, nameIndex := 9, descriptorIndex := 19, attributes := #[] }] 33 16 #[] #[{ accessFlags := 24, nameIndex := 28, descriptorIndex := 29, attributes := #[] }, { accessFlags := 26, nameIndex := 38, descriptorIndex := 39, attributes := #[] }, { accessFlags := 25, nameIndex := 121, descriptorIndex := 25, attributes := #[] }, { accessFlags := 25, nameIndex := 131, descriptorIndex := 25, attributes := #[] }, { accessFlags := 25, nameIndex := 137, descriptorIndex := 25, attributes := #[] }, { accessFlags := 25, nameIndex := 143, descriptorIndex := 25, attributes := #[] }, { accessFlags := 25, nameIndex := 53, descriptorIndex := 25, attributes := #[] }, { accessFlags := 25, nameIndex := 24, descriptorIndex := 25, attributes := #[] }, { accessFlags := 25, nameIndex := 162, descriptorIndex := 25, attributes := #[] }, { accessFlags := 25, nameIndex := 187, descriptorIndex := 25, attributes := #[] }, { accessFlags := 26, nameIndex := 48, descriptorIndex := 25, attributes := #[] }, { accessFlags := 25, nameIndex := 277, descriptorIndex := 25, attributes := #[] }, { accessFlags := 25, nameIndex := 280, descriptorIndex := 25, attributes := #[] }, { accessFlags := 25, nameIndex := 282, descriptorIndex := 25, attributes := #[] }, { accessFlags := 25, nameIndex := 284, descriptorIndex := 25, attributes := #[] }, { accessFlags := 25, nameIndex := 286, descriptorIndex := 25, attributes := #[] }, { accessFlags := 25, nameIndex := 288, descriptorIndex := 25, attributes := #[] }, { accessFlags := 25, nameIndex := 290, descriptorIndex := 25, attributes := #[] }, { accessFlags := 25, nameIndex := 292, descriptorIndex := 25, attributes := #[] }, { accessFlags := 26, nameIndex := 108, descriptorIndex := 109, attributes := #[] }, { accessFlags := 25, nameIndex := 294, descriptorIndex := 25, attributes := #[] }])
  fields := #[{ name := "U", type := (.object "jdk/internal/misc/Unsafe"), accessFlags := 24, slot := 0, constantValue := 0 }, { name := "BIG_ENDIAN", type := .boolean, accessFlags := 26, slot := 1, constantValue := 0 }, { name := "LOG2_ARRAY_BOOLEAN_INDEX_SCALE", type := .int, accessFlags := 25, slot := 2, constantValue := 0 }, { name := "LOG2_ARRAY_BYTE_INDEX_SCALE", type := .int, accessFlags := 25, slot := 3, constantValue := 0 }, { name := "LOG2_ARRAY_CHAR_INDEX_SCALE", type := .int, accessFlags := 25, slot := 4, constantValue := 0 }, { name := "LOG2_ARRAY_SHORT_INDEX_SCALE", type := .int, accessFlags := 25, slot := 5, constantValue := 0 }, { name := "LOG2_ARRAY_INT_INDEX_SCALE", type := .int, accessFlags := 25, slot := 6, constantValue := 0 }, { name := "LOG2_ARRAY_LONG_INDEX_SCALE", type := .int, accessFlags := 25, slot := 7, constantValue := 0 }, { name := "LOG2_ARRAY_FLOAT_INDEX_SCALE", type := .int, accessFlags := 25, slot := 8, constantValue := 0 }, { name := "LOG2_ARRAY_DOUBLE_INDEX_SCALE", type := .int, accessFlags := 25, slot := 9, constantValue := 0 }, { name := "LOG2_BYTE_BIT_SIZE", type := .int, accessFlags := 26, slot := 10, constantValue := 0 }, { name := "T_BOOLEAN", type := .int, accessFlags := 25, slot := 11, constantValue := 0 }, { name := "T_CHAR", type := .int, accessFlags := 25, slot := 12, constantValue := 0 }, { name := "T_FLOAT", type := .int, accessFlags := 25, slot := 13, constantValue := 0 }, { name := "T_DOUBLE", type := .int, accessFlags := 25, slot := 14, constantValue := 0 }, { name := "T_BYTE", type := .int, accessFlags := 25, slot := 15, constantValue := 0 }, { name := "T_SHORT", type := .int, accessFlags := 25, slot := 16, constantValue := 0 }, { name := "T_INT", type := .int, accessFlags := 25, slot := 17, constantValue := 0 }, { name := "T_LONG", type := .int, accessFlags := 25, slot := 18, constantValue := 0 }, { name := "JLA", type := (.object "jdk/internal/access/JavaLangAccess"), accessFlags := 26, slot := 19, constantValue := 0 }, { name := "SOFT_MAX_ARRAY_LENGTH", type := .int, accessFlags := 25, slot := 20, constantValue := 0 }]
  methods := #[k12m0]
  instanceTypes := #[]
  staticTypes := #[(.object "jdk/internal/misc/Unsafe"), .boolean, .int, .int, .int, .int, .int, .int, .int, .int, .int, .int, .int, .int, .int, .int, .int, .int, .int, (.object "jdk/internal/access/JavaLangAccess"), .int]
  resolved := Array.replicate 378 none
  statics := none }

def pool13 : Array CpInfo := pool [(1, u "java/lang/Cloneable"), (0, .class_ 1), (0, u "java/lang/Object"), (0, .class_ 3)] 3

/-- java/lang/Cloneable -/
def k13 : Class := { plain "java/lang/Cloneable" (some 0) with
  accessFlags := 1537
  interfaces := #[]
  cf := some (fileOf pool13 2 #[] #[] 1537 4 #[] #[])
  fields := #[]
  methods := #[]
  instanceTypes := #[]
  staticTypes := #[]
  resolved := Array.replicate 8 none
  statics := none }

/-- the primitive byte -/
def k14 : Class := { plain "byte" none with kind := .primitive 'B', accessFlags := 0x411 }
/-- [B -/
def k15 : Class := { plain "[B" (some 0) with kind := .array 14 .byte, interfaces := #[13, 2], accessFlags := 1041 }

/-- the primitive char -/
def k16 : Class := { plain "char" none with kind := .primitive 'C', accessFlags := 0x411 }
/-- [C -/
def k17 : Class := { plain "[C" (some 0) with kind := .array 16 .char, interfaces := #[13, 2], accessFlags := 1041 }

/-- the primitive int -/
def k18 : Class := { plain "int" none with kind := .primitive 'I', accessFlags := 0x411 }
/-- [I -/
def k19 : Class := { plain "[I" (some 0) with kind := .array 18 .int, interfaces := #[13, 2], accessFlags := 1041 }

def heap : Heap := #[{ cls := 7, slots := #[.long 0, .int 1, .null, .int 0, .null, .int 0, .int 0], vm := .statics 7 },
  { cls := 11, slots := #[.null, .null, .null], vm := .statics 11 }]
def classes : Array Class := #[k0, k1, k2, k3, k4, k5, k6, k7, k8, k9, k10, k11, k12, k13, k14, k15, k16, k17, k18, k19]
def interned : List (Array UInt16 × Addr) := []
def slotsUsed : Nat := 10
def theMethod : MethodId := ⟨1, 1⟩
def args0 : Array Value := #[.long 5, .long 7, .int 3, .int 9]
def aboutOver (below : List Frame) : State where
  vm := { classes := classes, interned := interned.toArray }
  heap := heap
  slotsUsed := slotsUsed
  threads := #[{ frames := .invoking theMethod args0 :: below }]
def below0 : List Frame := [.native { method := ⟨0, 0⟩, args := #[] }]
def about1 : State := aboutOver below0
def p0 : Program := .bare "" "" ""
def e0 : Env := launch0.env 0 0 0
theorem w_frames : about1.frames = Frame.invoking theMethod args0 :: below0 := rfl
set_option maxRecDepth 65536 in
theorem w_args : argsFit about1.vm theMethod args0 = true := by decide +kernel
set_option maxRecDepth 65536 in
theorem w_heap : heapFits about1 = true := by decide +kernel
set_option maxRecDepth 65536 in
theorem w_runnable : about1.curStatus? = some .runnable := by decide +kernel
set_option maxRecDepth 65536 in
theorem w_alone : about1.alone = true := by decide +kernel
set_option maxRecDepth 65536 in
theorem w_named : about1.methodNamed? x = some theMethod := by decide +kernel
set_option maxRecDepth 65536 in
theorem w_hears : about1.hears theMethod below0 = true := by decide +kernel
set_option maxRecDepth 65536 in
theorem w_ripe : about1.ripe theMethod args0 below0 = true := by decide +kernel
theorem w_running : about1.status = .running := rfl
set_option maxRecDepth 65536 in
theorem w_room : about1.hasRoom e0.platform room_1 = true :=
  launch0.hasRoom_least _ room_1 (by decide +kernel) (by decide +kernel) (by decide +kernel) (by decide +kernel) (by decide +kernel) (by decide +kernel)
theorem allAtoms_all (ts : List Jvm.Cond) (a : Array Jvm.Value) (st : Jvm.State) : (allAtoms ts).before a st = ts.all (fun c => c.before a st) := by
  induction ts with
  | nil => rfl
  | cons c t ih =>
    show (Jvm.Cond.and c (allAtoms t)).before a st = _
    rw [Jvm.Cond.before_and, ih, List.all_cons]
def words1 : List Jvm.Cond := Jvm.Cond.code x code maxLocals ret :: tables_1
/-- a 'code' word, met by the world's own term for the bytes: nothing is compared byte by byte -/
theorem code_word {y : MethodName} {bytes : ByteArray} {mx : Nat} {rt : Option FieldType} {a : Array Value} {s : State} {m : MethodId} {meth : Method} {c : Code} (h1 : s.methodNamed? y = some m) (h2 : s.vm.method? m = some meth) (h3 : meth.code = some c) (h4 : c.code = bytes)
    (h5 : (c.maxLocals == mx && c.exceptionTable.isEmpty && decide (c.maxStack ≤ mostOperands) && decide (meth.sig.returnType = rt) && !meth.locks && decide (parseMethodDescriptor y.desc = some meth.sig)) = true) : (Jvm.Cond.code y bytes mx rt).before a s = true := by
  simp only [Bool.and_eq_true, beq_iff_eq, Bool.not_eq_true', decide_eq_true_eq] at h5
  obtain ⟨⟨⟨⟨⟨g1, g2⟩, g3⟩, g4⟩, g5⟩, g6⟩ := h5
  simp [Cond.before, Cond.holds, Cond.value, h1, h2, h3, h4, g1, g2, g3, g4, g5, g6]
def isCode : Jvm.Cond → Bool
  | .code _ _ _ _ => true
  | _ => false
theorem all_split {L : List Jvm.Cond} {P : Jvm.Cond → Bool} (h1 : L.all (fun c => isCode c || P c) = true) (h2 : ∀ c ∈ L.filter isCode, P c = true) : L.all P = true := by
  refine List.all_eq_true.mpr fun c hc => ?_
  have h := List.all_eq_true.mp h1 c hc
  rcases Bool.eq_false_or_eq_true (isCode c) with hi | hi
  · exact h2 c (List.mem_filter.mpr ⟨hc, hi⟩)
  · simpa [hi] using h
set_option maxRecDepth 65536 in
theorem w_c0 : (Jvm.Cond.code x code maxLocals ret).before args0 about1 = true := code_word (m := ⟨1, 1⟩) (meth := k1m1) (c := k1c1) (by decide +kernel) rfl rfl rfl (by decide +kernel)
set_option maxRecDepth 65536 in
theorem w_c1 : (Jvm.Cond.code ({ cls := "io/countersign/TimestampFormReadDigitsPinLaw", name := "ch", desc := "(JI)C" } : Jvm.MethodName) method_3_code (5 : Nat) (Option.some Jvm.ClassFile.FieldType.char)).before args0 about1 = true := code_word (m := ⟨1, 2⟩) (meth := k1m2) (c := k1c2) (by decide +kernel) rfl rfl rfl (by decide +kernel)
set_option maxRecDepth 65536 in
theorem w_c2 : (Jvm.Cond.code ({ cls := "io/countersign/TimestampFormReadDigitsPinLaw", name := "fine", desc := "([CIII)Z" } : Jvm.MethodName) method_4_code (5 : Nat) (Option.some Jvm.ClassFile.FieldType.boolean)).before args0 about1 = true := code_word (m := ⟨1, 3⟩) (meth := k1m3) (c := k1c3) (by decide +kernel) rfl rfl rfl (by decide +kernel)
set_option maxRecDepth 65536 in
theorem w_c3 : (Jvm.Cond.code ({ cls := "io/countersign/TimestampFormReadDigitsPinLaw", name := "term", desc := "([CIII[I)J" } : Jvm.MethodName) method_5_code (5 : Nat) (Option.some Jvm.ClassFile.FieldType.long)).before args0 about1 = true := code_word (m := ⟨1, 4⟩) (meth := k1m4) (c := k1c4) (by decide +kernel) rfl rfl rfl (by decide +kernel)
set_option maxRecDepth 65536 in
theorem w_c4 : (Jvm.Cond.code ({ cls := "java/lang/String", name := "<init>", desc := "([C)V" } : Jvm.MethodName) jdk_42_method_3_code (2 : Nat) (Option.none : Option Jvm.ClassFile.FieldType)).before args0 about1 = true := code_word (m := ⟨7, 1⟩) (meth := k7m1) (c := k7c1) (by decide +kernel) rfl rfl rfl (by decide +kernel)
set_option maxRecDepth 65536 in
theorem w_c5 : (Jvm.Cond.code ({ cls := "java/lang/String", name := "<init>", desc := "([CIILjava/lang/Void;)V" } : Jvm.MethodName) jdk_42_method_149_code (6 : Nat) (Option.none : Option Jvm.ClassFile.FieldType)).before args0 about1 = true := code_word (m := ⟨7, 3⟩) (meth := k7m3) (c := k7c3) (by decide +kernel) rfl rfl rfl (by decide +kernel)
set_option maxRecDepth 65536 in
theorem w_c6 : (Jvm.Cond.code ({ cls := "java/lang/Object", name := "<init>", desc := "()V" } : Jvm.MethodName) object_method_1_code (1 : Nat) (Option.none : Option Jvm.ClassFile.FieldType)).before args0 about1 = true := code_word (m := ⟨0, 0⟩) (meth := k0m0) (c := k0c0) (by decide +kernel) rfl rfl rfl (by decide +kernel)
set_option maxRecDepth 65536 in
theorem w_c7 : (Jvm.Cond.code ({ cls := "java/lang/StringUTF16", name := "compress", desc := "([CII)[B" } : Jvm.MethodName) jdk_52_method_16_code (6 : Nat) (Option.some (Jvm.ClassFile.FieldType.array Jvm.ClassFile.FieldType.byte))).before args0 about1 = true := code_word (m := ⟨8, 2⟩) (meth := k8m2) (c := k8c2) (by decide +kernel) rfl rfl rfl (by decide +kernel)
set_option maxRecDepth 65536 in
theorem w_c8 : (Jvm.Cond.code ({ cls := "java/lang/StringUTF16", name := "compress", desc := "([CI[BII)I" } : Jvm.MethodName) jdk_52_method_21_code (7 : Nat) (Option.some Jvm.ClassFile.FieldType.int)).before args0 about1 = true := code_word (m := ⟨8, 3⟩) (meth := k8m3) (c := k8c3) (by decide +kernel) rfl rfl rfl (by decide +kernel)
set_option maxRecDepth 65536 in
theorem w_c9 : (Jvm.Cond.code ({ cls := "java/lang/StringUTF16", name := "coderFromArrayLen", desc := "([BI)B" } : Jvm.MethodName) jdk_52_method_15_code (2 : Nat) (Option.some Jvm.ClassFile.FieldType.byte)).before args0 about1 = true := code_word (m := ⟨8, 1⟩) (meth := k8m1) (c := k8c1) (by decide +kernel) rfl rfl rfl (by decide +kernel)
set_option maxRecDepth 65536 in
theorem w_c10 : (Jvm.Cond.code ({ cls := "io/countersign/TimestampForm", name := "readDigits", desc := "(Ljava/lang/String;II)I" } : Jvm.MethodName) prog_24_method_4_code (6 : Nat) (Option.some Jvm.ClassFile.FieldType.int)).before args0 about1 = true := code_word (m := ⟨9, 0⟩) (meth := k9m0) (c := k9c0) (by decide +kernel) rfl rfl rfl (by decide +kernel)
set_option maxRecDepth 65536 in
theorem w_c11 : (Jvm.Cond.code ({ cls := "java/lang/String", name := "charAt", desc := "(I)C" } : Jvm.MethodName) jdk_42_method_56_code (2 : Nat) (Option.some Jvm.ClassFile.FieldType.char)).before args0 about1 = true := code_word (m := ⟨7, 2⟩) (meth := k7m2) (c := k7c2) (by decide +kernel) rfl rfl rfl (by decide +kernel)
set_option maxRecDepth 65536 in
theorem w_c12 : (Jvm.Cond.code ({ cls := "java/lang/String", name := "isLatin1", desc := "()Z" } : Jvm.MethodName) jdk_42_method_154_code (1 : Nat) (Option.some Jvm.ClassFile.FieldType.boolean)).before args0 about1 = true := code_word (m := ⟨7, 4⟩) (meth := k7m4) (c := k7c4) (by decide +kernel) rfl rfl rfl (by decide +kernel)
set_option maxRecDepth 65536 in
theorem w_c13 : (Jvm.Cond.code ({ cls := "java/lang/StringLatin1", name := "charAt", desc := "([BI)C" } : Jvm.MethodName) jdk_43_method_2_code (2 : Nat) (Option.some Jvm.ClassFile.FieldType.char)).before args0 about1 = true := code_word (m := ⟨10, 1⟩) (meth := k10m1) (c := k10c1) (by decide +kernel) rfl rfl rfl (by decide +kernel)
set_option maxRecDepth 65536 in
theorem w_c14 : (Jvm.Cond.code ({ cls := "java/lang/String", name := "checkIndex", desc := "(II)V" } : Jvm.MethodName) jdk_42_method_155_code (2 : Nat) (Option.none : Option Jvm.ClassFile.FieldType)).before args0 about1 = true := code_word (m := ⟨7, 5⟩) (meth := k7m5) (c := k7c5) (by decide +kernel) rfl rfl rfl (by decide +kernel)
set_option maxRecDepth 65536 in
theorem w_c15 : (Jvm.Cond.code ({ cls := "jdk/internal/util/Preconditions", name := "checkIndex", desc := "(IILjava/util/function/BiFunction;)I" } : Jvm.MethodName) jdk_41_method_11_code (3 : Nat) (Option.some Jvm.ClassFile.FieldType.int)).before args0 about1 = true := code_word (m := ⟨11, 1⟩) (meth := k11m1) (c := k11c1) (by decide +kernel) rfl rfl rfl (by decide +kernel)
def codes1 : List Jvm.Cond := [Jvm.Cond.code x code maxLocals ret, Jvm.Cond.code ({ cls := "io/countersign/TimestampFormReadDigitsPinLaw", name := "ch", desc := "(JI)C" } : Jvm.MethodName) method_3_code (5 : Nat) (Option.some Jvm.ClassFile.FieldType.char), Jvm.Cond.code ({ cls := "io/countersign/TimestampFormReadDigitsPinLaw", name := "fine", desc := "([CIII)Z" } : Jvm.MethodName) method_4_code (5 : Nat) (Option.some Jvm.ClassFile.FieldType.boolean), Jvm.Cond.code ({ cls := "io/countersign/TimestampFormReadDigitsPinLaw", name := "term", desc := "([CIII[I)J" } : Jvm.MethodName) method_5_code (5 : Nat) (Option.some Jvm.ClassFile.FieldType.long), Jvm.Cond.code ({ cls := "java/lang/String", name := "<init>", desc := "([C)V" } : Jvm.MethodName) jdk_42_method_3_code (2 : Nat) (Option.none : Option Jvm.ClassFile.FieldType), Jvm.Cond.code ({ cls := "java/lang/String", name := "<init>", desc := "([CIILjava/lang/Void;)V" } : Jvm.MethodName) jdk_42_method_149_code (6 : Nat) (Option.none : Option Jvm.ClassFile.FieldType), Jvm.Cond.code ({ cls := "java/lang/Object", name := "<init>", desc := "()V" } : Jvm.MethodName) object_method_1_code (1 : Nat) (Option.none : Option Jvm.ClassFile.FieldType), Jvm.Cond.code ({ cls := "java/lang/StringUTF16", name := "compress", desc := "([CII)[B" } : Jvm.MethodName) jdk_52_method_16_code (6 : Nat) (Option.some (Jvm.ClassFile.FieldType.array Jvm.ClassFile.FieldType.byte)), Jvm.Cond.code ({ cls := "java/lang/StringUTF16", name := "compress", desc := "([CI[BII)I" } : Jvm.MethodName) jdk_52_method_21_code (7 : Nat) (Option.some Jvm.ClassFile.FieldType.int), Jvm.Cond.code ({ cls := "java/lang/StringUTF16", name := "coderFromArrayLen", desc := "([BI)B" } : Jvm.MethodName) jdk_52_method_15_code (2 : Nat) (Option.some Jvm.ClassFile.FieldType.byte), Jvm.Cond.code ({ cls := "io/countersign/TimestampForm", name := "readDigits", desc := "(Ljava/lang/String;II)I" } : Jvm.MethodName) prog_24_method_4_code (6 : Nat) (Option.some Jvm.ClassFile.FieldType.int), Jvm.Cond.code ({ cls := "java/lang/String", name := "charAt", desc := "(I)C" } : Jvm.MethodName) jdk_42_method_56_code (2 : Nat) (Option.some Jvm.ClassFile.FieldType.char), Jvm.Cond.code ({ cls := "java/lang/String", name := "isLatin1", desc := "()Z" } : Jvm.MethodName) jdk_42_method_154_code (1 : Nat) (Option.some Jvm.ClassFile.FieldType.boolean), Jvm.Cond.code ({ cls := "java/lang/StringLatin1", name := "charAt", desc := "([BI)C" } : Jvm.MethodName) jdk_43_method_2_code (2 : Nat) (Option.some Jvm.ClassFile.FieldType.char), Jvm.Cond.code ({ cls := "java/lang/String", name := "checkIndex", desc := "(II)V" } : Jvm.MethodName) jdk_42_method_155_code (2 : Nat) (Option.none : Option Jvm.ClassFile.FieldType), Jvm.Cond.code ({ cls := "jdk/internal/util/Preconditions", name := "checkIndex", desc := "(IILjava/util/function/BiFunction;)I" } : Jvm.MethodName) jdk_41_method_11_code (3 : Nat) (Option.some Jvm.ClassFile.FieldType.int)]
set_option maxRecDepth 65536 in
theorem codes_eq : words1.filter isCode = codes1 := rfl
theorem w_codes : ∀ c ∈ words1.filter isCode, c.before args0 about1 = true := by
  rw [codes_eq]
  intro c hc
  simp only [codes1, List.mem_cons, List.not_mem_nil, or_false] at hc
  rcases hc with rfl | rfl | rfl | rfl | rfl | rfl | rfl | rfl | rfl | rfl | rfl | rfl | rfl | rfl | rfl | rfl
  · exact w_c0
  · exact w_c1
  · exact w_c2
  · exact w_c3
  · exact w_c4
  · exact w_c5
  · exact w_c6
  · exact w_c7
  · exact w_c8
  · exact w_c9
  · exact w_c10
  · exact w_c11
  · exact w_c12
  · exact w_c13
  · exact w_c14
  · exact w_c15
set_option maxRecDepth 65536 in
theorem w_t1 : (words1.take 24).all (fun c => isCode c || c.before args0 about1) = true := by decide +kernel
set_option maxRecDepth 65536 in
theorem w_t2 : ((words1.drop 24).take 24).all (fun c => isCode c || c.before args0 about1) = true := by decide +kernel
set_option maxRecDepth 65536 in
theorem w_t3 : (((words1.drop 24).drop 24).take 24).all (fun c => isCode c || c.before args0 about1) = true := by decide +kernel
set_option maxRecDepth 65536 in
theorem w_t4 : (((words1.drop 24).drop 24).drop 24).all (fun c => isCode c || c.before args0 about1) = true := by decide +kernel
theorem w_tables : (allAtoms (Jvm.Cond.code x code maxLocals ret :: tables_1)).before args0 about1 = true := by
  rw [allAtoms_all]
  show words1.all (fun c => c.before args0 about1) = true
  refine all_split ?_ w_codes
  rw [← List.take_append_drop 24 words1, List.all_append, w_t1, ← List.take_append_drop 24 (words1.drop 24), List.all_append, w_t2, ← List.take_append_drop 24 ((words1.drop 24).drop 24), List.all_append, w_t3, w_t4]
  rfl
set_option maxRecDepth 65536 in
theorem w_rest : rest_1_c.before args0 about1 = true := by decide +kernel
set_option maxRecDepth 65536 in
theorem w_case : (Jvm.Cond.and given_1 narrow_1).before args0 about1 = true := by decide +kernel
theorem w_applies : (headSpec (Jvm.Cond.code x code maxLocals ret :: tables_1) room_1).applies x e0.platform about1 = true :=
  (Spec.applies_iff w_frames).mpr ⟨w_running, w_runnable, w_alone, w_named, w_hears, w_ripe, w_room, w_tables⟩
theorem atStart : AtStart classFile x code maxLocals ret World_1 tables_1 room_1 Calls_1 rest_1 Pre_1 launch0 p0 e0 about1 theMethod args0 below0 :=
  ⟨lists_1, trivial, launch0.admits_env _ _ _, launch0.least_env, fairChoices_fair.cas, fairChoices_fair.clock, w_frames, w_args, w_heap, w_applies, trivial, w_rest, w_case⟩
end start1
theorem witness_1 : WitnessClaimed_1 := ⟨start1.p0, start1.e0, start1.about1, start1.theMethod, start1.args0, start1.below0, start1.atStart⟩
end Jvm.Pilot.@@N@@
