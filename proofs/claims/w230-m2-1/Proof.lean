import JvmDerived
import JvmDerived.Pilot.@@N@@Statement
import JvmDerived.Pilot.@@N@@Code
set_option linter.unusedVariables false
set_option linter.unusedSimpArgs false
@@BLOCK:NumsL.lean.txt@@
/- laws to paste: Road.backV, Road.eqW, Road.codOf (cut by pick.py; bodies as the Statement names them) -/
namespace Jvm.Pilot.@@N@@
namespace StrChars
open Jvm Sem ClassFile Op Lib Jvm.Stand Jvm.Free.XT Jvm.Free.ALB Jvm.Free.JM Jvm.Free
open Jvm.Lib.Cold (StaticIs)
/-- a char array whose places are chars -/
def Ch (a : Addr) (A : Cell) (U : State) : Prop := Arr .char a A U ∧ Typed .char A
theorem Ch.mv {a : Addr} {A : Cell} {U U' : State} (h : Ch a A U) (hal : U.vm.Alike U'.vm) (hh : U'.heap = U.heap) : Ch a A U' := ⟨h.1.mv hal hh, h.2⟩
theorem Ch.keep {a : Addr} {A : Cell} {U U' : State} (h : Ch a A U) (hal : U.vm.Alike U'.vm) (hk : U'.heap[a]? = some A) : Ch a A U' := ⟨h.1.keep hal hk, h.2⟩
/-- what place i of a char[]'s cell holds -/
def cv (A : Cell) (i : Nat) : Int32 := match A.slots[i]? with | some (.int x) => x | _ => 0
theorem Ch.get {a : Addr} {A : Cell} {U : State} (h : Ch a A U) {i : Nat} (hi : i < A.slots.size) : A.slots[i]? = some (.int (cv A i)) := by
  have e := Array.getElem?_eq_getElem hi
  have f := h.2 i _ e
  unfold cv; rw [e]
  generalize A.slots[i] = v at f
  cases v <;> simp [fits] at f ⊢
/-- the byte that i2b leaves of a char -/
def lo8 (x : Int32) : Int32 := x.toInt8.toInt32
theorem fits_lo8 (y : Int32) : fits .byte (.int (lo8 y)) = true := by
  have h1 := y.toInt8.le_toInt
  have h2 := y.toInt8.toInt_lt
  simp only [lo8, fits, Bool.and_eq_true, decide_eq_true_eq, Int32.le_iff_toInt_le, Int8.toInt_toInt32, show (-128 : Int32).toInt = -128 from by decide, show (127 : Int32).toInt = 127 from by decide]
  omega
/-- A' is A but that each place j of lo .. hi - 1 holds f j -/
def Laid (A A' : Cell) (lo hi : Nat) (f : Nat → Value) : Prop := A'.cls = A.cls ∧ A'.vm = A.vm ∧ A'.slots.size = A.slots.size ∧ ∀ i, A'.slots[i]? = if lo ≤ i ∧ i < hi then some (f i) else A.slots[i]?
theorem Laid.zero (A : Cell) (lo : Nat) (f : Nat → Value) : Laid A A lo (lo + 0) f := ⟨rfl, rfl, rfl, fun i => by rw [if_neg (by omega)]⟩
theorem Laid.step {A Ak : Cell} {lo k : Nat} {f : Nat → Value} {v : Value} (h : Laid A Ak lo k f) (hlo : lo ≤ k) (hk : k < Ak.slots.size) (hv : v = f k) : Laid A (Ak.setSlot k v) lo (k + 1) f := by
  refine ⟨h.1, h.2.1, by simpa [Cell.setSlot] using h.2.2.1, fun i => ?_⟩
  by_cases e : k = i
  · subst e; rw [Cell.slots_setSlot_self v hk, if_pos (by omega), hv]
  · rw [Cell.slots_setSlot_ne v e, h.2.2.2 i]
    by_cases q : lo ≤ i ∧ i < k
    · rw [if_pos q, if_pos (by omega)]
    · rw [if_neg q, if_neg (by omega)]
def U16 : String := "java/lang/StringUTF16"
namespace Cmp5
def yN : MethodName := ⟨"java/lang/StringUTF16", "compress", "([CI[BII)I"⟩
abbrev yB : ByteArray := jdk_52_method_21_code
theorem d0 : decode yB 0 = .ok (.iconst 0, 1) := by decide +kernel
theorem d1 : decode yB 1 = .ok (.istore 5, 2) := by decide +kernel
theorem d3 : decode yB 3 = .ok (.iload 5, 2) := by decide +kernel
theorem d5 : decode yB 5 = .ok (.iload 4, 2) := by decide +kernel
theorem d7 : decode yB 7 = .ok (.if_icmp (.ge) 37, 3) := by decide +kernel
theorem d10 : decode yB 10 = .ok (.aload_n 0, 1) := by decide +kernel
theorem d11 : decode yB 11 = .ok (.iload_n 1, 1) := by decide +kernel
theorem d12 : decode yB 12 = .ok (.caload, 1) := by decide +kernel
theorem d13 : decode yB 13 = .ok (.istore 6, 2) := by decide +kernel
theorem d15 : decode yB 15 = .ok (.iload 6, 2) := by decide +kernel
theorem d17 : decode yB 17 = .ok (.sipush 255, 3) := by decide +kernel
theorem d20 : decode yB 20 = .ok (.if_icmp (.le) 6, 3) := by decide +kernel
theorem d26 : decode yB 26 = .ok (.aload_n 2, 1) := by decide +kernel
theorem d27 : decode yB 27 = .ok (.iload_n 3, 1) := by decide +kernel
theorem d28 : decode yB 28 = .ok (.iload 6, 2) := by decide +kernel
theorem d30 : decode yB 30 = .ok (.i2b, 1) := by decide +kernel
theorem d31 : decode yB 31 = .ok (.bastore, 1) := by decide +kernel
theorem d32 : decode yB 32 = .ok (.iinc 1 1, 3) := by decide +kernel
theorem d35 : decode yB 35 = .ok (.iinc 3 1, 3) := by decide +kernel
theorem d38 : decode yB 38 = .ok (.iinc 5 1, 3) := by decide +kernel
theorem d41 : decode yB 41 = .ok (.goto (-38), 3) := by decide +kernel
theorem d44 : decode yB 44 = .ok (.iload 4, 2) := by decide +kernel
theorem d46 : decode yB 46 = .ok (.ireturn, 1) := by decide +kernel
def site : List Cond := []
def tab : Cond := tabOf yN yB 7 (some .int) site
def P (b : Addr) (A : Cell) (d : Addr) (B : Cell) (o q len : Nat) (args : Array Value) (s : State) : Prop := args = #[.ref b, .int (Int32.ofNat o), .ref d, .int (Int32.ofNat q), .int (Int32.ofNat len)] ∧ Ch b A s ∧ Arr .byte d B s ∧ b ≠ d ∧ o + len ≤ A.slots.size ∧ q + len ≤ B.slots.size ∧ ∀ i, i < len → ¬ 255 < cv A (o + i)
def E (b : Addr) (A : Cell) (d : Addr) (B : Cell) (o q len : Nat) (r : Option Value) (s u : State) : Prop := r = some (.int (Int32.ofNat len)) ∧ ∃ B', Put d B' s u ∧ Laid B B' q (q + len) (fun j => Value.int (lo8 (cv A (o + (j - q)))))
/-- no char of the range above 255: len; the places written hold each char's low byte -/
theorem law (l : Launch) (b : Addr) (A : Cell) (d : Addr) (B : Cell) (o q len : Nat) : Law l yN 5 5 0 0 yB 7 (some .int) site (P b A d B o q len) (E b A d B o q len) (copyLocs d q len) 0 0 := by
  refine Law.of_walk (plainFor_of_name (by decide +kernel)) (by decide +kernel) (by decide +kernel) (by decide) (fun _ _ h => by rw [h.1]; rfl) (fun _ U U' hal hh h => ⟨h.1, h.2.1.mv hal hh, h.2.2.1.mv hal hh, h.2.2.2⟩) (fun r U U' V V' h1 hal h2 h => ⟨h.1, h.2.elim fun B' q => ⟨B', q.1.mv h1 h2, q.2⟩⟩) ?_
  intro p e s m args below meth c s₁ X0 hexec hbytes hml hret hlk hnm hown hh0 W hP
  obtain ⟨rfl, hA, hB, hne, l1, l2, hp⟩ := hP
  have c1 : Steps p.tables e below (s₁.setTop (entryFrame m #[.ref b, .int (Int32.ofNat o), .ref d, .int (Int32.ofNat q), .int (Int32.ofNat len)] 7)) (s₁.setTop (mkF m 0 #[.val (.ref b), .val (.int (Int32.ofNat o)), .val (.ref d), .val (.int (Int32.ofNat q)), .val (.int (Int32.ofNat len)), .unset, .unset] [])) := entry rfl
  have hA0 := hA.1.mv X0.warmed.alike hh0
  have hB0 := hB.mv X0.warmed.alike hh0
  have a31 := hA.1.2.2.2
  have c2 : Steps p.tables e below (s₁.setTop (entryFrame m #[.ref b, .int (Int32.ofNat o), .ref d, .int (Int32.ofNat q), .int (Int32.ofNat len)] 7)) (s₁.setTop (mkF m 3 #[.val (.ref b), .val (.int (Int32.ofNat o)), .val (.ref d), .val (.int (Int32.ofNat q)), .val (.int (Int32.ofNat len)), .val (.int 0), .unset] [])) := c1.trans (by
    refine iconstV X0.here hexec rfl 0 (hb hbytes d0) (by decide) ?_
    refine XS.istore X0.here hexec rfl (hb hbytes d1) rfl rfl ?_
    exact Steps.refl _)
  have loop : ∀ (r i : Nat), i + r = len → ∀ (z : Slot), (z = .unset ∨ ∃ w, z = .val w ∧ w.category = 1) → ∀ (Tl : State) (Bk : Cell), Stand p l e { frames := 0, locals := 0, cells := 0, slots := 0 } s m #[.ref b, .int (Int32.ofNat o), .ref d, .int (Int32.ofNat q), .int (Int32.ofNat len)] below meth c Tl ([] ++ copyLocs d q i) 0 0 → Put d Bk s₁ Tl → Laid B Bk q (q + i) (fun j => Value.int (lo8 (cv A (o + (j - q))))) →
      Steps p.tables e below (s₁.setTop (entryFrame m #[.ref b, .int (Int32.ofNat o), .ref d, .int (Int32.ofNat q), .int (Int32.ofNat len)] 7)) (Tl.setTop (mkF m 3 #[.val (.ref b), .val (.int (Int32.ofNat (o + i))), .val (.ref d), .val (.int (Int32.ofNat (q + i))), .val (.int (Int32.ofNat len)), .val (.int (Int32.ofNat i)), z] [])) → ∃ (T' : State) (B' : Cell) (z' : Slot), Stand p l e { frames := 0, locals := 0, cells := 0, slots := 0 } s m #[.ref b, .int (Int32.ofNat o), .ref d, .int (Int32.ofNat q), .int (Int32.ofNat len)] below meth c T' ([] ++ copyLocs d q len) 0 0 ∧ Put d B' s₁ T' ∧ Laid B B' q (q + len) (fun j => Value.int (lo8 (cv A (o + (j - q))))) ∧
      Steps p.tables e below (s₁.setTop (entryFrame m #[.ref b, .int (Int32.ofNat o), .ref d, .int (Int32.ofNat q), .int (Int32.ofNat len)] 7)) (T'.setTop (mkF m 3 #[.val (.ref b), .val (.int (Int32.ofNat (o + len))), .val (.ref d), .val (.int (Int32.ofNat (q + len))), .val (.int (Int32.ofNat len)), .val (.int (Int32.ofNat len)), z'] [])) := by
    intro r
    induction r with
    | zero =>
      intro i hi z hz Tl Bk Xl pl fl cl
      have hil : i = len := by omega
      rw [hil] at Xl fl cl
      exact ⟨Tl, Bk, z, Xl, pl, fl, cl⟩
    | succ r ih =>
      intro i hi z hz Tl Bk Xl pl fl cl
      have all := X0.warmed.alike.symm.trans Xl.warmed.alike
      have hAl := hA0.keep all (pl.other hne hA0.1)
      have hBk := hB0.like all pl.1 fl.1 fl.2.1 fl.2.2.1
      have hlt : q + i < Bk.slots.size := by rw [fl.2.2.1]; omega
      have c3 : Steps p.tables e below (s₁.setTop (entryFrame m #[.ref b, .int (Int32.ofNat o), .ref d, .int (Int32.ofNat q), .int (Int32.ofNat len)] 7)) (Tl.setTop (mkF m 12 #[.val (.ref b), .val (.int (Int32.ofNat (o + i))), .val (.ref d), .val (.int (Int32.ofNat (q + i))), .val (.int (Int32.ofNat len)), .val (.int (Int32.ofNat i)), z] [.int (Int32.ofNat (o + i)), .ref b])) := cl.trans (by
        refine XS.iload Xl.here hexec rfl (hb hbytes d3) rfl ?_
        refine XS.iload Xl.here hexec rfl (hb hbytes d5) rfl ?_
        refine XS.icmpNo Xl.here hexec rfl (hb hbytes d7) rfl (ii_ge_f (lt32 (by omega) (by omega))) ?_
        refine XS.aloadN Xl.here hexec rfl (hb hbytes d10) rfl rfl ?_
        refine XS.iloadN Xl.here hexec rfl (hb hbytes d11) rfl ?_
        exact Steps.refl _)
      have c4 : Steps p.tables e below (s₁.setTop (entryFrame m #[.ref b, .int (Int32.ofNat o), .ref d, .int (Int32.ofNat q), .int (Int32.ofNat len)] 7)) (Tl.setTop (mkF m 13 #[.val (.ref b), .val (.int (Int32.ofNat (o + i))), .val (.ref d), .val (.int (Int32.ofNat (q + i))), .val (.int (Int32.ofNat len)), .val (.int (Int32.ofNat i)), z] [.int (cv A (o + i))])) := c3.trans (by
        refine Xl.aget hexec hAl rfl (hA.get (i := o + i) (by omega)) rfl rfl (hb hbytes d12) ?_
        exact Steps.refl _)
      have c5 : Steps p.tables e below (s₁.setTop (entryFrame m #[.ref b, .int (Int32.ofNat o), .ref d, .int (Int32.ofNat q), .int (Int32.ofNat len)] 7)) (Tl.setTop (mkF m 15 #[.val (.ref b), .val (.int (Int32.ofNat (o + i))), .val (.ref d), .val (.int (Int32.ofNat (q + i))), .val (.int (Int32.ofNat len)), .val (.int (Int32.ofNat i)), .val (.int (cv A (o + i)))] [])) := c4.trans (by
        refine XS.istoreS Xl.here hexec rfl (hb hbytes d13) rfl rfl hz ?_
        exact Steps.refl _)
      have c6 : Steps p.tables e below (s₁.setTop (entryFrame m #[.ref b, .int (Int32.ofNat o), .ref d, .int (Int32.ofNat q), .int (Int32.ofNat len)] 7)) (Tl.setTop (mkF m 31 #[.val (.ref b), .val (.int (Int32.ofNat (o + i))), .val (.ref d), .val (.int (Int32.ofNat (q + i))), .val (.int (Int32.ofNat len)), .val (.int (Int32.ofNat i)), .val (.int (cv A (o + i)))] [.int (lo8 (cv A (o + i))), .int (Int32.ofNat (q + i)), .ref d])) := c5.trans (by
        refine XS.iload Xl.here hexec rfl (hb hbytes d15) rfl ?_
        refine sipushV Xl.here hexec rfl 255 (hb hbytes d17) (by decide) ?_
        refine XS.icmpYes Xl.here hexec rfl (pc0 := 20) rfl (hb hbytes d20) rfl (ii_le_t (hp i (by omega))) (by decide) rfl ?_
        refine XS.aloadN Xl.here hexec rfl (hb hbytes d26) rfl rfl ?_
        refine XS.iloadN Xl.here hexec rfl (hb hbytes d27) rfl ?_
        refine XS.iload Xl.here hexec rfl (hb hbytes d28) rfl ?_
        refine i2b Xl.here hexec rfl (hb hbytes d30) rfl ?_
        exact Steps.refl _)
      obtain ⟨T7, X7, p7, st7⟩ := Xl.aput hexec hBk rfl hlt rfl (fits_lo8 (cv A (o + i))) (g := (mkF m 31 #[.val (.ref b), .val (.int (Int32.ofNat (o + i))), .val (.ref d), .val (.int (Int32.ofNat (q + i))), .val (.int (Int32.ofNat len)), .val (.int (Int32.ofNat i)), .val (.int (cv A (o + i)))] [.int (lo8 (cv A (o + i))), .int (Int32.ofNat (q + i)), .ref d])) rfl (rest := []) rfl (hb hbytes d31)
      have c8 : Steps p.tables e below (s₁.setTop (entryFrame m #[.ref b, .int (Int32.ofNat o), .ref d, .int (Int32.ofNat q), .int (Int32.ofNat len)] 7)) (T7.setTop (mkF m 32 #[.val (.ref b), .val (.int (Int32.ofNat (o + i))), .val (.ref d), .val (.int (Int32.ofNat (q + i))), .val (.int (Int32.ofNat len)), .val (.int (Int32.ofNat i)), .val (.int (cv A (o + i)))] [])) := c6.trans (st7 _ (Steps.refl _))
      have c9 : Steps p.tables e below (s₁.setTop (entryFrame m #[.ref b, .int (Int32.ofNat o), .ref d, .int (Int32.ofNat q), .int (Int32.ofNat len)] 7)) (T7.setTop (mkF m 3 #[.val (.ref b), .val (.int (Int32.ofNat (o + i) + 1)), .val (.ref d), .val (.int (Int32.ofNat (q + i) + 1)), .val (.int (Int32.ofNat len)), .val (.int (Int32.ofNat i + 1)), .val (.int (cv A (o + i)))] [])) := c8.trans (by
        refine iincV X7.here hexec rfl 1 (hb hbytes d32) (by decide) rfl rfl ?_
        refine iincV X7.here hexec rfl 1 (hb hbytes d35) (by decide) rfl rfl ?_
        refine iincV X7.here hexec rfl 1 (hb hbytes d38) (by decide) rfl rfl ?_
        refine XS.goto X7.here hexec rfl (pc0 := 41) rfl (hb hbytes d41) (by decide) rfl ?_
        exact Steps.refl _)
      have c10 : Steps p.tables e below (s₁.setTop (entryFrame m #[.ref b, .int (Int32.ofNat o), .ref d, .int (Int32.ofNat q), .int (Int32.ofNat len)] 7)) (T7.setTop (mkF m 3 #[.val (.ref b), .val (.int (Int32.ofNat (o + (i + 1)))), .val (.ref d), .val (.int (Int32.ofNat (q + (i + 1)))), .val (.int (Int32.ofNat len)), .val (.int (Int32.ofNat (i + 1))), .val (.int (cv A (o + i)))] [])) := by
        have := c9
        rw [succ32, succ32, succ32] at this
        exact this
      exact ih (i + 1) (by omega) _ (Or.inr ⟨_, rfl, rfl⟩) T7 _ (by rw [copyLocs_step, ← List.append_assoc]; exact X7) (pl.trans p7) (fl.step (by omega) hlt (by simp)) c10
  obtain ⟨T9, B9, z9, X9, p9, f9, g9⟩ := loop len 0 (by omega) .unset (Or.inl rfl) s₁ B (by simpa [copyLocs] using X0) ⟨hB0.1, fun _ _ => rfl, rfl⟩ (Laid.zero _ _ _) c2
  have c11 : Steps p.tables e below (s₁.setTop (entryFrame m #[.ref b, .int (Int32.ofNat o), .ref d, .int (Int32.ofNat q), .int (Int32.ofNat len)] 7)) (T9.setTop (mkF m 46 #[.val (.ref b), .val (.int (Int32.ofNat (o + len))), .val (.ref d), .val (.int (Int32.ofNat (q + len))), .val (.int (Int32.ofNat len)), .val (.int (Int32.ofNat len)), z9] [.int (Int32.ofNat len)])) := g9.trans (by
    refine XS.iload X9.here hexec rfl (hb hbytes d3) rfl ?_
    refine XS.iload X9.here hexec rfl (hb hbytes d5) rfl ?_
    refine XS.icmpYes X9.here hexec rfl (pc0 := 7) rfl (hb hbytes d7) rfl (ii_ge_t (nlt32 (by omega) (Nat.le_refl _))) (by decide) rfl ?_
    refine XS.iload X9.here hexec rfl (hb hbytes d44) rfl ?_
    exact Steps.refl _)
  exact ⟨T9, some (.int (Int32.ofNat len)), _, _, _, X9, by simp, rfl, rfl, (fun h => by cases h), ⟨rfl, B9, p9.from hh0, f9⟩, fun fs hl => c11.trans (X9.ireturnOut hexec hret rfl (Or.inl rfl) (hb hbytes d46) hl)⟩
end Cmp5
namespace Cmp3
def yN : MethodName := ⟨"java/lang/StringUTF16", "compress", "([CII)[B"⟩
abbrev yB : ByteArray := jdk_52_method_16_code
theorem d0 : decode yB 0 = .ok (.iload_n 2, 1) := by decide +kernel
theorem d1 : decode yB 1 = .ok (.newarray .byte, 2) := by decide +kernel
theorem d3 : decode yB 3 = .ok (.astore_n 3, 1) := by decide +kernel
theorem d4 : decode yB 4 = .ok (.aload_n 0, 1) := by decide +kernel
theorem d5 : decode yB 5 = .ok (.iload_n 1, 1) := by decide +kernel
theorem d6 : decode yB 6 = .ok (.aload_n 3, 1) := by decide +kernel
theorem d7 : decode yB 7 = .ok (.iconst 0, 1) := by decide +kernel
theorem d8 : decode yB 8 = .ok (.iload_n 2, 1) := by decide +kernel
theorem d9 : decode yB 9 = .ok (.invokestatic 115, 3) := by decide +kernel
theorem d12 : decode yB 12 = .ok (.istore 4, 2) := by decide +kernel
theorem d14 : decode yB 14 = .ok (.iload 4, 2) := by decide +kernel
theorem d16 : decode yB 16 = .ok (.iload_n 2, 1) := by decide +kernel
theorem d17 : decode yB 17 = .ok (.if_icmp (.eq) 40, 3) := by decide +kernel
theorem d57 : decode yB 57 = .ok (.aload_n 3, 1) := by decide +kernel
theorem d58 : decode yB 58 = .ok (.areturn, 1) := by decide +kernel
def site : List Cond := [.arrayClass .byte, Cmp5.tab] ++ staticW U16 115 Cmp5.yN
def tab : Cond := tabOf yN yB 6 (some (.array .byte)) site
def P (b : Addr) (A : Cell) (o len : Nat) (args : Array Value) (s : State) : Prop := args = #[.ref b, .int (Int32.ofNat o), .int (Int32.ofNat len)] ∧ Ch b A s ∧ o + len ≤ A.slots.size ∧ len ≤ 536870912 ∧ ∀ i, i < len → ¬ 255 < cv A (o + i)
def E (b : Addr) (A : Cell) (o len : Nat) (r : Option Value) (s u : State) : Prop := NewArr .byte "[B" len (fun j => .int (lo8 (cv A (o + j)))) r s u ∧ u.heap.size = s.heap.size + 1
/-- no char of the range above 255: a new byte[] of their low bytes -/
theorem law (l : Launch) (b : Addr) (A : Cell) (o len : Nat) : Law l yN 3 3 1 18 yB 6 (some (.array .byte)) site (P b A o len) (E b A o len) [] 1 len := by
  refine Law.of_walk (plainFor_of_name (by decide +kernel)) (by decide +kernel) (by decide +kernel) (by decide) (fun _ _ h => by rw [h.1]; rfl) (fun _ U U' hal hh h => ⟨h.1, h.2.1.mv hal hh, h.2.2⟩) (fun r U U' V V' h1 hal h2 h => ⟨NewArr.mv r U U' V V' h1 hal h2 h.1, by rw [h1, h2]; exact h.2⟩) ?_
  intro p e s m args below meth c s₁ X0 hexec hbytes hml hret hlk hnm hown hh0 W hP
  obtain ⟨rfl, hA, l1, l2, hp⟩ := hP
  have a31 := hA.1.2.2.2
  have c1 : Steps p.tables e below (s₁.setTop (entryFrame m #[.ref b, .int (Int32.ofNat o), .int (Int32.ofNat len)] 6)) (s₁.setTop (mkF m 0 #[.val (.ref b), .val (.int (Int32.ofNat o)), .val (.int (Int32.ofNat len)), .unset, .unset, .unset] [])) := entry rfl
  have c2 : Steps p.tables e below (s₁.setTop (entryFrame m #[.ref b, .int (Int32.ofNat o), .int (Int32.ofNat len)] 6)) (s₁.setTop (mkF m 1 #[.val (.ref b), .val (.int (Int32.ofNat o)), .val (.int (Int32.ofNat len)), .unset, .unset, .unset] [.int (Int32.ofNat len)])) := c1.trans (by
    refine XS.iloadN X0.here hexec rfl (hb hbytes d0) rfl ?_
    exact Steps.refl _)
  obtain ⟨T3, B3, X3, ba3, bs3, bv3, bh3, bf3, st3⟩ := X0.anew hexec (atype := .byte) (wk W (.arrayClass .byte)) rfl (by show len * 1 ≤ _; omega) (by omega) (g := (mkF m 1 #[.val (.ref b), .val (.int (Int32.ofNat o)), .val (.int (Int32.ofNat len)), .unset, .unset, .unset] [.int (Int32.ofNat len)])) rfl (hb hbytes d1) (rest := []) rfl (Nat.le_refl _) (by show 0 + len ≤ len; omega)
  rw [hh0] at ba3 st3
  have kp3 : XT.Kept s T3 := (XT.Kept.of_eq hh0).push bh3
  have hA3 := hA.keep X3.warmed.alike (kp3 _ _ hA.1.1)
  have hne : b ≠ s.heap.size := hA.1.ne
  have c4 : Steps p.tables e below (s₁.setTop (entryFrame m #[.ref b, .int (Int32.ofNat o), .int (Int32.ofNat len)] 6)) (T3.setTop (mkF m 3 #[.val (.ref b), .val (.int (Int32.ofNat o)), .val (.int (Int32.ofNat len)), .unset, .unset, .unset] [.ref s.heap.size])) := c2.trans (st3 _ (Steps.refl _))
  have c5 : Steps p.tables e below (s₁.setTop (entryFrame m #[.ref b, .int (Int32.ofNat o), .int (Int32.ofNat len)] 6)) (T3.setTop (mkF m 9 #[.val (.ref b), .val (.int (Int32.ofNat o)), .val (.int (Int32.ofNat len)), .val (.ref s.heap.size), .unset, .unset] [.int (Int32.ofNat len), .int 0, .ref s.heap.size, .int (Int32.ofNat o), .ref b])) := c4.trans (by
    refine XS.astoreN X3.here hexec rfl (hb hbytes d3) rfl rfl rfl ?_
    refine XS.aloadN X3.here hexec rfl (hb hbytes d4) rfl rfl ?_
    refine XS.iloadN X3.here hexec rfl (hb hbytes d5) rfl ?_
    refine XS.aloadN X3.here hexec rfl (hb hbytes d6) rfl rfl ?_
    refine iconstV X3.here hexec rfl 0 (hb hbytes d7) (by decide) ?_
    refine XS.iloadN X3.here hexec rfl (hb hbytes d8) rfl ?_
    exact Steps.refl _)
  obtain ⟨v6, T6, X6, E6, g6⟩ := X3.callS hexec (Cmp5.law l b A s.heap.size B3 o 0 len) hown (wks W (staticW U16 115 Cmp5.yN)) (wk W Cmp5.tab) (W := 0) (Nat.le_of_ble_eq_true rfl) (Nat.le_of_ble_eq_true rfl) (Nat.le_refl _) (by show 0 + len + 0 ≤ len; omega) (g := (mkF m 9 #[.val (.ref b), .val (.int (Int32.ofNat o)), .val (.int (Int32.ofNat len)), .val (.ref s.heap.size), .unset, .unset] [.int (Int32.ofNat len), .int (Int32.ofNat 0), .ref s.heap.size, .int (Int32.ofNat o), .ref b])) rfl (by rw [hml]; rfl) c5 (argsL := [.ref b, .int (Int32.ofNat o), .ref s.heap.size, .int (Int32.ofNat 0), .int (Int32.ofNat len)]) (rest := []) rfl rfl (by show 2 * 0 + 0 ≤ _; decide) (hb hbytes d9) (⟨rfl, hA3, ba3, hne, l1, by rw [bs3]; simp, hp⟩)
  obtain ⟨rfl, B6, p6, f6⟩ := E6
  have c7 : Steps p.tables e below (s₁.setTop (entryFrame m #[.ref b, .int (Int32.ofNat o), .int (Int32.ofNat len)] 6)) (T6.setTop (mkF m 12 #[.val (.ref b), .val (.int (Int32.ofNat o)), .val (.int (Int32.ofNat len)), .val (.ref s.heap.size), .unset, .unset] [.int (Int32.ofNat len)])) := g6
  have c8 : Steps p.tables e below (s₁.setTop (entryFrame m #[.ref b, .int (Int32.ofNat o), .int (Int32.ofNat len)] 6)) (T6.setTop (mkF m 58 #[.val (.ref b), .val (.int (Int32.ofNat o)), .val (.int (Int32.ofNat len)), .val (.ref s.heap.size), .val (.int (Int32.ofNat len)), .unset] [.ref s.heap.size])) := c7.trans (by
    refine XS.istore X6.here hexec rfl (hb hbytes d12) rfl rfl ?_
    refine XS.iload X6.here hexec rfl (hb hbytes d14) rfl ?_
    refine XS.iloadN X6.here hexec rfl (hb hbytes d16) rfl ?_
    refine XS.icmpYes X6.here hexec rfl (pc0 := 17) rfl (hb hbytes d17) rfl (ii_eq_t rfl) (by decide) rfl ?_
    refine XS.aloadN X6.here hexec rfl (hb hbytes d57) rfl rfl ?_
    exact Steps.refl _)
  have X8 := X6.wide (L' := []) (cells' := 1) (slots' := len) (fun x hx hlt => by
    simp only [List.nil_append, copyLocs, List.mem_map, List.mem_range] at hx
    obtain ⟨i, -, rfl⟩ := hx
    exact absurd hlt (Nat.lt_irrefl _)) (Nat.le_refl _) (by omega)
  exact ⟨T6, some (.ref s.heap.size), _, _, _, X8, rfl, rfl, rfl, (fun h => by cases h), ⟨⟨rfl, B6, ba3.like (X3.warmed.alike.symm.trans X6.warmed.alike) p6.1 f6.1 f6.2.1 f6.2.2.1, f6.2.1.trans bv3, by rw [X6.warmed.alike.findClass, f6.1]; exact bf3, by rw [f6.2.2.1, bs3]; simp, fun j hj => by rw [f6.2.2.2 j, if_pos (by omega)]; rfl, kp3.put p6 (Nat.le_refl _)⟩, by rw [p6.2.2, bh3, hh0]; simp⟩, fun fs hl => c8.trans (X8.areturnOut hexec rfl hret rfl (hb hbytes d58) hl)⟩
end Cmp3
namespace CodL
def yN : MethodName := ⟨"java/lang/StringUTF16", "coderFromArrayLen", "([BI)B"⟩
abbrev yB : ByteArray := jdk_52_method_15_code
theorem d0 : decode yB 0 = .ok (.iload_n 1, 1) := by decide +kernel
theorem d1 : decode yB 1 = .ok (.aload_n 0, 1) := by decide +kernel
theorem d2 : decode yB 2 = .ok (.arraylength, 1) := by decide +kernel
theorem d3 : decode yB 3 = .ok (.isub, 1) := by decide +kernel
theorem d4 : decode yB 4 = .ok (.bipush 31, 2) := by decide +kernel
theorem d6 : decode yB 6 = .ok (.iushr, 1) := by decide +kernel
theorem d7 : decode yB 7 = .ok (.i2b, 1) := by decide +kernel
theorem d8 : decode yB 8 = .ok (.ireturn, 1) := by decide +kernel
def site : List Cond := []
def tab : Cond := tabOf yN yB 2 (some .byte) site
def P (d : Addr) (B : Cell) (args : Array Value) (s : State) : Prop := args = #[.ref d, .int (Int32.ofNat B.slots.size)] ∧ Arr .byte d B s
def E (r : Option Value) (s u : State) : Prop := XT.PureE (some (.int 0)) r s u
/-- an array as long as the number of chars: LATIN1 -/
theorem law (l : Launch) (d : Addr) (B : Cell) : Law l yN 2 2 0 0 yB 2 (some .byte) site (P d B) E [] 0 0 := by
  refine Law.of_walk (plainFor_of_name (by decide +kernel)) (by decide +kernel) (by decide +kernel) (by decide) (fun _ _ h => by rw [h.1]; rfl) (fun _ U U' hal hh h => ⟨h.1, h.2.mv hal hh⟩) (fun r U U' V V' h1 hal h2 h => XT.PureE.mv r U U' V V' h1 hal h2 h) ?_
  intro p e s m args below meth c s₁ X0 hexec hbytes hml hret hlk hnm hown hh0 W hP
  obtain ⟨rfl, hB⟩ := hP
  have hB0 := hB.mv X0.warmed.alike hh0
  have c1 : Steps p.tables e below (s₁.setTop (entryFrame m #[.ref d, .int (Int32.ofNat B.slots.size)] 2)) (s₁.setTop (mkF m 0 #[.val (.ref d), .val (.int (Int32.ofNat B.slots.size))] [])) := entry rfl
  have c2 : Steps p.tables e below (s₁.setTop (entryFrame m #[.ref d, .int (Int32.ofNat B.slots.size)] 2)) (s₁.setTop (mkF m 2 #[.val (.ref d), .val (.int (Int32.ofNat B.slots.size))] [.ref d, .int (Int32.ofNat B.slots.size)])) := c1.trans (by
    refine XS.iloadN X0.here hexec rfl (hb hbytes d0) rfl ?_
    refine XS.aloadN X0.here hexec rfl (hb hbytes d1) rfl rfl ?_
    exact Steps.refl _)
  have c3 : Steps p.tables e below (s₁.setTop (entryFrame m #[.ref d, .int (Int32.ofNat B.slots.size)] 2)) (s₁.setTop (mkF m 8 #[.val (.ref d), .val (.int (Int32.ofNat B.slots.size))] [.int (lo8 (ushr (Int32.ofNat B.slots.size - Int32.ofNat B.slots.size) 31))])) := c2.trans (by
    refine X0.alen hexec hB0 rfl rfl (hb hbytes d2) ?_
    refine XS.isub X0.here hexec rfl (hb hbytes d3) rfl ?_
    refine bipushV X0.here hexec rfl 31 (hb hbytes d4) (by decide) ?_
    refine iushr X0.here hexec rfl (hb hbytes d6) rfl ?_
    refine i2b X0.here hexec rfl (hb hbytes d7) rfl ?_
    exact Steps.refl _)
  have e0 : lo8 (ushr (Int32.ofNat B.slots.size - Int32.ofNat B.slots.size) 31) = 0 := by rw [Int32.sub_self]; decide
  rw [e0] at c3
  exact ⟨s₁, some (.int 0), _, _, _, X0, rfl, rfl, rfl, (fun h => by cases h), ⟨rfl, hh0⟩, fun fs hl => c3.trans (X0.ireturnOut hexec hret rfl (Or.inr (Or.inr (Or.inl rfl))) (hb hbytes d8) hl)⟩
end CodL
/-- the String at a is Latin-1 over a new byte[] (the heap's one new cell): the low bytes of the len chars of A from o on; every cell but a is kept -/
def Got (a : Addr) (D : Cell) (fV fC : Field) (A : Cell) (o len : Nat) (r : Option Value) (s u : State) : Prop := r = none ∧ ∃ D' V : Cell, Blank "java/lang/String" a D' u ∧ Same D D' [fV.slot, fC.slot] ∧ D'.slots[fV.slot]? = some (.ref s.heap.size) ∧ D'.slots[fC.slot]? = some (.int 0) ∧ Arr .byte s.heap.size V u ∧ V.vm = .none ∧ u.vm.findClass "[B" = some V.cls ∧ V.slots.size = len ∧ (∀ j, j < len → V.slots[j]? = some (.int (lo8 (cv A (o + j))))) ∧ (∀ (y : Addr) (c : Cell), y ≠ a → s.heap[y]? = some c → u.heap[y]? = some c) ∧ u.heap.size = s.heap.size + 1
theorem Got.mv {a : Addr} {D A : Cell} {fV fC : Field} {o len : Nat} : ∀ r (U U' V V' : State), U'.heap = U.heap → V.vm.Alike V'.vm → V'.heap = V.heap → Got a D fV fC A o len r U V → Got a D fV fC A o len r U' V' :=
  fun r U U' V V' h1 hal h2 ⟨e0, D', X, a1, a2, a3, a4, a5, a6, a7, a8, a9, a10, a11⟩ => ⟨e0, D', X, a1.mv hal h2, a2, by rw [h1]; exact a3, a4, by rw [h1]; exact a5.mv hal h2, a6, by rw [hal.findClass]; exact a7, a8, a9, by rw [h1, h2]; exact a10, by rw [h1, h2]; exact a11⟩
namespace New4
def yN : MethodName := ⟨"java/lang/String", "<init>", "([CIILjava/lang/Void;)V"⟩
abbrev yB : ByteArray := jdk_42_method_149_code
theorem d0 : decode yB 0 = .ok (.aload_n 0, 1) := by decide +kernel
theorem d1 : decode yB 1 = .ok (.invokespecial 1, 3) := by decide +kernel
theorem d4 : decode yB 4 = .ok (.iload_n 3, 1) := by decide +kernel
theorem d5 : decode yB 5 = .ok (.ifCond (.ne) 22, 3) := by decide +kernel
theorem d27 : decode yB 27 = .ok (.getstatic 38, 3) := by decide +kernel
theorem d30 : decode yB 30 = .ok (.ifCond (.eq) 28, 3) := by decide +kernel
theorem d33 : decode yB 33 = .ok (.aload_n 1, 1) := by decide +kernel
theorem d34 : decode yB 34 = .ok (.iload_n 2, 1) := by decide +kernel
theorem d35 : decode yB 35 = .ok (.iload_n 3, 1) := by decide +kernel
theorem d36 : decode yB 36 = .ok (.invokestatic 177, 3) := by decide +kernel
theorem d39 : decode yB 39 = .ok (.astore 5, 2) := by decide +kernel
theorem d41 : decode yB 41 = .ok (.aload_n 0, 1) := by decide +kernel
theorem d42 : decode yB 42 = .ok (.aload 5, 2) := by decide +kernel
theorem d44 : decode yB 44 = .ok (.iload_n 3, 1) := by decide +kernel
theorem d45 : decode yB 45 = .ok (.invokestatic 47, 3) := by decide +kernel
theorem d48 : decode yB 48 = .ok (.putfield 15, 3) := by decide +kernel
theorem d51 : decode yB 51 = .ok (.aload_n 0, 1) := by decide +kernel
theorem d52 : decode yB 52 = .ok (.aload 5, 2) := by decide +kernel
theorem d54 : decode yB 54 = .ok (.putfield 9, 3) := by decide +kernel
theorem d57 : decode yB 57 = .ok (.return_, 1) := by decide +kernel
def site : List Cond := [.fieldLink "java/lang/String" 38 "java/lang/String" "COMPACT_STRINGS" "Z", Cmp3.tab, CodL.tab, .laysFinal "java/lang/String" "java/lang/String" "value" "[B", .fieldLink "java/lang/String" 9 "java/lang/String" "value" "[B", .laysFinal "java/lang/String" "java/lang/String" "coder" "B", .fieldLink "java/lang/String" 15 "java/lang/String" "coder" "B"] ++ objW "java/lang/String" 1 ++ staticW "java/lang/String" 177 Cmp3.yN ++ staticW "java/lang/String" 47 CodL.yN
def tab : Cond := tabOf yN yB 6 none site
def P (a : Addr) (D : Cell) (fV fC : Field) (b : Addr) (A : Cell) (z : Int32) (o len : Nat) (args : Array Value) (s : State) : Prop := args = #[.ref a, .ref b, .int (Int32.ofNat o), .int (Int32.ofNat len), .null] ∧ Blank "java/lang/String" a D s ∧ Found "java/lang/String" "value" "[B" fV s ∧ Found "java/lang/String" "coder" "B" fC s ∧ Ch b A s ∧ StaticIs s "java/lang/String" "COMPACT_STRINGS" "Z" (.int z) ∧ ¬ z = 0 ∧ 0 < len ∧ o + len ≤ A.slots.size ∧ len ≤ 536870912 ∧ ∀ i, i < len → ¬ 255 < cv A (o + i)
def E (a : Addr) (D : Cell) (fV fC : Field) (A : Cell) (o len : Nat) (r : Option Value) (s u : State) : Prop := Got a D fV fC A o len r s u
/-- len > 0, no char of the range above 255: a Latin-1 String of their low bytes -/
theorem law (l : Launch) (a : Addr) (D : Cell) (fV fC : Field) (b : Addr) (A : Cell) (z : Int32) (o len : Nat) : Law l yN 5 4 2 35 yB 6 none site (P a D fV fC b A z o len) (E a D fV fC A o len) [⟨a, fC.slot⟩, ⟨a, fV.slot⟩] 1 len := by
  refine Law.of_walk (plainFor_of_name (by decide +kernel)) (by decide +kernel) (by decide +kernel) (by decide) (fun _ _ h => by rw [h.1]; rfl) (fun _ U U' hal hh h => ⟨h.1, h.2.1.mv hal hh, h.2.2.1.al hal, h.2.2.2.1.al hal, h.2.2.2.2.1.mv hal hh, h.2.2.2.2.2.1.there hal hh, h.2.2.2.2.2.2⟩) (fun r U U' V V' h1 hal h2 h => Got.mv r U U' V V' h1 hal h2 h) ?_
  intro p e s m args below meth c s₁ X0 hexec hbytes hml hret hlk hnm hown hh0 W hP
  obtain ⟨rfl, hB, f1, f2, hA, s1, hz, l0, l1, l2, hp⟩ := hP
  have a31 := hA.1.2.2.2
  have c1 : Steps p.tables e below (s₁.setTop (entryFrame m #[.ref a, .ref b, .int (Int32.ofNat o), .int (Int32.ofNat len), .null] 6)) (s₁.setTop (mkF m 0 #[.val (.ref a), .val (.ref b), .val (.int (Int32.ofNat o)), .val (.int (Int32.ofNat len)), .val .null, .unset] [])) := entry rfl
  have c2 : Steps p.tables e below (s₁.setTop (entryFrame m #[.ref a, .ref b, .int (Int32.ofNat o), .int (Int32.ofNat len), .null] 6)) (s₁.setTop (mkF m 1 #[.val (.ref a), .val (.ref b), .val (.int (Int32.ofNat o)), .val (.int (Int32.ofNat len)), .val .null, .unset] [.ref a])) := c1.trans (by
    refine XS.aloadN X0.here hexec rfl (hb hbytes d0) rfl rfl ?_
    exact Steps.refl _)
  obtain ⟨T3, X3, q3, st3⟩ := X0.oinit hexec hown (wks W (objW "java/lang/String" 1)) (g := (mkF m 1 #[.val (.ref a), .val (.ref b), .val (.int (Int32.ofNat o)), .val (.int (Int32.ofNat len)), .val .null, .unset] [.ref a])) rfl (by rw [hml]; rfl) (rest := []) rfl (hb hbytes d1) (W := 0) (by show 2 * 0 + 0 ≤ _; decide) (Nat.le_of_ble_eq_true rfl) (Nat.le_of_ble_eq_true rfl)
  have hh3 := q3.trans hh0
  have c4 : Steps p.tables e below (s₁.setTop (entryFrame m #[.ref a, .ref b, .int (Int32.ofNat o), .int (Int32.ofNat len), .null] 6)) (T3.setTop (mkF m 27 #[.val (.ref a), .val (.ref b), .val (.int (Int32.ofNat o)), .val (.int (Int32.ofNat len)), .val .null, .unset] [])) := (c2.trans (st3 _ (Steps.refl _))).trans (by
    refine XS.iloadN X3.here hexec rfl (hb hbytes d4) rfl ?_
    refine XS.ifYes X3.here hexec rfl (pc0 := 5) rfl (hb hbytes d5) rfl (i0_ne_t (nz32 (by omega) l0)) (by decide) rfl ?_
    exact Steps.refl _)
  obtain ⟨T5, X5, q5, st5⟩ := X3.sget hexec hown (wk W (.fieldLink "java/lang/String" 38 "java/lang/String" "COMPACT_STRINGS" "Z")) s1 (fun _ _ h => by rw [hh3]; exact h) (g := (mkF m 27 #[.val (.ref a), .val (.ref b), .val (.int (Int32.ofNat o)), .val (.int (Int32.ofNat len)), .val .null, .unset] [])) rfl (hb hbytes d27)
  have hh5 := q5.trans hh3
  have c6 : Steps p.tables e below (s₁.setTop (entryFrame m #[.ref a, .ref b, .int (Int32.ofNat o), .int (Int32.ofNat len), .null] 6)) (T5.setTop (mkF m 30 #[.val (.ref a), .val (.ref b), .val (.int (Int32.ofNat o)), .val (.int (Int32.ofNat len)), .val .null, .unset] [.int z])) := c4.trans (st5 _ (Steps.refl _))
  have c7 : Steps p.tables e below (s₁.setTop (entryFrame m #[.ref a, .ref b, .int (Int32.ofNat o), .int (Int32.ofNat len), .null] 6)) (T5.setTop (mkF m 36 #[.val (.ref a), .val (.ref b), .val (.int (Int32.ofNat o)), .val (.int (Int32.ofNat len)), .val .null, .unset] [.int (Int32.ofNat len), .int (Int32.ofNat o), .ref b])) := c6.trans (by
    refine XS.ifNo X5.here hexec rfl (hb hbytes d30) rfl (i0_eq_f hz) ?_
    refine XS.aloadN X5.here hexec rfl (hb hbytes d33) rfl rfl ?_
    refine XS.iloadN X5.here hexec rfl (hb hbytes d34) rfl ?_
    refine XS.iloadN X5.here hexec rfl (hb hbytes d35) rfl ?_
    exact Steps.refl _)
  obtain ⟨v8, T8, X8, E8, g8⟩ := X5.callS hexec (Cmp3.law l b A o len) hown (wks W (staticW "java/lang/String" 177 Cmp3.yN)) (wk W Cmp3.tab) (W := 0) (Nat.le_of_ble_eq_true rfl) (Nat.le_of_ble_eq_true rfl) (Nat.le_refl _) (by show 0 + len ≤ len; omega) (g := (mkF m 36 #[.val (.ref a), .val (.ref b), .val (.int (Int32.ofNat o)), .val (.int (Int32.ofNat len)), .val .null, .unset] [.int (Int32.ofNat len), .int (Int32.ofNat o), .ref b])) rfl (by rw [hml]; rfl) c7 (argsL := [.ref b, .int (Int32.ofNat o), .int (Int32.ofNat len)]) (rest := []) rfl rfl (by show 2 * 0 + 0 ≤ _; decide) (hb hbytes d36) (⟨rfl, hA.mv X5.warmed.alike hh5, l1, l2, hp⟩)
  obtain ⟨e8, z8⟩ := E8
  obtain ⟨rfl, N, n1, n2, n3, n4, n5, n6⟩ := NewArr.mv _ T5 s _ _ hh5.symm (Vm.Alike.refl _) rfl e8
  rw [hh5] at z8
  have hB1 := hB.keep X8.warmed.alike (n6 _ _ hB.1)
  have hne : s.heap.size ≠ a := (Nat.ne_of_lt (Array.getElem?_eq_some_iff.mp hB.1).1).symm
  have c9 : Steps p.tables e below (s₁.setTop (entryFrame m #[.ref a, .ref b, .int (Int32.ofNat o), .int (Int32.ofNat len), .null] 6)) (T8.setTop (mkF m 39 #[.val (.ref a), .val (.ref b), .val (.int (Int32.ofNat o)), .val (.int (Int32.ofNat len)), .val .null, .unset] [.ref s.heap.size])) := g8
  have c10 : Steps p.tables e below (s₁.setTop (entryFrame m #[.ref a, .ref b, .int (Int32.ofNat o), .int (Int32.ofNat len), .null] 6)) (T8.setTop (mkF m 45 #[.val (.ref a), .val (.ref b), .val (.int (Int32.ofNat o)), .val (.int (Int32.ofNat len)), .val .null, .val (.ref s.heap.size)] [.int (Int32.ofNat N.slots.size), .ref s.heap.size, .ref a])) := by
    have hc : Steps p.tables e below (s₁.setTop (entryFrame m #[.ref a, .ref b, .int (Int32.ofNat o), .int (Int32.ofNat len), .null] 6)) (T8.setTop (mkF m 45 #[.val (.ref a), .val (.ref b), .val (.int (Int32.ofNat o)), .val (.int (Int32.ofNat len)), .val .null, .val (.ref s.heap.size)] [.int (Int32.ofNat len), .ref s.heap.size, .ref a])) := c9.trans (by
      refine XS.astore X8.here hexec rfl (hb hbytes d39) rfl rfl rfl ?_
      refine XS.aloadN X8.here hexec rfl (hb hbytes d41) rfl rfl ?_
      refine XS.aload X8.here hexec rfl (hb hbytes d42) rfl rfl ?_
      refine XS.iloadN X8.here hexec rfl (hb hbytes d44) rfl ?_
      exact Steps.refl _)
    rw [n4]; exact hc
  obtain ⟨v11, T11, X11, E11, g11⟩ := X8.callS hexec (CodL.law l s.heap.size N) hown (wks W (staticW "java/lang/String" 47 CodL.yN)) (wk W CodL.tab) (W := 1) (Nat.le_of_ble_eq_true rfl) (Nat.le_of_ble_eq_true rfl) (Nat.le_refl _) (by show 0 + len + 0 ≤ len; omega) (g := (mkF m 45 #[.val (.ref a), .val (.ref b), .val (.int (Int32.ofNat o)), .val (.int (Int32.ofNat len)), .val .null, .val (.ref s.heap.size)] [.int (Int32.ofNat N.slots.size), .ref s.heap.size, .ref a])) rfl (by rw [hml]; rfl) c10 (argsL := [.ref s.heap.size, .int (Int32.ofNat N.slots.size)]) (rest := [.ref a]) rfl rfl (by show 2 * 0 + (1 + 0) ≤ _; decide) (hb hbytes d45) (⟨rfl, n1⟩)
  obtain ⟨rfl, q11⟩ := E11
  have hB11 := hB1.mv (X8.warmed.alike.symm.trans X11.warmed.alike) q11
  have c12 : Steps p.tables e below (s₁.setTop (entryFrame m #[.ref a, .ref b, .int (Int32.ofNat o), .int (Int32.ofNat len), .null] 6)) (T11.setTop (mkF m 48 #[.val (.ref a), .val (.ref b), .val (.int (Int32.ofNat o)), .val (.int (Int32.ofNat len)), .val .null, .val (.ref s.heap.size)] [.int 0, .ref a])) := g11
  obtain ⟨T13, X13, p13, bl13, sl13, st13⟩ := X11.finit hexec hown (wk W (.fieldLink "java/lang/String" 15 "java/lang/String" "coder" "B")) (Or.inr ⟨_, (wk W (.laysFinal "java/lang/String" "java/lang/String" "coder" "B"))⟩) (Or.inl ⟨rfl, hnm⟩) f2 (Or.inl rfl) hB11 (t := .byte) (by decide +kernel) rfl (g := (mkF m 48 #[.val (.ref a), .val (.ref b), .val (.int (Int32.ofNat o)), .val (.int (Int32.ofNat len)), .val .null, .val (.ref s.heap.size)] [.int 0, .ref a])) rfl (rest := []) rfl (hb hbytes d48)
  have c14 : Steps p.tables e below (s₁.setTop (entryFrame m #[.ref a, .ref b, .int (Int32.ofNat o), .int (Int32.ofNat len), .null] 6)) (T13.setTop (mkF m 54 #[.val (.ref a), .val (.ref b), .val (.int (Int32.ofNat o)), .val (.int (Int32.ofNat len)), .val .null, .val (.ref s.heap.size)] [.ref s.heap.size, .ref a])) := (c12.trans (st13 _ (Steps.refl _))).trans (by
    refine XS.aloadN X13.here hexec rfl (hb hbytes d51) rfl rfl ?_
    refine XS.aload X13.here hexec rfl (hb hbytes d52) rfl rfl ?_
    exact Steps.refl _)
  obtain ⟨T15, X15, p15, bl15, sl15, st15⟩ := X13.finit hexec hown (wk W (.fieldLink "java/lang/String" 9 "java/lang/String" "value" "[B")) (Or.inr ⟨_, (wk W (.laysFinal "java/lang/String" "java/lang/String" "value" "[B"))⟩) (Or.inl ⟨rfl, hnm⟩) f1 (Or.inl rfl) bl13 (t := (.array .byte)) (by decide +kernel) rfl (g := (mkF m 54 #[.val (.ref a), .val (.ref b), .val (.int (Int32.ofNat o)), .val (.int (Int32.ofNat len)), .val .null, .val (.ref s.heap.size)] [.ref s.heap.size, .ref a])) rfl (rest := []) rfl (hb hbytes d54)
  have c16 : Steps p.tables e below (s₁.setTop (entryFrame m #[.ref a, .ref b, .int (Int32.ofNat o), .int (Int32.ofNat len), .null] 6)) (T15.setTop (mkF m 57 #[.val (.ref a), .val (.ref b), .val (.int (Int32.ofNat o)), .val (.int (Int32.ofNat len)), .val .null, .val (.ref s.heap.size)] [])) := c14.trans (st15 _ (Steps.refl _))
  have ap := apart (Or.inr ⟨_, (wk W (.laysFinal "java/lang/String" "java/lang/String" "value" "[B"))⟩) (Or.inr ⟨_, (wk W (.laysFinal "java/lang/String" "java/lang/String" "coder" "B"))⟩) f1 f2 (t₁ := .array .byte) (t₂ := .byte) (by decide +kernel) (by decide +kernel) (by decide)
  have al := X8.warmed.alike.symm.trans X15.warmed.alike
  have n7 : T11.heap[s.heap.size]? = some N := by rw [q11]; exact n1.1
  exact ⟨T15, none, _, _, _, X15, by simp, rfl, by omega, (fun _ => rfl), ⟨rfl, _, N, bl15, ((Same.refl D _).set _ (by simp)).set _ (by simp), sl15, (Cell.slots_setSlot_ne _ ap).trans sl13, n1.keep al (p15.other hne (p13.other hne n7)), n2, by rw [al.findClass]; exact n3, n4, n5, fun y c h1 h2 => p15.other h1 (p13.other h1 (by rw [q11]; exact n6 y c h2)), by rw [p15.2.2, p13.2.2, q11]; exact z8⟩, fun fs hl => c16.trans (X15.returnOut hexec hret (hb hbytes d57) hl)⟩
end New4
namespace New1
def yN : MethodName := ⟨"java/lang/String", "<init>", "([C)V"⟩
abbrev yB : ByteArray := jdk_42_method_3_code
theorem d0 : decode yB 0 = .ok (.aload_n 0, 1) := by decide +kernel
theorem d1 : decode yB 1 = .ok (.aload_n 1, 1) := by decide +kernel
theorem d2 : decode yB 2 = .ok (.iconst 0, 1) := by decide +kernel
theorem d3 : decode yB 3 = .ok (.aload_n 1, 1) := by decide +kernel
theorem d4 : decode yB 4 = .ok (.arraylength, 1) := by decide +kernel
theorem d5 : decode yB 5 = .ok (.aconst_null, 1) := by decide +kernel
theorem d6 : decode yB 6 = .ok (.invokespecial 27, 3) := by decide +kernel
theorem d9 : decode yB 9 = .ok (.return_, 1) := by decide +kernel
def site : List Cond := [New4.tab] ++ initW "java/lang/String" 27 New4.yN
def tab : Cond := tabOf yN yB 2 none site
def P (a : Addr) (D : Cell) (fV fC : Field) (b : Addr) (A : Cell) (z : Int32) (args : Array Value) (s : State) : Prop := args = #[.ref a, .ref b] ∧ Blank "java/lang/String" a D s ∧ Found "java/lang/String" "value" "[B" fV s ∧ Found "java/lang/String" "coder" "B" fC s ∧ Ch b A s ∧ StaticIs s "java/lang/String" "COMPACT_STRINGS" "Z" (.int z) ∧ ¬ z = 0 ∧ 0 < A.slots.size ∧ A.slots.size ≤ 536870912 ∧ ∀ i, i < A.slots.size → ¬ 255 < cv A i
def E (a : Addr) (D : Cell) (fV fC : Field) (A : Cell) (r : Option Value) (s u : State) : Prop := Got a D fV fC A 0 A.slots.size r s u
/-- new String(chars), not empty, no char above 255: a Latin-1 String of their low bytes -/
theorem law (l : Launch) (a : Addr) (D : Cell) (fV fC : Field) (b : Addr) (A : Cell) (z : Int32) : Law l yN 2 1 3 52 yB 2 none site (P a D fV fC b A z) (E a D fV fC A) [⟨a, fC.slot⟩, ⟨a, fV.slot⟩] 1 A.slots.size := by
  refine Law.of_walk (plainFor_of_name (by decide +kernel)) (by decide +kernel) (by decide +kernel) (by decide) (fun _ _ h => by rw [h.1]; rfl) (fun _ U U' hal hh h => ⟨h.1, h.2.1.mv hal hh, h.2.2.1.al hal, h.2.2.2.1.al hal, h.2.2.2.2.1.mv hal hh, h.2.2.2.2.2.1.there hal hh, h.2.2.2.2.2.2⟩) (fun r U U' V V' h1 hal h2 h => Got.mv r U U' V V' h1 hal h2 h) ?_
  intro p e s m args below meth c s₁ X0 hexec hbytes hml hret hlk hnm hown hh0 W hP
  obtain ⟨rfl, hB, f1, f2, hA, s1, hz, l0, l2, hp⟩ := hP
  have c1 : Steps p.tables e below (s₁.setTop (entryFrame m #[.ref a, .ref b] 2)) (s₁.setTop (mkF m 0 #[.val (.ref a), .val (.ref b)] [])) := entry rfl
  have c2 : Steps p.tables e below (s₁.setTop (entryFrame m #[.ref a, .ref b] 2)) (s₁.setTop (mkF m 6 #[.val (.ref a), .val (.ref b)] [.null, .int (Int32.ofNat A.slots.size), .int 0, .ref b, .ref a])) := c1.trans (by
    refine XS.aloadN X0.here hexec rfl (hb hbytes d0) rfl rfl ?_
    refine XS.aloadN X0.here hexec rfl (hb hbytes d1) rfl rfl ?_
    refine iconstV X0.here hexec rfl 0 (hb hbytes d2) (by decide) ?_
    refine XS.aloadN X0.here hexec rfl (hb hbytes d3) rfl rfl ?_
    refine X0.alen hexec (hA.1.mv X0.warmed.alike hh0) rfl rfl (hb hbytes d4) ?_
    refine XS.aconstNull X0.here hexec rfl (hb hbytes d5) ?_
    exact Steps.refl _)
  obtain ⟨v3, T3, X3, E3, g3⟩ := X0.callN hexec (New4.law l a D fV fC b A z 0 A.slots.size) rfl hown (wks W (initW "java/lang/String" 27 New4.yN)) (W New4.tab (by simp only [site, List.mem_cons, List.mem_append, true_or, or_true])) (W := 0) (Nat.le_of_ble_eq_true rfl) (Nat.le_of_ble_eq_true rfl) (Nat.le_refl _) (by show 0 + A.slots.size ≤ A.slots.size; omega) (g := (mkF m 6 #[.val (.ref a), .val (.ref b)] [.null, .int (Int32.ofNat A.slots.size), .int (Int32.ofNat 0), .ref b, .ref a])) rfl (by rw [hml]; rfl) c2 (argsL := [.ref b, .int (Int32.ofNat 0), .int (Int32.ofNat A.slots.size), .null]) (rest := []) rfl rfl (by show 2 * 0 + 0 ≤ _; decide) (hb hbytes d6) (⟨rfl, hB.mv X0.warmed.alike hh0, f1.al X0.warmed.alike, f2.al X0.warmed.alike, hA.mv X0.warmed.alike hh0, s1.there X0.warmed.alike hh0, hz, l0, by omega, l2, fun i hi => by rw [Nat.zero_add]; exact hp i hi⟩)
  have e0 := Got.mv _ s₁ s _ _ hh0.symm (Vm.Alike.refl _) rfl E3
  obtain rfl := e0.1
  have c4 : Steps p.tables e below (s₁.setTop (entryFrame m #[.ref a, .ref b] 2)) (T3.setTop (mkF m 9 #[.val (.ref a), .val (.ref b)] [])) := g3
  exact ⟨T3, none, _, _, _, X3, by simp, rfl, by omega, (fun _ => rfl), e0, fun fs hl => c4.trans (X3.returnOut hexec hret (hb hbytes d9) hl)⟩
theorem pays {l : Launch} {R : Room} {p : Program} {e : Env} {below : List Frame} {s : State} {sargs : Array Value} {len W : Nat} (a : Addr) (D : Cell) (fV fC : Field) (b : Addr) (A : Cell) (z : Int32) (htab : tab.before sargs s = true) (hfr : 4 ≤ R.frames) (hlo : W + 65 ≤ R.locals) :
    Back l R p e below s sargs yN len W (fun A₁ a₁ => A₁.cells + 1 ≤ R.cells ∧ A₁.slots + A.slots.size ≤ R.slots ∧ P a D fV fC b A z a₁ A₁.U) (fun A₁ _ v₁ B₁ => E a D fV fC A v₁ A₁.U B₁.U ∧ B₁.locs = A₁.locs ++ [⟨a, fC.slot⟩, ⟨a, fV.slot⟩] ∧ B₁.cells = A₁.cells + 1 ∧ B₁.slots = A₁.slots + A.slots.size) :=
  (law l a D fV fC b A z).pays htab hfr (by omega)
end New1
/-- the byte, read back as charAt reads it, is the char -/
theorem lo8_mask {x : Int32} (h0 : ¬ x < 0) (h1 : ¬ 255 < x) : lo8 x &&& 255 = x := by
  have t : ∀ k : Fin 256, lo8 (Int32.ofNat k.val) &&& 255 = Int32.ofNat k.val := by decide +kernel
  rw [Int32.lt_iff_toInt_lt] at h0 h1
  have e0 : (0 : Int32).toInt = 0 := rfl
  have e1 : (255 : Int32).toInt = 255 := rfl
  obtain ⟨k, hk⟩ : ∃ k : Nat, x.toInt = k := ⟨x.toInt.toNat, by omega⟩
  have hx : x = Int32.ofNat k := Int32.toInt_inj.mp (by rw [hk, Int32.toInt_ofNat_small (by omega)])
  rw [hx]
  exact t ⟨k, by omega⟩
end StrChars
namespace StrChars.Road
open Jvm Sem ClassFile Op Lib Jvm.Stand Jvm.Free Jvm.Free.XT
open Jvm.Lib.Cold (StaticIs)
abbrev ST : String := "java/lang/String"
/-- every table word that New1's law asks, flat -/
abbrev words : List Jvm.Cond := [.code New1.yN New1.yB 2 none, .initialized ST, .methodLink ST 27 New4.yN, .instanceMethod New4.yN,
  .code New4.yN New4.yB 6 none, .fieldLink ST 38 ST "COMPACT_STRINGS" "Z", .laysFinal ST ST "value" "[B", .fieldLink ST 9 ST "value" "[B", .laysFinal ST ST "coder" "B", .fieldLink ST 15 ST "coder" "B",
  .methodLink ST 1 Lib.objectInit, .instanceMethod Lib.objectInit, .code Lib.objectInit ⟨#[0xb1]⟩ 1 none, .methodLink ST 177 Cmp3.yN, .static Cmp3.yN, .methodLink ST 47 CodL.yN, .static CodL.yN,
  .code Cmp3.yN Cmp3.yB 6 (some (.array .byte)), .initialized U16, .arrayClass .byte, .methodLink U16 115 Cmp5.yN, .static Cmp5.yN, .code Cmp5.yN Cmp5.yB 7 (some .int), .code CodL.yN CodL.yB 2 (some .byte)]
theorem tab_of {a : Array Value} {s : State} (h : ∀ w ∈ words, w.before a s = true) : New1.tab.before a s = true := by
  have h5 : Cmp5.tab.before a s = true := unparts (wk h (.code Cmp5.yN Cmp5.yB 7 (some .int))) (wks h (.initialized Cmp5.yN.cls :: Cmp5.site))
  have hc : CodL.tab.before a s = true := unparts (wk h (.code CodL.yN CodL.yB 2 (some .byte))) (wks h (.initialized CodL.yN.cls :: CodL.site))
  have q5 : ∀ w ∈ Cmp5.tab :: words, w.before a s = true := fun w hw => (List.mem_cons.mp hw).elim (fun e => e ▸ h5) (h w)
  have h3 : Cmp3.tab.before a s = true := unparts (wk q5 (.code Cmp3.yN Cmp3.yB 6 (some (.array .byte)))) (wks q5 (.initialized Cmp3.yN.cls :: Cmp3.site))
  have q3 : ∀ w ∈ Cmp3.tab :: CodL.tab :: words, w.before a s = true := fun w hw => (List.mem_cons.mp hw).elim (fun e => e ▸ h3) fun hw => (List.mem_cons.mp hw).elim (fun e => e ▸ hc) (h w)
  have h4 : New4.tab.before a s = true := unparts (wk q3 (.code New4.yN New4.yB 6 none)) (wks q3 (.initialized New4.yN.cls :: New4.site))
  have q4 : ∀ w ∈ New4.tab :: words, w.before a s = true := fun w hw => (List.mem_cons.mp hw).elim (fun e => e ▸ h4) (h w)
  exact unparts (wk q4 (.code New1.yN New1.yB 2 none)) (wks q4 (.initialized New1.yN.cls :: New1.site))
/-- the words ride from the start Z to the walk's own state -/
theorem moved {Z s : State} {a0 args : Array Value} (hZ : Z.Warmed39 s.vm) (hw : ∀ d ∈ words, d.before a0 Z = true) : ∀ d ∈ words, d.before args s = true := fun d hd => by
  have q := hw d hd
  have t : ∀ d ∈ words, d = .arrayClass .byte ∨ (d.onTables && d.keepsFace) = true := by decide +kernel
  rcases t d hd with rfl | t
  · exact RoadKit.mvA hZ q
  · exact RoadKit.mv hZ q t
/-- WHAT COMES BACK, over the tables of the start Z: h the heap at the call, h' behind it -/
def Q (Z : State) (x : Addr) (A : Cell) (h : Heap) (v : Option Value) (h' : Heap) (L : List Loc) : Prop := v = none ∧ (∀ y ∈ L, y.base = x) ∧ RoadKit.Keep h h' [x] ∧ h'.size = h.size + 1 ∧ RoadKit.Exa Z h' x ST ∧ RoadKit.Fld Z h' x ST "value" "[B" (.ref h.size) ∧ RoadKit.Fld Z h' x ST "coder" "B" (.int 0) ∧
  (∃ V : Cell, RoadKit.Arr Z h' h.size V .byte ∧ V.vm = .none ∧ Z.vm.findClass "[B" = some V.cls ∧ V.slots.size = A.slots.size ∧ ∀ j, j < A.slots.size → V.slots[j]? = some (.int (lo8 (cv A j)))) ∧
  ∀ (O n d : String) (w : Value), RoadKit.Fld Z h x O n d w → RoadKit.slotOf Z O n d ≠ RoadKit.slotOf Z ST "value" "[B" → RoadKit.slotOf Z O n d ≠ RoadKit.slotOf Z ST "coder" "B" → RoadKit.Fld Z h' x O n d w
/-- **new String(chars) AT A CALL, IN THE ROAD'S FORM**: for specialBack behind newO: x the fresh String, b the char[] with the cell A -/
theorem back {p : Program} {l : Launch} {e : Env} {R : Room} {s : State} {args : Array Value} {below : List Frame} {len W : Nat} {Z : State} {a0 : Array Value} {h : Heap} (hZ : Z.Warmed39 s.vm) (hw : ∀ d ∈ words, d.before a0 Z = true) {kI : Nat} (wi : (Jvm.Cond.instantiable ST kI).before a0 Z = true)
    {x b : Addr} {A : Cell} {z : Int32} {v0 c0 : Value} (E : RoadKit.Exa Z h x ST) (V : RoadKit.Fld Z h x ST "value" "[B" v0) (C : RoadKit.Fld Z h x ST "coder" "B" c0) (K : RoadKit.Arr Z h b A .char) (hty : Typed .char A) (S : RoadKit.Sta Z h ST "COMPACT_STRINGS" "Z" (.int z)) (hz : ¬ z = 0)
    (l0 : 0 < A.slots.size) (l2 : A.slots.size ≤ 536870912) (hp : ∀ i, i < A.slots.size → ¬ 255 < cv A i) (hfr : 4 ≤ R.frames) (hlo : W + 65 ≤ R.locals) :
    Back l R p e below s args New1.yN len W (fun P a => a = #[.ref x, .ref b] ∧ P.U.heap = h ∧ P.cells + 1 ≤ R.cells ∧ P.slots + A.slots.size ≤ R.slots)
      (fun P _ v B => ∃ L, Q Z x A h v B.U.heap L ∧ B.locs = P.locs ++ L ∧ B.cells = P.cells + 1 ∧ B.slots = P.slots + A.slots.size) := by
  intro m meth c P g ig mk a X hg hsize hdg hW hn hp'
  obtain ⟨rfl, rfl, r1, r2⟩ := hp'
  have al : Z.vm.Alike P.U.vm := hZ.alike.trans X.warmed.alike
  obtain ⟨D, cfV, kV, iV, fV, hD, gV, stV, knV, obV, asV, slV⟩ := id V
  obtain ⟨D', cfC, kC, iC, fC, hD', gC, stC, -, -, asC, slC⟩ := id C
  cases hD.symm.trans hD'
  obtain ⟨D2, kD, e1, e2, e3, e4, e5⟩ := id E
  cases hD.symm.trans e1
  obtain ⟨c2, k2, i1, i2, i3, -⟩ := Cond.instantiable_spec wi
  cases e2.symm.trans i1
  cases e3.symm.trans i2
  obtain ⟨kU, u1, u2⟩ := al.2.2 _ _ e3
  have hB : Blank ST x D P.U := ⟨hD, ⟨knV, fun q hq => by rw [hq] at obV; cases obV⟩, by rw [al.findClass]; exact e2, kU, u1, by rw [u2]; exact i3, by rw [u2]; exact e5 i3⟩
  have F1 : Found ST "value" "[B" fV P.U := ⟨SBG.found_only al ⟨cfV, kV, iV, gV⟩, stV⟩
  have F2 : Found ST "coder" "B" fC P.U := ⟨SBG.found_only al ⟨cfC, kC, iC, gC⟩, stC⟩
  have hA : Ch b A P.U := ⟨⟨K.1, State.isArrayOf_alike al K.2.1, K.2.2, by omega⟩, hty⟩
  have hS : StaticIs P.U ST "COMPACT_STRINGS" "Z" (.int z) := by
    obtain ⟨cfS, iS, kS, fS, st, cS, t1, t2, t3, t4, t5, t6, t7⟩ := S
    exact StaticIs.there (s := { Z with heap := P.U.heap }) ⟨cfS, iS, kS, fS, st, cS, t1, t2, t3, t4, t5, (fun q => by rw [q] at t6; cases t6), t7⟩ al rfl
  obtain ⟨v, B, X', ⟨⟨hv, E', V', q1, q2, q3, q4, q5, q6, q7, q8, q9, q10, q11⟩, hl, hc, hs⟩, st⟩ := New1.pays x D fV fC b A z (tab_of (moved hZ hw)) hfr hlo m meth c P g ig mk _ X hg hsize hdg hW hn ⟨r1, r2, rfl, hB, F1, F2, hA, hS, hz, l0, l2, hp⟩
  have al' : Z.vm.Alike B.U.vm := hZ.alike.trans X'.warmed.alike
  have hsz : E'.slots.size = D.slots.size := by
    obtain ⟨-, -, -, kB, w1, w2, w3⟩ := q1
    obtain ⟨kB', y1, y2⟩ := al'.2.2 _ _ e3
    rw [q2.2.1] at w1
    cases w1.symm.trans y1
    rw [w3, e5 i3, y2]
  refine ⟨v, B, X', ⟨_, ⟨hv, ?_, ⟨by omega, fun y cy hy hn' => q10 y cy (by simpa using hn') hy, fun y cy hy => ?_⟩, q11, ⟨E', _, q1.1, by rw [q2.2.1]; exact e2, by rw [q2.2.1]; exact e3, by rw [q2.1]; exact obV, fun _ => by rw [hsz]; exact e5 i3⟩,
    ⟨E', cfV, kV, iV, fV, q1.1, gV, stV, by rw [q2.1]; exact knV, by rw [q2.1]; exact obV, by rw [q2.2.1]; exact asV, q3⟩, ⟨E', cfC, kC, iC, fC, q1.1, gC, stC, by rw [q2.1]; exact knV, by rw [q2.1]; exact obV, by rw [q2.2.1]; exact asC, q4⟩,
    ⟨V', ⟨q5.1, State.isArrayOf_alike al'.symm q5.2.1, q5.2.2.1⟩, q6, by rw [← al'.findClass]; exact q7, q8, fun j hj => by have := q9 j hj; rwa [Nat.zero_add] at this⟩, fun O n d w F n1 n2 => ?_⟩, hl, hc, hs⟩, st⟩
  · intro y hy
    simp only [List.mem_cons, List.not_mem_nil, or_false] at hy
    rcases hy with rfl | rfl <;> rfl
  · by_cases q : y = x
    · subst q
      cases hD.symm.trans hy
      exact ⟨E', q1.1, q2.2.1, q2.1, hsz⟩
    · exact ⟨cy, q10 y cy q hy, rfl, rfl, rfl⟩
  · obtain ⟨D3, cf, k, i, f, g1, g2, g3, g4, g5, g6, g7⟩ := F
    cases hD.symm.trans g1
    simp only [RoadKit.slotOf, g2, gV, gC, Option.map_some, Option.getD_some] at n1 n2
    exact ⟨E', cf, k, i, f, q1.1, g2, g3, by rw [q2.1]; exact g4, by rw [q2.1]; exact g5, by rw [q2.2.1]; exact g6, by rw [q2.2.2 f.slot (by simp [n1, n2])]; exact g7⟩
end StrChars.Road
namespace StrChars.Road
open Jvm Sem ClassFile Op Lib Jvm.Stand Jvm.Free Jvm.Free.XT
/-- WHAT COMES BACK, the byte[] as a list of values -/
def QA (Z : State) (x : Addr) (zn : Int32) (cs : List Int32) (h : Heap) (v : Option Value) (h' : Heap) (L : List Loc) : Prop := v = none ∧ (∀ y ∈ L, y.base = x) ∧ RoadKit.Keep h h' [x] ∧ h'.size = h.size + 1 ∧ RoadKit.Exa Z h' x ST ∧ RoadKit.Fld Z h' x ST "value" "[B" (.ref h.size) ∧ RoadKit.Fld Z h' x ST "coder" "B" (.int 0) ∧
  (∃ kb, Z.vm.findClass "[B" = some kb ∧ RoadKit.Arv Z h' h.size kb .byte zn (cs.map fun c => .int (lo8 c)) (.int 0)) ∧
  ∀ (O n d : String) (w : Value), RoadKit.Fld Z h x O n d w → RoadKit.slotOf Z O n d ≠ RoadKit.slotOf Z ST "value" "[B" → RoadKit.slotOf Z O n d ≠ RoadKit.slotOf Z ST "coder" "B" → RoadKit.Fld Z h' x O n d w
/-- **new String(chars) AT A CALL, THE ARRAYS AS LISTS**: the char[] at b holds cs, not empty, no char above 255 -/
theorem backArv {p : Program} {l : Launch} {e : Env} {R : Room} {s : State} {args : Array Value} {below : List Frame} {len W : Nat} {Z : State} {a0 : Array Value} {h : Heap} (hZ : Z.Warmed39 s.vm) (hw : ∀ d ∈ words, d.before a0 Z = true) {kI : Nat} (wi : (Jvm.Cond.instantiable ST kI).before a0 Z = true)
    {x b : Addr} {k : ClassId} {zn z : Int32} {cs : List Int32} {dv v0 c0 : Value} (E : RoadKit.Exa Z h x ST) (V : RoadKit.Fld Z h x ST "value" "[B" v0) (C : RoadKit.Fld Z h x ST "coder" "B" c0) (K : RoadKit.Arv Z h b k .char zn (cs.map Value.int) dv) (S : RoadKit.Sta Z h ST "COMPACT_STRINGS" "Z" (.int z)) (hz : ¬ z = 0)
    (hlen : zn.toNatClampNeg = cs.length) (h0 : 0 < cs.length) (hbig : cs.length ≤ 536870912) (hall : ∀ c ∈ cs, ¬ 255 < c) (hfr : 4 ≤ R.frames) (hlo : W + 65 ≤ R.locals) :
    Back l R p e below s args New1.yN len W (fun P a => a = #[.ref x, .ref b] ∧ P.U.heap = h ∧ P.cells + 1 ≤ R.cells ∧ P.slots + cs.length ≤ R.slots)
      (fun P _ v B => ∃ L, QA Z x zn cs h v B.U.heap L ∧ B.locs = P.locs ++ L ∧ B.cells = P.cells + 1 ∧ B.slots = P.slots + cs.length) := by
  obtain ⟨A, K1, K2, K3, K4, K5, K6⟩ := K
  have e : A.slots.size = cs.length := K3.trans hlen
  have hat : ∀ (i : Nat) (hi : i < cs.length), A.slots[i]? = some (.int cs[i]) := fun i hi => by rw [K5 i (by omega)]; simp [List.getD_eq_getElem?_getD, hi]
  have hcv : ∀ (i : Nat) (hi : i < cs.length), cv A i = cs[i] := fun i hi => by unfold cv; rw [hat i hi]
  have hty : Typed .char A := fun i v hv => by
    have hi : i < A.slots.size := (Array.getElem?_eq_some_iff.mp hv).1
    have q := K5 i hi
    rw [hv] at q
    rw [Option.some.inj q]
    exact K6 i hi
  refine Back.mono (back hZ hw wi E V C K1 hty S hz (by omega) (by omega) (fun i hi => by rw [hcv i (by omega)]; exact hall _ (List.getElem_mem _)) hfr hlo) (fun P a hp => ⟨hp.1, hp.2.1, hp.2.2.1, by rw [e]; exact hp.2.2.2⟩) (fun P a v B hp hq => ?_)
  obtain ⟨L, ⟨q1, q2, q3, q4, q5, q6, q7, ⟨V', v1, v2, v3, v4, v5⟩, q9⟩, hl, hc, hs⟩ := hq
  refine ⟨L, ⟨q1, q2, q3, q4, q5, q6, q7, ⟨V'.cls, v3, V', v1, rfl, by rw [v4, e, hlen], K4, fun i hi => ?_, fun i hi => ?_⟩, q9⟩, hl, hc, by rw [hs, e]⟩
  · have hi' : i < cs.length := by omega
    rw [v5 i (by omega), hcv i hi']; simp [List.getD_eq_getElem?_getD, hi']
  · have hi' : i < cs.length := by omega
    simp only [List.getD_eq_getElem?_getD, List.getElem?_map, List.getElem?_eq_getElem hi', Option.map_some, Option.getD_some]
    exact fits_lo8 _
end StrChars.Road
namespace StrChars.Road
open Jvm Sem ClassFile Op Lib Jvm.Stand Jvm.Free Jvm.Free.XT
/-- WHAT COMES BACK, in the writer's own shape -/
def QV (Z : State) (x : Addr) (N : Int32) (bs : List Int32) (h : Heap) (n0 : Nat) (v : Option Value) (h' : Heap) (L : List Loc) : Prop := v = none ∧ RoadKit.Fr n0 L ∧ RoadKit.Keep h h' [x] ∧ RoadKit.Exa Z h' x ST ∧ RoadKit.Fld Z h' x ST "coder" "B" (.int 0) ∧
  ∃ (t : Addr) (kb : ClassId), n0 ≤ t ∧ h.size ≤ t ∧ ¬ t = x ∧ RoadKit.Fld Z h' x ST "value" "[B" (.ref t) ∧ RoadKit.Arv Z h' t kb .byte N (bs.map Value.int) (.int 0)
/-- **new String(chars) AT A CALL, FOR THE WRITER**: a char[] of n known ints, each 0 to 255 -/
theorem backV {p : Program} {l : Launch} {e : Env} {R : Room} {s : State} {args : Array Value} {below : List Frame} {len W : Nat} {Z : State} {a0 : Array Value} {h : Heap} (hZ : Z.Warmed39 s.vm) (hw : ∀ d ∈ words, d.before a0 Z = true) {kI : Nat} (wi : (Jvm.Cond.instantiable ST kI).before a0 Z = true)
    {x b : Addr} {kC : ClassId} {cs bs : List Int32} {d v0 c0 : Value} {z N : Int32} {n n0 : Nat} (hx0 : n0 ≤ x) (hh0 : n0 ≤ h.size) (E : RoadKit.Exa Z h x ST) (V : RoadKit.Fld Z h x ST "value" "[B" v0) (C : RoadKit.Fld Z h x ST "coder" "B" c0) (K : RoadKit.Arv Z h b kC .char N (cs.map Value.int) d) (S : RoadKit.Sta Z h ST "COMPACT_STRINGS" "Z" (.int z)) (hz : ¬ z = 0)
    (hn : cs.length = n) (hN : N = Int32.ofNat n) (l0 : 0 < n) (l2 : n ≤ 4000) (hp : ∀ c ∈ cs, ¬ c < 0 ∧ ¬ (255 : Int32) < c) (hb : bs = cs.map (fun c => c.toInt8.toInt32)) (hfr : 4 ≤ R.frames) (hlo : W + 65 ≤ R.locals) :
    Back l R p e below s args (⟨"java/lang/String", "<init>", "([C)V"⟩ : MethodName) len W (fun P a => a = #[.ref x, .ref b] ∧ P.U.heap = h ∧ P.cells + 1 ≤ R.cells ∧ P.slots + n ≤ R.slots)
      (fun P _ v B => ∃ L, QV Z x N bs h n0 v B.U.heap L ∧ B.locs = P.locs ++ L ∧ B.cells = P.cells + 1 ∧ B.slots = P.slots + n) := by
  subst hn hN hb
  refine Back.mono (backArv hZ hw wi E V C K S hz (n32 (by omega)) l0 (by omega) (fun c hc => (hp c hc).2) hfr hlo) (fun P a hp => hp) (fun P a v B hp hq => ?_)
  obtain ⟨L, ⟨q1, q2, q3, q4, q5, q6, q7, ⟨kb, v1, v2⟩, q9⟩, hl, hc, hs⟩ := hq
  exact ⟨L, ⟨q1, fun y hy => by rw [q2 y hy]; exact hx0, q3, q5, q7, h.size, kb, hh0, Nat.le_refl _, Nat.ne_of_gt E.lt, q6, by rw [List.map_map]; exact v2⟩, hl, hc, hs⟩
end StrChars.Road
namespace StrChars
open Jvm Sem ClassFile Op Lib Jvm.Stand Jvm.Free.XT Jvm.Free.ALB Jvm.Free.JM Jvm.Free
open Jvm.Lib.Cold (StaticIs)
def hi8 (x : Int32) : Int32 := lo8 (x >>> ((8 : Int32) &&& 31))
/-- what StringUTF16.getChar makes of two bytes -/
def pairCh (u v : Int32) : Int32 := (((u &&& 255) <<< ((0 : Int32) &&& 31)) ||| ((v &&& 255) <<< ((8 : Int32) &&& 31))).toUInt32.toUInt16.toUInt32.toInt32
theorem lo8_and (x : Int32) : (lo8 x &&& 255).toBitVec.toNat = x.toBitVec.toNat % 256 := by
  have h : (lo8 x).toBitVec = (x.toBitVec.signExtend 8).signExtend 32 := by rw [lo8, Int8.toBitVec_toInt32, Int32.toBitVec_toInt8]
  rw [Int32.toBitVec_and, BitVec.toNat_and, h]
  have e : ((x.toBitVec.signExtend 8).signExtend 32).toNat % 256 = x.toBitVec.toNat % 256 := by
    rw [BitVec.toNat_signExtend]
    have hlt := x.toBitVec.isLt
    simp only [BitVec.toNat_setWidth, BitVec.toNat_signExtend]
    split <;> split <;> omega
  rw [← e]
  exact Nat.and_two_pow_sub_one_eq_mod _ 8
theorem pair_says {c : Int32} (h0 : ¬ c < 0) (h1 : ¬ 65535 < c) : pairCh (lo8 c) (hi8 c) = c := by
  rw [Int32.lt_iff_toInt_lt] at h0 h1
  have e0 : (0 : Int32).toInt = 0 := rfl
  have e1 : (65535 : Int32).toInt = 65535 := rfl
  have hc : c.toInt = c.toBitVec.toNat := by
    have := c.toBitVec.isLt
    have e : c.toInt = c.toBitVec.toInt := rfl
    rw [e] at h0 h1
    rw [e]
    rw [BitVec.toInt_eq_toNat_cond] at h0 h1 ⊢
    split at h0 <;> split <;> omega
  have hn : c.toBitVec.toNat < 65536 := by omega
  have a1 := lo8_and c
  have a2 : (hi8 c &&& 255).toBitVec.toNat = c.toBitVec.toNat / 256 := by
    rw [hi8, lo8_and]
    have e : ((8 : Int32) &&& 31) = 8 := by decide
    rw [e, Int32.toBitVec_shiftRight]
    have e2 : ((8 : Int32).toBitVec.smod 32) = 8#32 := by decide
    rw [e2, BitVec.sshiftRight_eq', BitVec.toNat_sshiftRight_of_msb_false (by rw [BitVec.msb_eq_false_iff_two_mul_lt]; omega)]
    show c.toBitVec.toNat >>> 8 % 256 = _
    rw [Nat.shiftRight_eq_div_pow]
    omega
  unfold pairCh
  apply Int32.toBitVec_inj.mp
  apply BitVec.eq_of_toNat_eq
  have f0 : ((0 : Int32) &&& 31) = 0 := by decide
  have f8 : ((8 : Int32) &&& 31) = 8 := by decide
  rw [f0, f8]
  have g : (((lo8 c &&& 255) <<< (0 : Int32)) ||| ((hi8 c &&& 255) <<< (8 : Int32))).toBitVec.toNat = c.toBitVec.toNat := by
    rw [Int32.toBitVec_or, Int32.toBitVec_shiftLeft, Int32.toBitVec_shiftLeft]
    have s0 : ((0 : Int32).toBitVec.smod 32) = 0#32 := by decide
    have s8 : ((8 : Int32).toBitVec.smod 32) = 8#32 := by decide
    rw [s0, s8, BitVec.toNat_or]
    simp only [BitVec.shiftLeft_eq', BitVec.toNat_shiftLeft, a1, a2]
    show (c.toBitVec.toNat % 256) <<< 0 % 2 ^ 32 ||| (c.toBitVec.toNat / 256) <<< 8 % 2 ^ 32 = _
    rw [Nat.shiftLeft_zero, Nat.mod_eq_of_lt (show c.toBitVec.toNat % 256 < 2 ^ 32 by omega), Nat.mod_eq_of_lt (show (c.toBitVec.toNat / 256) <<< 8 < 2 ^ 32 by rw [Nat.shiftLeft_eq]; omega), Nat.or_comm, ← Nat.shiftLeft_add_eq_or_of_lt (by omega), Nat.shiftLeft_eq]
    omega
  show BitVec.toNat (((((lo8 c &&& 255) <<< (0 : Int32)) ||| ((hi8 c &&& 255) <<< (8 : Int32))).toBitVec.setWidth 16).setWidth 32) = _
  rw [BitVec.toNat_setWidth, BitVec.toNat_setWidth, g]
  omega
end StrChars
namespace StrChars
open Jvm Sem ClassFile Op Lib Jvm.Stand Jvm.Free.XT Jvm.Free.ALB Jvm.Free.JM Jvm.Free
open Jvm.Lib.Cold (StaticIs)
/-- the array's cell V codes the n chars f 0 .. f (n - 1) by the coder cd, as the JDK does: coder 1 just where some char is above 255 -/
def Cod (cd : Int32) (n : Nat) (f : Nat → Int32) (V : Cell) : Prop := (cd = 0 ∧ V.slots.size = n ∧ ∀ j, j < n → V.slots[j]? = some (.int (lo8 (f j))) ∧ ¬ 255 < f j) ∨ (cd = 1 ∧ V.slots.size = 2 * n ∧ (∀ j, j < n → V.slots[2 * j]? = some (.int (lo8 (f j))) ∧ V.slots[2 * j + 1]? = some (.int (hi8 (f j)))) ∧ ∃ j, j < n ∧ 255 < f j)
/-- **x is a String of the n chars f 0 .. f (n - 1)**, Latin-1 or UTF-16; its array at t has the cell V -/
def Txt (x t : Addr) (V : Cell) (cd : Int32) (n : Nat) (f : Nat → Int32) (U : State) : Prop := Exact "java/lang/String" x U ∧ Has x "java/lang/String" "value" "[B" (.ref t) U ∧ Has x "java/lang/String" "coder" "B" (.int cd) U ∧ XT.Arr .byte t V U ∧ Cod cd n f V ∧ ∀ j, j < n → ¬ f j < 0 ∧ ¬ 65535 < f j
theorem Txt.mv {x t : Addr} {V : Cell} {cd : Int32} {n : Nat} {f : Nat → Int32} {U U' : State} (h : Txt x t V cd n f U) (hal : U.vm.Alike U'.vm) (hh : U'.heap = U.heap) : Txt x t V cd n f U' := ⟨h.1.mv hal hh, h.2.1.mv hal hh, h.2.2.1.mv hal hh, h.2.2.2.1.mv hal hh, h.2.2.2.2⟩
end StrChars
namespace StrChars.Road
open Jvm Sem ClassFile Op Lib Jvm.Stand Jvm.Free Jvm.Free.XT
open Jvm.Lib.Cold (StaticIs)
theorem consq {a : Array Value} {s : State} {c : Jvm.Cond} {L : List Jvm.Cond} (h0 : c.before a s = true) (h : ∀ w ∈ L, w.before a s = true) : ∀ w ∈ c :: L, w.before a s = true := fun w hw => (List.mem_cons.mp hw).elim (fun e => e ▸ h0) (h w)
/-- the bytes of the chars cs, low before high -/
def wideBytes : List Int32 → List Value
  | [] => []
  | c :: cs => .int (lo8 c) :: .int (hi8 c) :: wideBytes cs
theorem wide_lo (d : Value) : ∀ (cs : List Int32) (j : Nat), j < cs.length → (wideBytes cs).getD (2 * j) d = .int (lo8 (cs.getD j 0))
  | [], j, h => absurd h (Nat.not_lt_zero j)
  | c :: cs, 0, _ => rfl
  | c :: cs, j + 1, h => by
    have q := wide_lo d cs j (by simpa using h)
    rw [show 2 * (j + 1) = 2 * j + 1 + 1 from by omega]
    simpa [wideBytes] using q
theorem wide_hi (d : Value) : ∀ (cs : List Int32) (j : Nat), j < cs.length → (wideBytes cs).getD (2 * j + 1) d = .int (hi8 (cs.getD j 0))
  | [], j, h => absurd h (Nat.not_lt_zero j)
  | c :: cs, 0, _ => rfl
  | c :: cs, j + 1, h => by
    have q := wide_hi d cs j (by simpa using h)
    rw [show 2 * (j + 1) + 1 = 2 * j + 1 + 1 + 1 from by omega]
    simpa [wideBytes] using q
theorem low_at (d : Value) (cs : List Int32) (j : Nat) (h : j < cs.length) : (cs.map fun c => Value.int (lo8 c)).getD j d = .int (lo8 (cs.getD j 0)) := by
  simp [List.getD_eq_getElem?_getD, h]
/-- an array of N2 bytes vs codes the chars cs by the coder cd -/
def CodA (cs : List Int32) (cd N2 : Int32) (vs : List Value) : Prop := (cd = 0 ∧ N2 = Int32.ofNat cs.length ∧ vs = (cs.map fun c => Value.int (lo8 c)) ∧ ∀ c ∈ cs, ¬ 255 < c) ∨ (cd = 1 ∧ N2 = Int32.ofNat (2 * cs.length) ∧ vs = wideBytes cs ∧ ∃ c ∈ cs, 255 < c)
theorem CodA.cod {cs : List Int32} {cd N2 : Int32} {vs : List Value} {V : Cell} (h : CodA cs cd N2 vs) (hn : 2 * cs.length < 2 ^ 31) (hs : V.slots.size = N2.toNatClampNeg) (hv : RoadKit.Has V vs (.int 0)) : Cod cd cs.length (fun j => cs.getD j 0) V := by
  rcases h with ⟨rfl, rfl, rfl, h⟩ | ⟨rfl, rfl, rfl, c, hc, hw⟩
  · rw [n32 (by omega)] at hs
    exact Or.inl ⟨rfl, hs, fun j hj => ⟨by rw [hv j (by omega), low_at _ _ _ hj], by
      have e : cs.getD j 0 = cs[j] := by simp [List.getD_eq_getElem?_getD, hj]
      show ¬ 255 < cs.getD j 0
      rw [e]; exact h _ (List.getElem_mem _)⟩⟩
  · rw [n32 (by omega)] at hs
    obtain ⟨j, hj, rfl⟩ := List.getElem_of_mem hc
    exact Or.inr ⟨rfl, hs, fun j hj => ⟨by rw [hv _ (by omega), wide_lo _ _ _ hj], by rw [hv _ (by omega), wide_hi _ _ _ hj]⟩, j, hj, by
      have e : cs.getD j 0 = cs[j] := by simp [List.getD_eq_getElem?_getD, hj]
      show 255 < cs.getD j 0
      rw [e]; exact hw⟩
/-- an object of exactly java/lang/String, its two fields found: as the laws ask it -/
theorem strObj {Z U : State} {a0 : Array Value} {kI : Nat} (wi : (Jvm.Cond.instantiable ST kI).before a0 Z = true) (al : Z.vm.Alike U.vm) {x : Addr} {v0 c0 : Value} (E : RoadKit.Exa Z U.heap x ST) (V : RoadKit.Fld Z U.heap x ST "value" "[B" v0) (C : RoadKit.Fld Z U.heap x ST "coder" "B" c0) :
    ∃ (D : Cell) (fV fC : Field), Blank ST x D U ∧ Found ST "value" "[B" fV U ∧ Found ST "coder" "B" fC U ∧ D.slots[fV.slot]? = some v0 ∧ D.slots[fC.slot]? = some c0 ∧ RoadKit.slotOf Z ST "value" "[B" = fV.slot ∧ RoadKit.slotOf Z ST "coder" "B" = fC.slot := by
  obtain ⟨D, cfV, kV, iV, fV, hD, gV, stV, knV, obV, asV, slV⟩ := V
  obtain ⟨D', cfC, kC, iC, fC, hD', gC, stC, -, -, asC, slC⟩ := C
  cases hD.symm.trans hD'
  obtain ⟨D2, kD, e1, e2, e3, e4, e5⟩ := E
  cases hD.symm.trans e1
  obtain ⟨c2, k2, i1, i2, i3, -⟩ := Cond.instantiable_spec wi
  cases e2.symm.trans i1
  cases e3.symm.trans i2
  obtain ⟨kU, u1, u2⟩ := al.2.2 _ _ e3
  exact ⟨D, fV, fC, ⟨hD, ⟨knV, fun q hq => by rw [hq] at obV; cases obV⟩, by rw [al.findClass]; exact e2, kU, u1, by rw [u2]; exact i3, by rw [u2]; exact e5 i3⟩, ⟨SBG.found_only al ⟨cfV, kV, iV, gV⟩, stV⟩, ⟨SBG.found_only al ⟨cfC, kC, iC, gC⟩, stC⟩, slV, slC, by simp [RoadKit.slotOf, gV], by simp [RoadKit.slotOf, gC]⟩
theorem sta_is {Z U : State} (al : Z.vm.Alike U.vm) {C n d : String} {v : Value} (S : RoadKit.Sta Z U.heap C n d v) : StaticIs U C n d v := by
  obtain ⟨cfS, iS, kS, fS, st, cS, t1, t2, t3, t4, t5, t6, t7⟩ := S
  exact StaticIs.there (s := { Z with heap := U.heap }) ⟨cfS, iS, kS, fS, st, cS, t1, t2, t3, t4, t5, (fun q => by rw [q] at t6; cases t6), t7⟩ al rfl
end StrChars.Road
namespace StrChars
open Jvm Sem ClassFile Op Lib Jvm.Stand Jvm.Free.XT Jvm.Free.ALB Jvm.Free.JM Jvm.Free
open Jvm.Lib.Cold (StaticIs)
/-- what place i of a byte[]'s cell holds -/
def yv (A : Cell) (i : Nat) : Int32 := match A.slots[i]? with | some (.int x) => x | _ => 0
theorem yv_get {a : Addr} {A : Cell} {U : State} (h : XT.Arr .byte a A U) (ht : Typed .byte A) {i : Nat} (hi : i < A.slots.size) : A.slots[i]? = some (.int (yv A i)) := by
  have e := Array.getElem?_eq_getElem hi
  have f := ht i _ e
  unfold yv; rw [e]
  generalize A.slots[i] = v at f
  cases v <;> simp [fits] at f ⊢
/-- the two arrays are equal, place for place -/
def EqC (A B : Cell) : Prop := A.slots.size = B.slots.size ∧ ∀ i, i < A.slots.size → yv A i = yv B i
/-- a boolean that says whether p -/
def Says01 (q : Prop) (r : Option Value) (s u : State) : Prop := ∃ v : Int32, r = some (.int v) ∧ u.heap = s.heap ∧ ((v = 1 ∧ q) ∨ (v = 0 ∧ ¬ q))
theorem Says01.mv {q : Prop} : ∀ r (U U' V V' : State), U'.heap = U.heap → V.vm.Alike V'.vm → V'.heap = V.heap → Says01 q r U V → Says01 q r U' V' :=
  fun r U U' V V' h1 _ h2 ⟨v, a, b, c⟩ => ⟨v, a, by rw [h1, h2]; exact b, c⟩
namespace LEq
def yN : MethodName := ⟨"java/lang/StringLatin1", "equals", "([B[B)Z"⟩
abbrev yB : ByteArray := jdk_43_method_13_code
theorem d0 : decode yB 0 = .ok (.aload_n 0, 1) := by decide +kernel
theorem d1 : decode yB 1 = .ok (.arraylength, 1) := by decide +kernel
theorem d2 : decode yB 2 = .ok (.aload_n 1, 1) := by decide +kernel
theorem d3 : decode yB 3 = .ok (.arraylength, 1) := by decide +kernel
theorem d4 : decode yB 4 = .ok (.if_icmp (.ne) 30, 3) := by decide +kernel
theorem d7 : decode yB 7 = .ok (.iconst 0, 1) := by decide +kernel
theorem d8 : decode yB 8 = .ok (.istore_n 2, 1) := by decide +kernel
theorem d9 : decode yB 9 = .ok (.iload_n 2, 1) := by decide +kernel
theorem d10 : decode yB 10 = .ok (.aload_n 0, 1) := by decide +kernel
theorem d11 : decode yB 11 = .ok (.arraylength, 1) := by decide +kernel
theorem d12 : decode yB 12 = .ok (.if_icmp (.ge) 20, 3) := by decide +kernel
theorem d15 : decode yB 15 = .ok (.aload_n 0, 1) := by decide +kernel
theorem d16 : decode yB 16 = .ok (.iload_n 2, 1) := by decide +kernel
theorem d17 : decode yB 17 = .ok (.baload, 1) := by decide +kernel
theorem d18 : decode yB 18 = .ok (.aload_n 1, 1) := by decide +kernel
theorem d19 : decode yB 19 = .ok (.iload_n 2, 1) := by decide +kernel
theorem d20 : decode yB 20 = .ok (.baload, 1) := by decide +kernel
theorem d21 : decode yB 21 = .ok (.if_icmp (.eq) 5, 3) := by decide +kernel
theorem d24 : decode yB 24 = .ok (.iconst 0, 1) := by decide +kernel
theorem d25 : decode yB 25 = .ok (.ireturn, 1) := by decide +kernel
theorem d26 : decode yB 26 = .ok (.iinc 2 1, 3) := by decide +kernel
theorem d29 : decode yB 29 = .ok (.goto (-20), 3) := by decide +kernel
theorem d32 : decode yB 32 = .ok (.iconst 1, 1) := by decide +kernel
theorem d33 : decode yB 33 = .ok (.ireturn, 1) := by decide +kernel
theorem d34 : decode yB 34 = .ok (.iconst 0, 1) := by decide +kernel
theorem d35 : decode yB 35 = .ok (.ireturn, 1) := by decide +kernel
def site : List Cond := []
def tab : Cond := tabOf yN yB 3 (some .boolean) site
def P (a : Addr) (A : Cell) (b : Addr) (B : Cell) (args : Array Value) (s : State) : Prop := args = #[.ref a, .ref b] ∧ XT.Arr .byte a A s ∧ Typed .byte A ∧ XT.Arr .byte b B s ∧ Typed .byte B
/-- whether two byte[] are equal, place for place -/
theorem law (l : Launch) (a : Addr) (A : Cell) (b : Addr) (B : Cell) : Law l yN 2 2 0 0 yB 3 (some .boolean) site (P a A b B) (Says01 (EqC A B)) [] 0 0 := by
  refine Law.of_walk (plainFor_of_name (by decide +kernel)) (by decide +kernel) (by decide +kernel) (by decide) (fun _ _ h => by rw [h.1]; rfl) (fun _ U U' hal hh h => ⟨h.1, h.2.1.mv hal hh, h.2.2.1, h.2.2.2.1.mv hal hh, h.2.2.2.2⟩) (fun r U U' V V' h1 hal h2 h => Says01.mv r U U' V V' h1 hal h2 h) ?_
  intro p e s m args below meth c s₁ X0 hexec hbytes hml hret hlk hnm hown hh0 W hP
  obtain ⟨rfl, hA, tA, hB, tB⟩ := hP
  have a31 := hA.2.2.2
  have b31 := hB.2.2.2
  have hA0 := hA.mv X0.warmed.alike hh0
  have hB0 := hB.mv X0.warmed.alike hh0
  have c1 : Steps p.tables e below (s₁.setTop (entryFrame m #[.ref a, .ref b] 3)) (s₁.setTop (mkF m 0 #[.val (.ref a), .val (.ref b), .unset] [])) := entry rfl
  have c2 : Steps p.tables e below (s₁.setTop (entryFrame m #[.ref a, .ref b] 3)) (s₁.setTop (mkF m 4 #[.val (.ref a), .val (.ref b), .unset] [.int (Int32.ofNat B.slots.size), .int (Int32.ofNat A.slots.size)])) := c1.trans (by
    refine XS.aloadN X0.here hexec rfl (hb hbytes d0) rfl rfl ?_
    refine X0.alen hexec hA0 rfl rfl (hb hbytes d1) ?_
    refine XS.aloadN X0.here hexec rfl (hb hbytes d2) rfl rfl ?_
    refine X0.alen hexec hB0 rfl rfl (hb hbytes d3) ?_
    exact Steps.refl _)
  by_cases hs : A.slots.size = B.slots.size
  · have c3 : Steps p.tables e below (s₁.setTop (entryFrame m #[.ref a, .ref b] 3)) (s₁.setTop (mkF m 9 #[.val (.ref a), .val (.ref b), .val (.int 0)] [])) := c2.trans (by
      refine XS.icmpNo X0.here hexec rfl (hb hbytes d4) rfl (ii_ne_f (by rw [hs])) ?_
      refine iconstV X0.here hexec rfl 0 (hb hbytes d7) (by decide) ?_
      refine XS.istoreN X0.here hexec rfl (hb hbytes d8) rfl rfl ?_
      exact Steps.refl _)
    have loop : ∀ (r i : Nat), i + r = A.slots.size → (∀ j, j < i → yv A j = yv B j) → Steps p.tables e below (s₁.setTop (entryFrame m #[.ref a, .ref b] 3)) (s₁.setTop (mkF m 9 #[.val (.ref a), .val (.ref b), .val (.int (Int32.ofNat i))] [])) → ∃ (pc : Nat) (Ls : Array Slot) (v : Int32), (pc = 25 ∨ pc = 33) ∧ ((v = 1 ∧ EqC A B) ∨ (v = 0 ∧ ¬ EqC A B)) ∧ Steps p.tables e below (s₁.setTop (entryFrame m #[.ref a, .ref b] 3)) (s₁.setTop (mkF m pc Ls [.int v])) := by
      intro r
      induction r with
      | zero =>
        intro i hi he cl
        exact ⟨33, _, 1, Or.inr rfl, Or.inl ⟨rfl, hs, fun j hj => he j (by omega)⟩, cl.trans (by
          refine XS.iloadN X0.here hexec rfl (hb hbytes d9) rfl ?_
          refine XS.aloadN X0.here hexec rfl (hb hbytes d10) rfl rfl ?_
          refine X0.alen hexec hA0 rfl rfl (hb hbytes d11) ?_
          refine XS.icmpYes X0.here hexec rfl (pc0 := 12) rfl (hb hbytes d12) rfl (ii_ge_t (nlt32 (by omega) (by omega))) (by decide) rfl ?_
          refine iconstV X0.here hexec rfl 1 (hb hbytes d32) (by decide) ?_
          exact Steps.refl _)⟩
      | succ r ih =>
        intro i hi he cl
        have c4 : Steps p.tables e below (s₁.setTop (entryFrame m #[.ref a, .ref b] 3)) (s₁.setTop (mkF m 21 #[.val (.ref a), .val (.ref b), .val (.int (Int32.ofNat i))] [.int (yv B i), .int (yv A i)])) := cl.trans (by
          refine XS.iloadN X0.here hexec rfl (hb hbytes d9) rfl ?_
          refine XS.aloadN X0.here hexec rfl (hb hbytes d10) rfl rfl ?_
          refine X0.alen hexec hA0 rfl rfl (hb hbytes d11) ?_
          refine XS.icmpNo X0.here hexec rfl (hb hbytes d12) rfl (ii_ge_f (lt32 (by omega) (by omega))) ?_
          refine XS.aloadN X0.here hexec rfl (hb hbytes d15) rfl rfl ?_
          refine XS.iloadN X0.here hexec rfl (hb hbytes d16) rfl ?_
          refine X0.aget hexec hA0 rfl (yv_get hA tA (i := i) (by omega)) rfl rfl (hb hbytes d17) ?_
          refine XS.aloadN X0.here hexec rfl (hb hbytes d18) rfl rfl ?_
          refine XS.iloadN X0.here hexec rfl (hb hbytes d19) rfl ?_
          refine X0.aget hexec hB0 rfl (yv_get hB tB (i := i) (by omega)) rfl rfl (hb hbytes d20) ?_
          exact Steps.refl _)
        by_cases hv : yv A i = yv B i
        · have c5 : Steps p.tables e below (s₁.setTop (entryFrame m #[.ref a, .ref b] 3)) (s₁.setTop (mkF m 9 #[.val (.ref a), .val (.ref b), .val (.int (Int32.ofNat i + 1))] [])) := c4.trans (by
            refine XS.icmpYes X0.here hexec rfl (pc0 := 21) rfl (hb hbytes d21) rfl (ii_eq_t hv) (by decide) rfl ?_
            refine iincV X0.here hexec rfl 1 (hb hbytes d26) (by decide) rfl rfl ?_
            refine XS.goto X0.here hexec rfl (pc0 := 29) rfl (hb hbytes d29) (by decide) rfl ?_
            exact Steps.refl _)
          rw [succ32] at c5
          exact ih (i + 1) (by omega) (fun j hj => by
            by_cases e : j = i
            · rw [e]; exact hv
            · exact he j (by omega)) c5
        · exact ⟨25, _, 0, Or.inl rfl, Or.inr ⟨rfl, fun q => hv (q.2 i (by omega))⟩, c4.trans (by
            refine XS.icmpNo X0.here hexec rfl (hb hbytes d21) rfl (ii_eq_f hv) ?_
            refine iconstV X0.here hexec rfl 0 (hb hbytes d24) (by decide) ?_
            exact Steps.refl _)⟩
    obtain ⟨pc, Ls, v, hpc, hv, cz⟩ := loop A.slots.size 0 (by omega) (fun j hj => absurd hj (Nat.not_lt_zero j)) c3
    have nv : narrow .boolean (.int v) = .int v := by rcases hv with ⟨rfl, -⟩ | ⟨rfl, -⟩ <;> rfl
    rcases hpc with rfl | rfl
    · exact ⟨s₁, some (.int v), _, _, _, X0, rfl, rfl, rfl, (fun h => by cases h), ⟨v, rfl, hh0, hv⟩, fun fs hl => cz.trans (X0.ireturnOut hexec hret nv (Or.inr (Or.inl rfl)) (hb hbytes d25) hl)⟩
    · exact ⟨s₁, some (.int v), _, _, _, X0, rfl, rfl, rfl, (fun h => by cases h), ⟨v, rfl, hh0, hv⟩, fun fs hl => cz.trans (X0.ireturnOut hexec hret nv (Or.inr (Or.inl rfl)) (hb hbytes d33) hl)⟩
  · have c3 : Steps p.tables e below (s₁.setTop (entryFrame m #[.ref a, .ref b] 3)) (s₁.setTop (mkF m 35 #[.val (.ref a), .val (.ref b), .unset] [.int 0])) := c2.trans (by
      refine XS.icmpYes X0.here hexec rfl (pc0 := 4) rfl (hb hbytes d4) rfl (ii_ne_t (ne32 a31 b31 hs)) (by decide) rfl ?_
      refine iconstV X0.here hexec rfl 0 (hb hbytes d34) (by decide) ?_
      exact Steps.refl _)
    exact ⟨s₁, some (.int 0), _, _, _, X0, rfl, rfl, rfl, (fun h => by cases h), ⟨0, rfl, hh0, Or.inr ⟨rfl, fun q => hs q.1⟩⟩, fun fs hl => c3.trans (X0.ireturnOut hexec hret rfl (Or.inr (Or.inl rfl)) (hb hbytes d35) hl)⟩
end LEq
theorem Cod.ty {cd : Int32} {n : Nat} {f : Nat → Int32} {V : Cell} (h : Cod cd n f V) : Typed .byte V := fun i v hv => by
  have hi : i < V.slots.size := (Array.getElem?_eq_some_iff.mp hv).1
  rcases h with ⟨-, k1, k2⟩ | ⟨-, k1, k2, -⟩
  · rw [(k2 i (by omega)).1] at hv; cases hv; exact fits_lo8 _
  · rcases Nat.mod_two_eq_zero_or_one i with e | e
    · obtain ⟨j, rfl⟩ : ∃ j, i = 2 * j := ⟨i / 2, by omega⟩
      rw [(k2 j (by omega)).1] at hv; cases hv; exact fits_lo8 _
    · obtain ⟨j, rfl⟩ : ∃ j, i = 2 * j + 1 := ⟨i / 2, by omega⟩
      rw [(k2 j (by omega)).2] at hv; cases hv; exact fits_lo8 _
/-- the same text -/
def SameT (n : Nat) (f : Nat → Int32) (k : Nat) (g : Nat → Int32) : Prop := n = k ∧ ∀ j, j < n → f j = g j
theorem lo8_inj {x y : Int32} (h0 : ¬ x < 0) (h1 : ¬ 255 < x) (k0 : ¬ y < 0) (k1 : ¬ 255 < y) (h : lo8 x = lo8 y) : x = y := by
  rw [← lo8_mask h0 h1, ← lo8_mask k0 k1, h]
/-- arrays coded by one coder are equal just where the texts are -/
theorem Cod.eqv {cd : Int32} {n k : Nat} {f g : Nat → Int32} {V V' : Cell} (h : Cod cd n f V) (h' : Cod cd k g V') (hf : ∀ j, j < n → ¬ f j < 0 ∧ ¬ 65535 < f j) (hg : ∀ j, j < k → ¬ g j < 0 ∧ ¬ 65535 < g j) : EqC V V' ↔ SameT n f k g := by
  have yvv : ∀ {W : Cell} {i : Nat} {x : Int32}, W.slots[i]? = some (.int x) → yv W i = x := fun q => by unfold yv; rw [q]
  rcases h with ⟨rfl, k1, k2⟩ | ⟨rfl, k1, k2, -⟩
  · rcases h' with ⟨-, m1, m2⟩ | ⟨e, -⟩
    · constructor
      · rintro ⟨e1, e2⟩
        refine ⟨by omega, fun j hj => ?_⟩
        have q := e2 j (by omega)
        rw [yvv (k2 j hj).1, yvv (m2 j (by omega)).1] at q
        exact lo8_inj (hf j hj).1 (k2 j hj).2 (hg j (by omega)).1 (m2 j (by omega)).2 q
      · rintro ⟨rfl, e2⟩
        refine ⟨by omega, fun j hj => ?_⟩
        rw [yvv (k2 j (by omega)).1, yvv (m2 j (by omega)).1, e2 j (by omega)]
    · exact absurd e (by decide)
  · rcases h' with ⟨e, -⟩ | ⟨-, m1, m2, -⟩
    · exact absurd e (by decide)
    · constructor
      · rintro ⟨e1, e2⟩
        refine ⟨by omega, fun j hj => ?_⟩
        have q1 := e2 (2 * j) (by omega)
        have q2 := e2 (2 * j + 1) (by omega)
        rw [yvv (k2 j hj).1, yvv (m2 j (by omega)).1] at q1
        rw [yvv (k2 j hj).2, yvv (m2 j (by omega)).2] at q2
        rw [← pair_says (hf j hj).1 (hf j hj).2, ← pair_says (hg j (by omega)).1 (hg j (by omega)).2, q1, q2]
      · rintro ⟨rfl, e2⟩
        refine ⟨by omega, fun i hi => ?_⟩
        rcases Nat.mod_two_eq_zero_or_one i with e | e
        · obtain ⟨j, rfl⟩ : ∃ j, i = 2 * j := ⟨i / 2, by omega⟩
          rw [yvv (k2 j (by omega)).1, yvv (m2 j (by omega)).1, e2 j (by omega)]
        · obtain ⟨j, rfl⟩ : ∃ j, i = 2 * j + 1 := ⟨i / 2, by omega⟩
          rw [yvv (k2 j (by omega)).2, yvv (m2 j (by omega)).2, e2 j (by omega)]
/-- two codings differ: so do the texts -/
theorem Cod.dif {cd cd' : Int32} {n k : Nat} {f g : Nat → Int32} {V V' : Cell} (h : Cod cd n f V) (h' : Cod cd' k g V') (hne : ¬ cd = cd') : ¬ SameT n f k g := by
  rintro ⟨rfl, e⟩
  rcases h with ⟨rfl, -, k2⟩ | ⟨rfl, -, -, j, hj, hw⟩
  · rcases h' with ⟨rfl, -⟩ | ⟨-, -, -, j, hj, hw⟩
    · exact hne rfl
    · exact (k2 j hj).2 (by rw [e j hj]; exact hw)
  · rcases h' with ⟨-, -, m2⟩ | ⟨rfl, -⟩
    · exact (m2 j hj).2 (by rw [← e j hj]; exact hw)
    · exact hne rfl
/-- an object of exactly C is an instance of C -/
theorem cinst {p : Program} {l : Launch} {e : Env} {R : Room} {s : State} {m : MethodId} {args : Array Value} {below : List Frame} {meth : Method} {c : Code} {T : State} {locs : List Loc} {cells slots : Nat} (X : Stand p l e R s m args below meth c T locs cells slots) (hexec : p.tables.exec = Jvm.exec) {own C : String} {index : Nat} (hown : s.vm.findClass own = some m.cls) (hlink : (Cond.classLink own index C).before args s = true) {a : Addr} (hE : Exact C a T)
    {g : JFrame} (hg : g.method = m) {rest : List Value} (hstack : g.stack = .ref a :: rest) (hdg : decode c.code g.pc = .ok (.instanceof index, 3)) :
    ∃ T', Stand p l e R s m args below meth c T' locs cells slots ∧ T'.heap = T.heap ∧ ∀ target, Steps p.tables e below (T'.setTop { g with pc := g.pc + 3, stack := .int 1 :: rest }) target → Steps p.tables e below (T.setTop g) target := by
  obtain ⟨cB, h1, D, h2, h3, h4⟩ := hE
  have h1' : s.vm.findClass C = some cB := by rw [← X.warmed.alike.findClass]; exact h1
  obtain ⟨vm', X', st⟩ := X.instanceofYes hexec hown hlink h2 h4 h1' (by rw [h3]; exact Jvm.Free.SB.assignable_self _ _) hg hstack hdg
  exact ⟨_, X', rfl, st⟩
theorem cself {p : Program} {l : Launch} {e : Env} {R : Room} {s : State} {m : MethodId} {args : Array Value} {below : List Frame} {meth : Method} {c : Code} {T : State} {locs : List Loc} {cells slots : Nat} (X : Stand p l e R s m args below meth c T locs cells slots) (hexec : p.tables.exec = Jvm.exec) {own C : String} {index : Nat} (hown : s.vm.findClass own = some m.cls) (hlink : (Cond.classLink own index C).before args s = true) {a : Addr} (hE : Exact C a T)
    {g : JFrame} (hg : g.method = m) {rest : List Value} (hstack : g.stack = .ref a :: rest) (hdg : decode c.code g.pc = .ok (.checkcast index, 3)) :
    ∃ T', Stand p l e R s m args below meth c T' locs cells slots ∧ T'.heap = T.heap ∧ ∀ target, Steps p.tables e below (T'.setTop { g with pc := g.pc + 3, stack := .ref a :: rest }) target → Steps p.tables e below (T.setTop g) target := by
  obtain ⟨cB, h1, D, h2, h3, h4⟩ := hE
  have h1' : s.vm.findClass C = some cB := by rw [← X.warmed.alike.findClass]; exact h1
  obtain ⟨vm', X', st⟩ := X.checkcastYes hexec hown hlink h2 h4 h1' (by rw [h3]; exact Jvm.Free.SB.assignable_self _ _) hg hstack hdg
  exact ⟨_, X', rfl, fun t h => st t (by rw [← hstack] at h; exact h)⟩
namespace SEq
def yN : MethodName := ⟨"java/lang/String", "equals", "(Ljava/lang/Object;)Z"⟩
abbrev yB : ByteArray := jdk_42_method_66_code
theorem d0 : decode yB 0 = .ok (.aload_n 0, 1) := by decide +kernel
theorem d1 : decode yB 1 = .ok (.aload_n 1, 1) := by decide +kernel
theorem d2 : decode yB 2 = .ok (.if_acmp (.ne) 5, 3) := by decide +kernel
theorem d5 : decode yB 5 = .ok (.iconst 1, 1) := by decide +kernel
theorem d6 : decode yB 6 = .ok (.ireturn, 1) := by decide +kernel
theorem d7 : decode yB 7 = .ok (.aload_n 1, 1) := by decide +kernel
theorem d8 : decode yB 8 = .ok (.instanceof 10, 3) := by decide +kernel
theorem d11 : decode yB 11 = .ok (.ifCond (.eq) 43, 3) := by decide +kernel
theorem d14 : decode yB 14 = .ok (.aload_n 1, 1) := by decide +kernel
theorem d15 : decode yB 15 = .ok (.checkcast 10, 3) := by decide +kernel
theorem d18 : decode yB 18 = .ok (.astore_n 2, 1) := by decide +kernel
theorem d19 : decode yB 19 = .ok (.getstatic 38, 3) := by decide +kernel
theorem d22 : decode yB 22 = .ok (.ifCond (.eq) 14, 3) := by decide +kernel
theorem d25 : decode yB 25 = .ok (.aload_n 0, 1) := by decide +kernel
theorem d26 : decode yB 26 = .ok (.getfield 15, 3) := by decide +kernel
theorem d29 : decode yB 29 = .ok (.aload_n 2, 1) := by decide +kernel
theorem d30 : decode yB 30 = .ok (.getfield 15, 3) := by decide +kernel
theorem d33 : decode yB 33 = .ok (.if_icmp (.ne) 21, 3) := by decide +kernel
theorem d36 : decode yB 36 = .ok (.aload_n 0, 1) := by decide +kernel
theorem d37 : decode yB 37 = .ok (.getfield 9, 3) := by decide +kernel
theorem d40 : decode yB 40 = .ok (.aload_n 2, 1) := by decide +kernel
theorem d41 : decode yB 41 = .ok (.getfield 9, 3) := by decide +kernel
theorem d44 : decode yB 44 = .ok (.invokestatic 541, 3) := by decide +kernel
theorem d47 : decode yB 47 = .ok (.ifCond (.eq) 7, 3) := by decide +kernel
theorem d50 : decode yB 50 = .ok (.iconst 1, 1) := by decide +kernel
theorem d51 : decode yB 51 = .ok (.goto 4, 3) := by decide +kernel
theorem d54 : decode yB 54 = .ok (.iconst 0, 1) := by decide +kernel
theorem d55 : decode yB 55 = .ok (.ireturn, 1) := by decide +kernel
def site : List Cond := [.classLink "java/lang/String" 10 "java/lang/String", .fieldLink "java/lang/String" 38 "java/lang/String" "COMPACT_STRINGS" "Z", .fieldLink "java/lang/String" 15 "java/lang/String" "coder" "B", .fieldLink "java/lang/String" 9 "java/lang/String" "value" "[B", LEq.tab] ++ staticW "java/lang/String" 541 LEq.yN
def tab : Cond := tabOf yN yB 3 (some .boolean) site
def P (x t : Addr) (V : Cell) (cd : Int32) (n : Nat) (f : Nat → Int32) (y t' : Addr) (V' : Cell) (cd' : Int32) (k : Nat) (g : Nat → Int32) (z : Int32) (args : Array Value) (s : State) : Prop := args = #[.ref x, .ref y] ∧ Txt x t V cd n f s ∧ Txt y t' V' cd' k g s ∧ StaticIs s "java/lang/String" "COMPACT_STRINGS" "Z" (.int z) ∧ ¬ z = 0
/-- equals(Object) of two Strings: whether the texts are the same -/
theorem law (l : Launch) (x t : Addr) (V : Cell) (cd : Int32) (n : Nat) (f : Nat → Int32) (y t' : Addr) (V' : Cell) (cd' : Int32) (k : Nat) (g : Nat → Int32) (z : Int32) : Law l yN 2 1 1 14 yB 3 (some .boolean) site (P x t V cd n f y t' V' cd' k g z) (Says01 (SameT n f k g)) [] 0 0 := by
  refine Law.of_walk (plainFor_of_name (by decide +kernel)) (by decide +kernel) (by decide +kernel) (by decide) (fun _ _ h => by rw [h.1]; rfl) (fun _ U U' hal hh h => ⟨h.1, h.2.1.mv hal hh, h.2.2.1.mv hal hh, h.2.2.2.1.there hal hh, h.2.2.2.2⟩) (fun r U U' V V' h1 hal h2 h => Says01.mv r U U' V V' h1 hal h2 h) ?_
  intro p e s m args below meth c s₁ X0 hexec hbytes hml hret hlk hnm hown hh0 W hP
  obtain ⟨rfl, hx, hy, s1, hz⟩ := hP
  have c1 : Steps p.tables e below (s₁.setTop (entryFrame m #[.ref x, .ref y] 3)) (s₁.setTop (mkF m 2 #[.val (.ref x), .val (.ref y), .unset] [.ref y, .ref x])) := Steps.trans (entry rfl) (by
    show Steps p.tables e below (s₁.setTop (mkF m 0 #[.val (.ref x), .val (.ref y), .unset] [])) _
    refine XS.aloadN X0.here hexec rfl (hb hbytes d0) rfl rfl ?_
    refine XS.aloadN X0.here hexec rfl (hb hbytes d1) rfl rfl ?_
    exact Steps.refl _)
  by_cases hxy : x = y
  · have c2 : Steps p.tables e below (s₁.setTop (entryFrame m #[.ref x, .ref y] 3)) (s₁.setTop (mkF m 6 #[.val (.ref x), .val (.ref y), .unset] [.int 1])) := c1.trans (by
      refine acmpNo X0.here hexec rfl (hb hbytes d2) rfl rfl rfl (by simp [acmp, hxy]) ?_
      refine iconstV X0.here hexec rfl 1 (hb hbytes d5) (by decide) ?_
      exact Steps.refl _)
    subst hxy
    have ec : cd = cd' := by
      obtain ⟨D, fd, a1, a2, a3⟩ := hx.2.2.1
      obtain ⟨D', fd', b1, b2, b3⟩ := hy.2.2.1
      cases a1.symm.trans b1
      obtain ⟨q1, q2, q3, q4⟩ := a2.1
      obtain ⟨r1, r2, r3, r4⟩ := b2.1
      cases q4.symm.trans r4
      cases a3.symm.trans b3; rfl
    have et : t = t' := by
      obtain ⟨D, fd, a1, a2, a3⟩ := hx.2.1
      obtain ⟨D', fd', b1, b2, b3⟩ := hy.2.1
      cases a1.symm.trans b1
      obtain ⟨q1, q2, q3, q4⟩ := a2.1
      obtain ⟨r1, r2, r3, r4⟩ := b2.1
      cases q4.symm.trans r4
      cases a3.symm.trans b3; rfl
    subst ec et
    have ev : V = V' := by cases hx.2.2.2.1.1.symm.trans hy.2.2.2.1.1; rfl
    subst ev
    have hs : SameT n f k g := (Cod.eqv hx.2.2.2.2.1 hy.2.2.2.2.1 hx.2.2.2.2.2 hy.2.2.2.2.2).mp ⟨rfl, fun _ _ => rfl⟩
    exact ⟨s₁, some (.int 1), _, _, _, X0, rfl, rfl, rfl, (fun h => by cases h), ⟨1, rfl, hh0, Or.inl ⟨rfl, hs⟩⟩, fun fs hl => c2.trans (X0.ireturnOut hexec hret rfl (Or.inr (Or.inl rfl)) (hb hbytes d6) hl)⟩
  · have c2 : Steps p.tables e below (s₁.setTop (entryFrame m #[.ref x, .ref y] 3)) (s₁.setTop (mkF m 8 #[.val (.ref x), .val (.ref y), .unset] [.ref y])) := c1.trans (by
      refine acmpYes X0.here hexec rfl (pc0 := 2) rfl (hb hbytes d2) rfl rfl rfl (by simp [acmp, hxy]) (by decide) rfl ?_
      refine XS.aloadN X0.here hexec rfl (hb hbytes d7) rfl rfl ?_
      exact Steps.refl _)
    obtain ⟨T3, X3, q3, st3⟩ := cinst X0 hexec hown (wk W (.classLink "java/lang/String" 10 "java/lang/String")) (hy.mv X0.warmed.alike hh0).1 (g := (mkF m 8 #[.val (.ref x), .val (.ref y), .unset] [.ref y])) rfl (rest := []) rfl (hb hbytes d8)
    have hh3 := q3.trans hh0
    have c4 : Steps p.tables e below (s₁.setTop (entryFrame m #[.ref x, .ref y] 3)) (T3.setTop (mkF m 15 #[.val (.ref x), .val (.ref y), .unset] [.ref y])) := (c2.trans (st3 _ (Steps.refl _))).trans (by
      refine XS.ifNo X3.here hexec rfl (hb hbytes d11) rfl (i0_eq_f (by decide)) ?_
      refine XS.aloadN X3.here hexec rfl (hb hbytes d14) rfl rfl ?_
      exact Steps.refl _)
    obtain ⟨T5, X5, q5, st5⟩ := cself X3 hexec hown (wk W (.classLink "java/lang/String" 10 "java/lang/String")) (hy.mv X3.warmed.alike hh3).1 (g := (mkF m 15 #[.val (.ref x), .val (.ref y), .unset] [.ref y])) rfl (rest := []) rfl (hb hbytes d15)
    have hh5 := q5.trans hh3
    have c6 : Steps p.tables e below (s₁.setTop (entryFrame m #[.ref x, .ref y] 3)) (T5.setTop (mkF m 19 #[.val (.ref x), .val (.ref y), .val (.ref y)] [])) := (c4.trans (st5 _ (Steps.refl _))).trans (by
      refine XS.astoreN X5.here hexec rfl (hb hbytes d18) rfl rfl rfl ?_
      exact Steps.refl _)
    obtain ⟨T7, X7, q7, st7⟩ := X5.sget hexec hown (wk W (.fieldLink "java/lang/String" 38 "java/lang/String" "COMPACT_STRINGS" "Z")) s1 (fun _ _ h => by rw [hh5]; exact h) (g := (mkF m 19 #[.val (.ref x), .val (.ref y), .val (.ref y)] [])) rfl (hb hbytes d19)
    have hh7 := q7.trans hh5
    have c8 : Steps p.tables e below (s₁.setTop (entryFrame m #[.ref x, .ref y] 3)) (T7.setTop (mkF m 26 #[.val (.ref x), .val (.ref y), .val (.ref y)] [.ref x])) := (c6.trans (st7 _ (Steps.refl _))).trans (by
      refine XS.ifNo X7.here hexec rfl (hb hbytes d22) rfl (i0_eq_f hz) ?_
      refine XS.aloadN X7.here hexec rfl (hb hbytes d25) rfl rfl ?_
      exact Steps.refl _)
    obtain ⟨T9, X9, q9, st9⟩ := X7.hget hexec hown (wk W (.fieldLink "java/lang/String" 15 "java/lang/String" "coder" "B")) (hx.mv X7.warmed.alike hh7).2.2.1 (g := (mkF m 26 #[.val (.ref x), .val (.ref y), .val (.ref y)] [.ref x])) rfl (rest := []) rfl (hb hbytes d26)
    have hh9 := q9.trans hh7
    have c10 : Steps p.tables e below (s₁.setTop (entryFrame m #[.ref x, .ref y] 3)) (T9.setTop (mkF m 30 #[.val (.ref x), .val (.ref y), .val (.ref y)] [.ref y, .int cd])) := (c8.trans (st9 _ (Steps.refl _))).trans (by
      refine XS.aloadN X9.here hexec rfl (hb hbytes d29) rfl rfl ?_
      exact Steps.refl _)
    obtain ⟨T11, X11, q11, st11⟩ := X9.hget hexec hown (wk W (.fieldLink "java/lang/String" 15 "java/lang/String" "coder" "B")) (hy.mv X9.warmed.alike hh9).2.2.1 (g := (mkF m 30 #[.val (.ref x), .val (.ref y), .val (.ref y)] [.ref y, .int cd])) rfl (rest := [.int cd]) rfl (hb hbytes d30)
    have hh11 := q11.trans hh9
    have c12 : Steps p.tables e below (s₁.setTop (entryFrame m #[.ref x, .ref y] 3)) (T11.setTop (mkF m 33 #[.val (.ref x), .val (.ref y), .val (.ref y)] [.int cd', .int cd])) := c10.trans (st11 _ (Steps.refl _))
    by_cases hcd : cd = cd'
    · subst hcd
      have c13 : Steps p.tables e below (s₁.setTop (entryFrame m #[.ref x, .ref y] 3)) (T11.setTop (mkF m 37 #[.val (.ref x), .val (.ref y), .val (.ref y)] [.ref x])) := c12.trans (by
        refine XS.icmpNo X11.here hexec rfl (hb hbytes d33) rfl (ii_ne_f rfl) ?_
        refine XS.aloadN X11.here hexec rfl (hb hbytes d36) rfl rfl ?_
        exact Steps.refl _)
      obtain ⟨T14, X14, q14, st14⟩ := X11.hget hexec hown (wk W (.fieldLink "java/lang/String" 9 "java/lang/String" "value" "[B")) (hx.mv X11.warmed.alike hh11).2.1 (g := (mkF m 37 #[.val (.ref x), .val (.ref y), .val (.ref y)] [.ref x])) rfl (rest := []) rfl (hb hbytes d37)
      have hh14 := q14.trans hh11
      have c15 : Steps p.tables e below (s₁.setTop (entryFrame m #[.ref x, .ref y] 3)) (T14.setTop (mkF m 41 #[.val (.ref x), .val (.ref y), .val (.ref y)] [.ref y, .ref t])) := (c13.trans (st14 _ (Steps.refl _))).trans (by
        refine XS.aloadN X14.here hexec rfl (hb hbytes d40) rfl rfl ?_
        exact Steps.refl _)
      obtain ⟨T16, X16, q16, st16⟩ := X14.hget hexec hown (wk W (.fieldLink "java/lang/String" 9 "java/lang/String" "value" "[B")) (hy.mv X14.warmed.alike hh14).2.1 (g := (mkF m 41 #[.val (.ref x), .val (.ref y), .val (.ref y)] [.ref y, .ref t])) rfl (rest := [.ref t]) rfl (hb hbytes d41)
      have hh16 := q16.trans hh14
      have c17 : Steps p.tables e below (s₁.setTop (entryFrame m #[.ref x, .ref y] 3)) (T16.setTop (mkF m 44 #[.val (.ref x), .val (.ref y), .val (.ref y)] [.ref t', .ref t])) := c15.trans (st16 _ (Steps.refl _))
      obtain ⟨v18, T18, X18, E18, g18⟩ := X16.callS hexec (LEq.law l t V t' V') hown (wks W (staticW "java/lang/String" 541 LEq.yN)) (wk W LEq.tab) (W := 0) (Nat.le_of_ble_eq_true rfl) (Nat.le_of_ble_eq_true rfl) (Nat.le_refl _) (Nat.le_refl _) (g := (mkF m 44 #[.val (.ref x), .val (.ref y), .val (.ref y)] [.ref t', .ref t])) rfl (by rw [hml]; rfl) c17 (argsL := [.ref t, .ref t']) (rest := []) rfl rfl (by show 2 * 0 + 0 ≤ _; decide) (hb hbytes d44) (⟨rfl, hx.2.2.2.1.mv X16.warmed.alike hh16, hx.2.2.2.2.1.ty, hy.2.2.2.1.mv X16.warmed.alike hh16, hy.2.2.2.2.1.ty⟩)
      obtain ⟨v, rfl, q18, hv⟩ := E18
      have iff := Cod.eqv hx.2.2.2.2.1 hy.2.2.2.2.1 hx.2.2.2.2.2 hy.2.2.2.2.2
      rcases hv with ⟨rfl, he⟩ | ⟨rfl, he⟩
      · have c19 : Steps p.tables e below (s₁.setTop (entryFrame m #[.ref x, .ref y] 3)) (T18.setTop (mkF m 55 #[.val (.ref x), .val (.ref y), .val (.ref y)] [.int 1])) := Steps.trans g18 (by
          refine XS.ifNo X18.here hexec rfl (hb hbytes d47) rfl (i0_eq_f (by decide)) ?_
          refine iconstV X18.here hexec rfl 1 (hb hbytes d50) (by decide) ?_
          refine XS.goto X18.here hexec rfl (pc0 := 51) rfl (hb hbytes d51) (by decide) rfl ?_
          exact Steps.refl _)
        exact ⟨T18, some (.int 1), _, _, _, X18, rfl, rfl, rfl, (fun h => by cases h), ⟨1, rfl, q18.trans hh16, Or.inl ⟨rfl, iff.mp he⟩⟩, fun fs hl => c19.trans (X18.ireturnOut hexec hret rfl (Or.inr (Or.inl rfl)) (hb hbytes d55) hl)⟩
      · have c19 : Steps p.tables e below (s₁.setTop (entryFrame m #[.ref x, .ref y] 3)) (T18.setTop (mkF m 55 #[.val (.ref x), .val (.ref y), .val (.ref y)] [.int 0])) := Steps.trans g18 (by
          refine XS.ifYes X18.here hexec rfl (pc0 := 47) rfl (hb hbytes d47) rfl (i0_eq_t rfl) (by decide) rfl ?_
          refine iconstV X18.here hexec rfl 0 (hb hbytes d54) (by decide) ?_
          exact Steps.refl _)
        exact ⟨T18, some (.int 0), _, _, _, X18, rfl, rfl, rfl, (fun h => by cases h), ⟨0, rfl, q18.trans hh16, Or.inr ⟨rfl, fun q => he (iff.mpr q)⟩⟩, fun fs hl => c19.trans (X18.ireturnOut hexec hret rfl (Or.inr (Or.inl rfl)) (hb hbytes d55) hl)⟩
    · have c13 : Steps p.tables e below (s₁.setTop (entryFrame m #[.ref x, .ref y] 3)) (T11.setTop (mkF m 55 #[.val (.ref x), .val (.ref y), .val (.ref y)] [.int 0])) := c12.trans (by
        refine XS.icmpYes X11.here hexec rfl (pc0 := 33) rfl (hb hbytes d33) rfl (ii_ne_t hcd) (by decide) rfl ?_
        refine iconstV X11.here hexec rfl 0 (hb hbytes d54) (by decide) ?_
        exact Steps.refl _)
      exact ⟨T11, some (.int 0), _, _, _, X11, rfl, rfl, rfl, (fun h => by cases h), ⟨0, rfl, hh11, Or.inr ⟨rfl, Cod.dif hx.2.2.2.2.1 hy.2.2.2.2.1 hcd⟩⟩, fun fs hl => c13.trans (X11.ireturnOut hexec hret rfl (Or.inr (Or.inl rfl)) (hb hbytes d55) hl)⟩
theorem pays {l : Launch} {R : Room} {p : Program} {e : Env} {below : List Frame} {s : State} {sargs : Array Value} {len W : Nat} (x t : Addr) (V : Cell) (cd : Int32) (n : Nat) (f : Nat → Int32) (y t' : Addr) (V' : Cell) (cd' : Int32) (k : Nat) (g : Nat → Int32) (z : Int32) (htab : tab.before sargs s = true) (hfr : 2 ≤ R.frames) (hlo : W + 28 ≤ R.locals) :
    Back l R p e below s sargs yN len W (fun A₁ a₁ => A₁.cells + 0 ≤ R.cells ∧ A₁.slots + 0 ≤ R.slots ∧ P x t V cd n f y t' V' cd' k g z a₁ A₁.U) (fun A₁ _ v₁ B₁ => Says01 (SameT n f k g) v₁ A₁.U B₁.U ∧ B₁.locs = A₁.locs ++ [] ∧ B₁.cells = A₁.cells + 0 ∧ B₁.slots = A₁.slots + 0) :=
  (law l x t V cd n f y t' V' cd' k g z).pays htab hfr (by omega)
end SEq
end StrChars
namespace StrChars.Road
open Jvm Sem ClassFile Op Lib Jvm.Stand Jvm.Free Jvm.Free.XT
open Jvm.Lib.Cold (StaticIs)
/-- the words of String.equals(Object) -/
abbrev wordsEq : List Jvm.Cond := [.code SEq.yN SEq.yB 3 (some .boolean), .initialized ST, .classLink ST 10 ST, .fieldLink ST 38 ST "COMPACT_STRINGS" "Z", .fieldLink ST 15 ST "coder" "B", .fieldLink ST 9 ST "value" "[B", .methodLink ST 541 LEq.yN, .static LEq.yN, .code LEq.yN LEq.yB 3 (some .boolean), .initialized "java/lang/StringLatin1"]
theorem tabEq_of {a : Array Value} {s : State} (h : ∀ w ∈ wordsEq, w.before a s = true) : SEq.tab.before a s = true := by
  have hl : LEq.tab.before a s = true := unparts (wk h (.code LEq.yN LEq.yB 3 (some .boolean))) (wks h (.initialized LEq.yN.cls :: LEq.site))
  have q := consq hl h
  exact unparts (wk q (.code SEq.yN SEq.yB 3 (some .boolean))) (wks q (.initialized SEq.yN.cls :: SEq.site))
theorem movedEq {Z s : State} {a0 args : Array Value} (hZ : Z.Warmed39 s.vm) (hw : ∀ d ∈ wordsEq, d.before a0 Z = true) : ∀ d ∈ wordsEq, d.before args s = true := fun d hd => by
  have t : ∀ d ∈ wordsEq, (d.onTables && d.keepsFace) = true := by decide +kernel
  exact RoadKit.mv hZ (hw d hd) (t d hd)
/-- the road's facts of a String, as the laws ask it -/
theorem txt_of {Z U : State} {a0 : Array Value} {kI : Nat} (wi : (Jvm.Cond.instantiable ST kI).before a0 Z = true) (al : Z.vm.Alike U.vm) {x t : Addr} {kb : ClassId} {cs : List Int32} {cd N2 : Int32} {vs : List Value} (E : RoadKit.Exa Z U.heap x ST) (V : RoadKit.Fld Z U.heap x ST "value" "[B" (.ref t)) (C : RoadKit.Fld Z U.heap x ST "coder" "B" (.int cd)) (K : RoadKit.Arv Z U.heap t kb .byte N2 vs (.int 0)) (hc : CodA cs cd N2 vs) (hb : ∀ c ∈ cs, ¬ c < 0 ∧ ¬ (65535 : Int32) < c) (l2 : cs.length ≤ 4000) :
    ∃ A, Txt x t A cd cs.length (fun j => cs.getD j 0) U := by
  obtain ⟨A, K1, K2, K3, K4, K5, K6⟩ := K
  have hcod := hc.cod (by omega) K3 K5
  obtain ⟨D, fV, fC, hB, F1, F2, g1, g2, -, -⟩ := strObj wi al E V C
  exact ⟨A, ⟨_, hB.2.2.1, D, hB.1, rfl, by cases q : D.vm <;> first | rfl | exact absurd q (hB.2.1.2 _)⟩, Has.of hB F1 g1, Has.of hB F2 g2, ⟨K1.1, State.isArrayOf_alike al K1.2.1, K1.2.2, by rcases hcod with ⟨-, q, -⟩ | ⟨-, q, -⟩ <;> omega⟩, hcod, fun j hj => by
    have e : cs.getD j 0 = cs[j] := by simp [List.getD_eq_getElem?_getD, hj]
    show ¬ cs.getD j 0 < 0 ∧ ¬ 65535 < cs.getD j 0
    rw [e]; exact hb _ (List.getElem_mem _)⟩
theorem same_list (cs ds : List Int32) : SameT cs.length (fun j => cs.getD j 0) ds.length (fun j => ds.getD j 0) ↔ cs = ds := by
  constructor
  · rintro ⟨e, q⟩
    refine List.ext_getElem e fun j h1 h2 => ?_
    have := q j h1
    simpa [List.getD_eq_getElem?_getD, h1, h2] using this
  · rintro rfl
    exact ⟨rfl, fun _ _ => rfl⟩
/-- **equals(Object) OF TWO SUCH STRINGS**: 1 just where the chars are the same -/
theorem eqW {p : Program} {l : Launch} {e : Env} {R : Room} {s : State} {args : Array Value} {below : List Frame} {len W : Nat} {Z : State} {a0 : Array Value} {h : Heap} (hZ : Z.Warmed39 s.vm) (hw : ∀ d ∈ wordsEq, d.before a0 Z = true) {kI : Nat} (wi : (Jvm.Cond.instantiable ST kI).before a0 Z = true)
    {x t : Addr} {kb : ClassId} {cs : List Int32} {cd N2 : Int32} {vs : List Value} (E : RoadKit.Exa Z h x ST) (V : RoadKit.Fld Z h x ST "value" "[B" (.ref t)) (C : RoadKit.Fld Z h x ST "coder" "B" (.int cd)) (K : RoadKit.Arv Z h t kb .byte N2 vs (.int 0)) (hc : CodA cs cd N2 vs) (hb : ∀ c ∈ cs, ¬ c < 0 ∧ ¬ (65535 : Int32) < c) (l2 : cs.length ≤ 4000)
    {y t' : Addr} {kb' : ClassId} {ds : List Int32} {cd' N2' : Int32} {vs' : List Value} (E' : RoadKit.Exa Z h y ST) (V' : RoadKit.Fld Z h y ST "value" "[B" (.ref t')) (C' : RoadKit.Fld Z h y ST "coder" "B" (.int cd')) (K' : RoadKit.Arv Z h t' kb' .byte N2' vs' (.int 0)) (hc' : CodA ds cd' N2' vs') (hb' : ∀ c ∈ ds, ¬ c < 0 ∧ ¬ (65535 : Int32) < c) (l2' : ds.length ≤ 4000)
    {z : Int32} (S : RoadKit.Sta Z h ST "COMPACT_STRINGS" "Z" (.int z)) (hz : ¬ z = 0) (hfr : 2 ≤ R.frames) (hlo : W + 28 ≤ R.locals) :
    Back l R p e below s args (⟨"java/lang/String", "equals", "(Ljava/lang/Object;)Z"⟩ : MethodName) len W (fun P a => a = #[.ref x, .ref y] ∧ P.U.heap = h ∧ P.cells + 0 ≤ R.cells ∧ P.slots + 0 ≤ R.slots)
      (fun P _ v B => ∃ L, (((v = some (.int 1) ∧ cs = ds) ∨ (v = some (.int 0) ∧ ¬ cs = ds)) ∧ L = [] ∧ B.U.heap = h) ∧ B.locs = P.locs ++ L ∧ B.cells = P.cells + 0 ∧ B.slots = P.slots + 0) := by
  intro m meth c P g ig mk a X hg hsize hdg hW hn hp'
  obtain ⟨rfl, rfl, r1, r2⟩ := hp'
  have al : Z.vm.Alike P.U.vm := hZ.alike.trans X.warmed.alike
  obtain ⟨A, hx⟩ := txt_of wi al E V C K hc hb l2
  obtain ⟨A', hy⟩ := txt_of wi al E' V' C' K' hc' hb' l2'
  obtain ⟨v, B, X', ⟨⟨w, hv, hh, hq⟩, hl, hk, hs⟩, st⟩ := SEq.pays x t A cd cs.length (fun j => cs.getD j 0) y t' A' cd' ds.length (fun j => ds.getD j 0) z (tabEq_of (movedEq hZ hw)) hfr hlo m meth c P g ig mk _ X hg hsize hdg hW hn ⟨r1, r2, rfl, hx, hy, sta_is al S, hz⟩
  refine ⟨v, B, X', ⟨[], ⟨?_, rfl, hh⟩, hl, hk, hs⟩, st⟩
  rcases hq with ⟨rfl, q⟩ | ⟨rfl, q⟩
  · exact Or.inl ⟨hv, (same_list cs ds).mp q⟩
  · exact Or.inr ⟨hv, fun e => q ((same_list cs ds).mpr e)⟩
end StrChars.Road
namespace StrChars.Road
open Jvm Sem ClassFile Op Lib Jvm.Stand Jvm.Free Jvm.Free.XT
open Jvm.Lib.Cold (StaticIs)
/-- what backV says of its String, as the contracts of this text ask it: cs's low bytes, coder 0 -/
theorem codOf {cs : List Int32} {n : Nat} (hn : cs.length = n) (hb : ∀ c ∈ cs, ¬ 255 < c) : CodA cs 0 (Int32.ofNat n) ((cs.map lo8).map Value.int) := Or.inl ⟨rfl, by rw [hn], by simp [List.map_map, Function.comp_def], hb⟩
end StrChars.Road
end Jvm.Pilot.@@N@@

namespace Jvm.Pilot.@@N@@
open Jvm Jvm.ClassFile Sem Op Lib Jvm.Free Jvm.Stand Jvm.LawKit Jvm.RoadKit Bundle Jvm.Pilot.@@N@@.Jvm.D
theorem own_w {Z : State} {a0 : Array Value} (hw : ∀ d ∈ tables_1, d.before a0 Z = true) (i : Nat) {d : Jvm.Cond} (h : tables_1[i]? = some d) : d.before a0 Z = true := hw _ (List.mem_of_getElem? h)
/-! own layer: a body's rest as one predicate (OFin), a contract (OMet), calls that give the plain facts back -/
def OFin (p : Program) (e : Env) (below : List Frame) (s : State) (kc ks : Nat) (Q : Option Value → Heap → List Loc → Prop) (S : State) : Prop :=
  ∃ s₂ o, Steps p.tables e below S s₂ ∧ s₂.status = .running ∧ Ended s₂ below o ∧ ∃ v L, o = .returned v ∧ Q v s₂.heap L ∧ FrameEnd s o s₂ L kc ks
def OMet (l : Launch) (Z : State) (y : MethodName) (bytes : ByteArray) (maxL : Nat) (ret : Option FieldType) (rm : Room) (as' : Array Value) (h0 : Heap) (Q : Option Value → Heap → List Loc → Prop) : Prop :=
  ∀ ws : List Jvm.Cond, MetFree l y (head1 (Jvm.Cond.code y bytes maxL ret :: ws) rm) (fun a U => a = as' ∧ Z.Warmed39 U.vm ∧ U.heap = h0) (fun _ _ _ _ _ => True) (fun _ U o U' => ∃ v L, o = .returned v ∧ Q v U'.heap L ∧ FrameEnd U o U' L rm.cells rm.slots)
def OCtx (Z : State) (p : Program) (s : State) (m : MethodId) (meth : Method) (c : Code) (cls nam : String) (bytes : ByteArray) (maxL : Nat) (ret : Option FieldType) : Prop :=
  p.tables.exec = Jvm.exec ∧ Z.Warmed39 s.vm ∧ c.code = bytes ∧ c.maxLocals = maxL ∧ s.vm.findClass cls = some m.cls ∧ meth.sig.returnType = ret ∧ meth.locks = false ∧ meth.name = nam
section OwnLayer
variable {p : Program} {l : Launch} {e : Env} {R : Room} {s : State} {m : MethodId} {args : Array Value} {below : List Frame} {meth : Method} {c : Code} {T : State} {locs : List Loc} {cells slots : Nat} {Z : State} {a0 : Array Value} {h : Heap}
variable {kc ks : Nat} {Q : Option Value → Heap → List Loc → Prop}
theorem own_st {A B : State} (hs : ∀ t, Steps p.tables e below B t → Steps p.tables e below A t) (k : OFin p e below s kc ks Q B) : OFin p e below s kc ks Q A := by
  obtain ⟨s₂, o, h1, r⟩ := k; exact ⟨s₂, o, hs _ h1, r⟩
theorem own_at {g g' : JFrame} (q : g = g') (k : OFin p e below s kc ks Q (T.setTop g')) : OFin p e below s kc ks Q (T.setTop g) := q ▸ k
theorem own_mono {Q' : Option Value → Heap → List Loc → Prop} {S : State} (k : OFin p e below s kc ks Q S) (q : ∀ v h L, Q v h L → Q' v h L) : OFin p e below s kc ks Q' S := by
  obtain ⟨s₂, o, h1, h2, h3, v, L, h4, h5, h6⟩ := k; exact ⟨s₂, o, h1, h2, h3, v, L, h4, q _ _ _ h5, h6⟩
theorem own_enter {y : MethodName} {bytes : ByteArray} {maxL : Nat} {ret : Option FieldType} {rm : Room} {as' : Array Value} {h0 : Heap} (hp : plainFor y = true)
    (hB : ∀ (p : Program) (e : Env) (s : State) (m : MethodId) (below : List Frame) (meth : Method) (c : Code) (T : State), Stand p l e rm s m as' below meth c T [] 0 0 → OCtx Z p s m meth c y.cls y.name bytes maxL ret → T.heap = h0 → OFin p e below s rm.cells rm.slots Q (T.setTop (entryFrame m as' maxL))) :
    OMet l Z y bytes maxL ret rm as' h0 Q := by
  intro ws
  refine MetFree.of_bodySF hp hisR ?_
  intro p e s m args below meth c s₁ Bd hml0 hP hK
  obtain ⟨rfl, hZ, hh⟩ := hP
  exact hB p e s m below meth c s₁ (Stand.of_body Bd) ⟨Bd.exec, hZ, Bd.bytes, hml0, findClass_of_methodNamed Bd.named, Bd.returns, BodyLoose.notSynchronized Bd, (name_of_methodNamed Bd.named Bd.method).1⟩ (by rw [← hh, Bd.state]; rfl)
theorem own_ret (X : Stand p l e R s m args below meth c T locs cells slots) (hx : p.tables.exec = Jvm.exec) {t : FieldType} (hret : meth.sig.returnType = some t) (hlk : meth.locks = false) {pc : Nat} {Ls : Array Slot} {w : Value} {i : Instr} {rest : List Value} (hn : narrow t w = w)
    (hi : (i = .ireturn ∧ (t = .int ∨ t = .boolean ∨ t = .byte ∨ t = .char ∨ t = .short) ∧ ∃ z, w = .int z) ∨ (i = .lreturn ∧ t = .long ∧ ∃ z, w = .long z) ∨ (i = .dreturn ∧ t = .double ∧ ∃ z, w = .double z) ∨ (i = .freturn ∧ t = .float ∧ ∃ z, w = .float z) ∨ (i = .areturn ∧ t.isReference = true ∧ w.isRef = true))
    (hd : decode c.code pc = .ok (i, 1)) (hc : cells ≤ kc) (hs : slots ≤ ks) (hq : Q (some w) T.heap locs) : OFin p e below s kc ks Q (T.setTop (mkF m pc Ls (w :: rest))) := by
  obtain ⟨fs, hr, hrun, hended, hW, hsame⟩ := X.leave (v := some w) (fun h => by rw [hret] at h; cases h) hlk
  exact ⟨_, _, retOut X hx hret hn hi hd hr, hrun, hended, _, _, rfl, hq, ⟨_, rfl⟩, hW, hsame.mono hc hs⟩
theorem own_retV (X : Stand p l e R s m args below meth c T locs cells slots) (hx : p.tables.exec = Jvm.exec) (hret : meth.sig.returnType = none) (hlk : meth.locks = false) {pc : Nat} {Ls : Array Slot}
    (hd : decode c.code pc = .ok (.return_, 1)) (hc : cells ≤ kc) (hs : slots ≤ ks) (hq : Q none T.heap locs) : OFin p e below s kc ks Q (T.setTop (mkF m pc Ls [])) := by
  obtain ⟨fs, hr, hrun, hended, hW, hsame⟩ := X.leave (v := none) (fun _ => rfl) hlk
  exact ⟨_, _, X.returnOut hx hret hd hr, hrun, hended, _, _, rfl, hq, ⟨_, rfl⟩, hW, hsame.mono hc hs⟩
theorem own_back {y : MethodName} {bytes : ByteArray} {maxL : Nat} {ret : Option FieldType} {rm : Room} {len W : Nat} {as' : Array Value} (hM : OMet l Z y bytes maxL ret rm as' h Q) (hZ : Z.Warmed39 s.vm) (wc : (Jvm.Cond.code y bytes maxL ret).before a0 Z = true) (wz : (Jvm.Cond.initialized y.cls).before a0 Z = true) (hf : rm.frames + 1 ≤ R.frames) (hl : W + (maxL + 11) + rm.locals ≤ R.locals) :
    Back l R p e below s args y len W (fun A a => a = as' ∧ A.U.heap = h ∧ A.cells + rm.cells ≤ R.cells ∧ A.slots + rm.slots ≤ R.slots)
      (fun A _ v B => ∃ L, Q v B.U.heap L ∧ B.locs = A.locs ++ L ∧ B.cells = A.cells + rm.cells ∧ B.slots = A.slots + rm.slots) := backOf (hM []) hZ wc wz hf hl
theorem own_static (X : Stand p l e R s m args below meth c T locs cells slots) (hx : p.tables.exec = Jvm.exec) (hZ : Z.Warmed39 s.vm) {own : String} {index : Nat} {y : MethodName} {bytes : ByteArray} {maxL : Nat} {ret : Option FieldType} {rm : Room} {W : Nat} {argsL rest : List Value}
    (hown : s.vm.findClass own = some m.cls) (w1 : (Jvm.Cond.methodLink own index y).before a0 Z = true) (w2 : (Jvm.Cond.static y).before a0 Z = true) (wz : (Jvm.Cond.initialized y.cls).before a0 Z = true) (wc : (Jvm.Cond.code y bytes maxL ret).before a0 Z = true)
    (hM : OMet l Z y bytes maxL ret rm argsL.toArray h Q) (eT : T.heap = h) {g : JFrame} (hg : g.method = m) (hsize : g.locals.size = c.maxLocals) (hlen : ∀ sig, parseMethodDescriptor y.desc = some sig → argsL.length = sig.parameters.length)
    (hstack : g.stack = argsL.reverse ++ rest) (hW : 2 * g.monitorRoom + (rest.map fun v => v.category).sum ≤ W) (hdg : decode c.code g.pc = .ok (.invokestatic index, 3))
    (hf : rm.frames + 1 ≤ R.frames) (hl : W + (maxL + 11) + rm.locals ≤ R.locals) (hc : cells + rm.cells ≤ R.cells) (hs : slots + rm.slots ≤ R.slots)
    (hy : y.cls ≠ "java/lang/invoke/MethodHandle" ∧ y.cls ≠ "java/lang/invoke/VarHandle" := by decide) :
    ∃ (v : Option Value) (T' : State) (L : List Loc), Stand p l e R s m args below meth c T' (locs ++ L) (cells + rm.cells) (slots + rm.slots) ∧ Q v T'.heap L ∧
      ∀ target, Steps p.tables e below (T'.setTop { g with pc := g.pc + 3, stack := v.toList ++ rest }) target → Steps p.tables e below (T.setTop g) target := by
  obtain ⟨v, vm₁, ⟨T', L', k', n'⟩, -, X', ⟨L, hQ, l1, y1, z1⟩, st⟩ := Jvm.LawKit.callS X hx hown (mvT hZ w1) (mvT hZ w2) (mvT hZ wz) (mvT hZ wc) hy (own_back (W := W) hM hZ wc wz hf hl) hg hsize hlen hstack hW hdg (fun _ _ => ⟨rfl, eT, hc, hs⟩)
  dsimp only [Pt.U, Pt.locs, Pt.cells, Pt.slots] at X' l1 y1 z1 st hQ
  subst l1 y1 z1
  exact ⟨v, T', L, X', hQ, st⟩
theorem own_init (X : Stand p l e R s m args below meth c T locs cells slots) (hx : p.tables.exec = Jvm.exec) (hZ : Z.Warmed39 s.vm) {own : String} {index : Nat} {y : MethodName} {bytes : ByteArray} {maxL : Nat} {rm : Room} {W : Nat} {a : Addr} {argsL rest : List Value} (hy1 : y.name = "<init>")
    (hown : s.vm.findClass own = some m.cls) (w1 : (Jvm.Cond.methodLink own index y).before a0 Z = true) (w2 : (Jvm.Cond.instanceMethod y).before a0 Z = true) (wz : (Jvm.Cond.initialized y.cls).before a0 Z = true) (wc : (Jvm.Cond.code y bytes maxL none).before a0 Z = true)
    (hM : OMet l Z y bytes maxL none rm (.ref a :: argsL).toArray h Q) (eT : T.heap = h) {g : JFrame} (hg : g.method = m) (hsize : g.locals.size = c.maxLocals) (hlen : ∀ sig, parseMethodDescriptor y.desc = some sig → argsL.length = sig.parameters.length)
    (hstack : g.stack = argsL.reverse ++ .ref a :: rest) (hW : 2 * g.monitorRoom + (rest.map fun v => v.category).sum ≤ W) (hdg : decode c.code g.pc = .ok (.invokespecial index, 3))
    (hf : rm.frames + 1 ≤ R.frames) (hl : W + (maxL + 11) + rm.locals ≤ R.locals) (hc : cells + rm.cells ≤ R.cells) (hs : slots + rm.slots ≤ R.slots)
    (hy : y.cls ≠ "java/lang/invoke/MethodHandle" ∧ y.cls ≠ "java/lang/invoke/VarHandle" := by decide) :
    ∃ (v : Option Value) (T' : State) (L : List Loc), Stand p l e R s m args below meth c T' (locs ++ L) (cells + rm.cells) (slots + rm.slots) ∧ Q v T'.heap L ∧
      ∀ target, Steps p.tables e below (T'.setTop { g with pc := g.pc + 3, stack := v.toList ++ rest }) target → Steps p.tables e below (T.setTop g) target := by
  obtain ⟨v, vm₁, ⟨T', L', k', n'⟩, -, X', ⟨L, hQ, l1, y1, z1⟩, st⟩ := X.specialBack hx hy1 hown (mvT hZ w1) (mvT hZ w2) (mvT hZ wc) hy (own_back (W := W) hM hZ wc wz hf hl) hg hsize (Steps.refl _) hlen hstack hW hdg (fun _ _ => ⟨rfl, eT, hc, hs⟩)
  dsimp only [Pt.U, Pt.locs, Pt.cells, Pt.slots] at X' l1 y1 z1 st hQ
  subst l1 y1 z1
  exact ⟨v, T', L, X', hQ, fun t k => st.trans k⟩
theorem own_virtual (X : Stand p l e R s m args below meth c T locs cells slots) (hx : p.tables.exec = Jvm.exec) (hZ : Z.Warmed39 s.vm) {own C : String} {index : Nat} {y z : MethodName} {bytes : ByteArray} {maxL : Nat} {ret : Option FieldType} {rm : Room} {W : Nat} {a : Addr} {argsL rest : List Value}
    (hown : s.vm.findClass own = some m.cls) (w1 : (Jvm.Cond.methodLink own index y).before a0 Z = true) (w2 : (Jvm.Cond.declares y).before a0 Z = true) (hnf : NotFace s y) (w3 : (Jvm.Cond.selects C y z).before a0 Z = true) (w4 : (Jvm.Cond.instanceMethod z).before a0 Z = true) (wz : (Jvm.Cond.initialized z.cls).before a0 Z = true) (wc : (Jvm.Cond.code z bytes maxL ret).before a0 Z = true)
    (hM : OMet l Z z bytes maxL ret rm (.ref a :: argsL).toArray h Q) (eT : T.heap = h) (E : Exa Z h a C) {g : JFrame} (hg : g.method = m) (hsize : g.locals.size = c.maxLocals) (hlen : ∀ sig, parseMethodDescriptor y.desc = some sig → argsL.length = sig.parameters.length)
    (hstack : g.stack = argsL.reverse ++ .ref a :: rest) (hW : 2 * g.monitorRoom + (rest.map fun v => v.category).sum ≤ W) (hdg : decode c.code g.pc = .ok (.invokevirtual index, 3))
    (hf : rm.frames + 1 ≤ R.frames) (hl : W + (maxL + 11) + rm.locals ≤ R.locals) (hc : cells + rm.cells ≤ R.cells) (hs : slots + rm.slots ≤ R.slots)
    (hy : y.cls ≠ "java/lang/invoke/MethodHandle" ∧ y.cls ≠ "java/lang/invoke/VarHandle" := by decide) :
    ∃ (v : Option Value) (T' : State) (L : List Loc), Stand p l e R s m args below meth c T' (locs ++ L) (cells + rm.cells) (slots + rm.slots) ∧ Q v T'.heap L ∧
      ∀ target, Steps p.tables e below (T'.setTop { g with pc := g.pc + 3, stack := v.toList ++ rest }) target → Steps p.tables e below (T.setTop g) target := by
  obtain ⟨cq, kq, qa, qb, qc⟩ := isOf hZ eT E
  obtain ⟨v, vm₁, ⟨T', L', k', n'⟩, -, X', ⟨L, hQ, l1, y1, z1⟩, st⟩ := X.virtualBack hx hown (mvT hZ w1) (mvT hZ w2) hnf (mvT hZ w3) (mvT hZ w4) hy (own_back (W := W) hM hZ wc wz hf hl) qa qc hg hsize (Steps.refl _) hlen hstack hW hdg (fun _ _ => ⟨rfl, eT, hc, hs⟩)
  dsimp only [Pt.U, Pt.locs, Pt.cells, Pt.slots] at X' l1 y1 z1 st hQ
  subst l1 y1 z1
  exact ⟨v, T', L, X', hQ, fun t k => st.trans k⟩
end OwnLayer
/-! own layer 2: an array as a function of the place -/
def OArr (Z : State) (h : Heap) (a : Addr) (ty : FieldType) (N : Nat) (f : Nat → Value) : Prop := ∃ c : Cell, Arr Z h a c ty ∧ c.slots.size = N ∧ N < 2 ^ 31 ∧ ∀ i, i < N → c.slots[i]? = some (f i)
section OwnArr
variable {Z : State} {h h' : Heap} {a b : Addr} {ty : FieldType} {N : Nat} {f : Nat → Value} {ws : List Addr} {sl : Nat} {v : Value}
theorem OArr.lt (F : OArr Z h a ty N f) : a < h.size := by obtain ⟨c, A, -⟩ := F; exact A.lt
theorem OArr.ext (F : OArr Z h a ty N f) (E : Ext h h') : OArr Z h' a ty N f := by obtain ⟨c, A, r⟩ := F; exact ⟨c, A.ext E, r⟩
theorem OArr.other (F : OArr Z h b ty N f) (W : Wr h h' a sl v) (q : b ≠ a) : OArr Z h' b ty N f := by obtain ⟨c, A, r⟩ := F; exact ⟨c, A.other W q, r⟩
theorem OArr.keep (F : OArr Z h a ty N f) (K : Keep h h' ws) (q : a ∉ ws) : OArr Z h' a ty N f := by obtain ⟨c, A, r⟩ := F; exact ⟨c, ⟨K.2.1 a c A.1 q, A.2⟩, r⟩
theorem OArr.set (F : OArr Z h a ty N f) {j : Nat} (W : Wr h h' a j v) : OArr Z h' a ty N (fun i => if i = j then v else f i) := by
  obtain ⟨c, A, S, B, H⟩ := F
  refine ⟨_, A.same W, by rw [sz_set]; exact S, B, fun i hi => ?_⟩
  show (c.slots.setIfInBounds j v)[i]? = some (if i = j then v else f i)
  by_cases q : i = j
  · subst q; simp [S, hi]
  · rw [Array.getElem?_setIfInBounds_ne (Ne.symm q), if_neg q]; exact H i hi
theorem OArr.setI {g : Nat → Int32} (F : OArr Z h a ty N (fun i => .int (g i))) {j : Nat} {x : Int32} (W : Wr h h' a j (.int x)) : OArr Z h' a ty N (fun i => .int (if i = j then x else g i)) := by
  have q := F.set W
  have e : (fun i => if i = j then Value.int x else Value.int (g i)) = fun i => Value.int (if i = j then x else g i) := by funext i; split <;> rfl
  rw [e] at q; exact q
theorem OArr.setJ {g : Nat → Int64} (F : OArr Z h a ty N (fun i => .long (g i))) {j : Nat} {x : Int64} (W : Wr h h' a j (.long x)) : OArr Z h' a ty N (fun i => .long (if i = j then x else g i)) := by
  have q := F.set W
  have e : (fun i => if i = j then Value.long x else Value.long (g i)) = fun i => Value.long (if i = j then x else g i) := by funext i; split <;> rfl
  rw [e] at q; exact q
theorem own_clamp (z : Int32) : z.toNatClampNeg < 2 ^ 31 := by have := z.toInt_lt; simp only [Int32.toNatClampNeg]; omega
theorem OArr.new {k : ClassId} {z : Int32} (A : Arr Z h a (newA k ty z) ty) (q : z.toNatClampNeg = N) : OArr Z h a ty N (fun _ => defaultValue ty) :=
  ⟨_, A, by rw [sz_new]; exact q, by rw [← q]; exact own_clamp z, fun i hi => by rw [← q] at hi; simp [newA, hi]⟩
theorem OArr.of {k : ClassId} {z : Int32} {vs : List Value} {dv : Value} (A : Arv Z h a k ty z vs dv) (q : z.toNatClampNeg = N) (r : ∀ i, i < N → vs.getD i dv = f i) : OArr Z h a ty N f := by
  obtain ⟨c, A1, -, S, -, H, -⟩ := A
  exact ⟨c, A1, by rw [S]; exact q, by rw [← q]; exact own_clamp z, fun i hi => by rw [← r i hi]; exact H i (by rw [S, q]; exact hi)⟩
theorem OArr.congr {g : Nat → Value} (F : OArr Z h a ty N f) (r : ∀ i, i < N → f i = g i) : OArr Z h a ty N g := by
  obtain ⟨c, A, S, B, H⟩ := F; exact ⟨c, A, S, B, fun i hi => by rw [← r i hi]; exact H i hi⟩
theorem own_inb {c : Cell} {j : Int32} {i : Nat} (S : c.slots.size = N) (h0 : ¬ j < 0) (hj : j.toNatClampNeg = i) (hi : i < N) : ¬ (j < 0 ∨ c.slots.size ≤ j.toNatClampNeg) := by
  rintro (q | q)
  · exact h0 q
  · rw [S, hj] at q; omega
theorem own_hv {c : Cell} {j : Int32} {i : Nat} (H : ∀ i, i < N → c.slots[i]? = some (f i)) (hj : j.toNatClampNeg = i) (hi : i < N) : c.slots[j.toNatClampNeg]? = some (f i) := by rw [hj]; exact H i hi
theorem own_len {c : Cell} {z : Int32} (S : c.slots.size = N) (q : N.toInt32 = z) : c.slots.size.toInt32 = z := by rw [S]; exact q
theorem own_wrj {j : Int32} {i : Nat} (W : Wr h h' a j.toNatClampNeg v) (hj : j.toNatClampNeg = i) : Wr h h' a i v := hj ▸ W
theorem own_nb (x : Int32) : nar .byte (x.toInt8.toInt32) = x.toInt8.toInt32 := by show (x.toInt8.toInt32).toInt8.toInt32 = _; simp
theorem own_nwb (x : Int32) : narrow .byte (.int x.toInt8.toInt32) = .int x.toInt8.toInt32 := by show Value.int ((x.toInt8.toInt32).toInt8.toInt32) = _; simp
end OwnArr
/-! own layer 5: a call that a 'Back' of the pasted String laws pays -/
section OwnBack
variable {p : Program} {l : Launch} {e : Env} {R : Room} {s : State} {m : MethodId} {args : Array Value} {below : List Frame} {meth : Method} {c : Code} {T : State} {locs : List Loc} {cells slots : Nat} {Z : State} {a0 : Array Value} {h : Heap}
theorem own_initB (Q : Option Value → Heap → List Loc → Prop) (kc ks : Nat) (X : Stand p l e R s m args below meth c T locs cells slots) (hx : p.tables.exec = Jvm.exec) (hZ : Z.Warmed39 s.vm) {own : String} {index : Nat} {y : MethodName} {bytes : ByteArray} {maxL : Nat} {W : Nat} {a : Addr} {argsL rest : List Value} (hy1 : y.name = "<init>")
    (hown : s.vm.findClass own = some m.cls) (w1 : (Jvm.Cond.methodLink own index y).before a0 Z = true) (w2 : (Jvm.Cond.instanceMethod y).before a0 Z = true) (wc : (Jvm.Cond.code y bytes maxL none).before a0 Z = true)
    (hK : Back l R p e below s args y 3 W (fun A b => b = (.ref a :: argsL).toArray ∧ A.U.heap = h ∧ A.cells + kc ≤ R.cells ∧ A.slots + ks ≤ R.slots) (fun A _ v B => ∃ L, Q v B.U.heap L ∧ B.locs = A.locs ++ L ∧ B.cells = A.cells + kc ∧ B.slots = A.slots + ks))
    (eT : T.heap = h) {g : JFrame} (hg : g.method = m) (hsize : g.locals.size = c.maxLocals) (hlen : ∀ sig, parseMethodDescriptor y.desc = some sig → argsL.length = sig.parameters.length)
    (hstack : g.stack = argsL.reverse ++ .ref a :: rest) (hW : 2 * g.monitorRoom + (rest.map fun v => v.category).sum ≤ W) (hdg : decode c.code g.pc = .ok (.invokespecial index, 3))
    (hc : cells + kc ≤ R.cells) (hs : slots + ks ≤ R.slots)
    (hy : y.cls ≠ "java/lang/invoke/MethodHandle" ∧ y.cls ≠ "java/lang/invoke/VarHandle" := by decide) :
    ∃ (v : Option Value) (T' : State) (L : List Loc), Stand p l e R s m args below meth c T' (locs ++ L) (cells + kc) (slots + ks) ∧ Q v T'.heap L ∧
      ∀ target, Steps p.tables e below (T'.setTop { g with pc := g.pc + 3, stack := v.toList ++ rest }) target → Steps p.tables e below (T.setTop g) target := by
  obtain ⟨v, vm₁, ⟨T', L', k', n'⟩, -, X', ⟨L, hQ, l1, y1, z1⟩, st⟩ := X.specialBack hx hy1 hown (mvT hZ w1) (mvT hZ w2) (mvT hZ wc) hy hK hg hsize (Steps.refl _) hlen hstack hW hdg (fun _ _ => ⟨rfl, eT, hc, hs⟩)
  dsimp only [Pt.U, Pt.locs, Pt.cells, Pt.slots] at X' l1 y1 z1 st hQ
  subst l1 y1 z1
  exact ⟨v, T', L, X', hQ, fun t k => st.trans k⟩
theorem own_virtualB (Q : Option Value → Heap → List Loc → Prop) (kc ks : Nat) (X : Stand p l e R s m args below meth c T locs cells slots) (hx : p.tables.exec = Jvm.exec) (hZ : Z.Warmed39 s.vm) {own C : String} {index : Nat} {y z : MethodName} {W : Nat} {a : Addr} {argsL rest : List Value}
    (hown : s.vm.findClass own = some m.cls) (w1 : (Jvm.Cond.methodLink own index y).before a0 Z = true) (w2 : (Jvm.Cond.declares y).before a0 Z = true) (hnf : NotFace s y) (w3 : (Jvm.Cond.selects C y z).before a0 Z = true) (w4 : (Jvm.Cond.instanceMethod z).before a0 Z = true)
    (hK : Back l R p e below s args z 3 W (fun A b => b = (.ref a :: argsL).toArray ∧ A.U.heap = h ∧ A.cells + kc ≤ R.cells ∧ A.slots + ks ≤ R.slots) (fun A _ v B => ∃ L, Q v B.U.heap L ∧ B.locs = A.locs ++ L ∧ B.cells = A.cells + kc ∧ B.slots = A.slots + ks))
    (eT : T.heap = h) (E : Exa Z h a C) {g : JFrame} (hg : g.method = m) (hsize : g.locals.size = c.maxLocals) (hlen : ∀ sig, parseMethodDescriptor y.desc = some sig → argsL.length = sig.parameters.length)
    (hstack : g.stack = argsL.reverse ++ .ref a :: rest) (hW : 2 * g.monitorRoom + (rest.map fun v => v.category).sum ≤ W) (hdg : decode c.code g.pc = .ok (.invokevirtual index, 3))
    (hc : cells + kc ≤ R.cells) (hs : slots + ks ≤ R.slots)
    (hy : y.cls ≠ "java/lang/invoke/MethodHandle" ∧ y.cls ≠ "java/lang/invoke/VarHandle" := by decide) :
    ∃ (v : Option Value) (T' : State) (L : List Loc), Stand p l e R s m args below meth c T' (locs ++ L) (cells + kc) (slots + ks) ∧ Q v T'.heap L ∧
      ∀ target, Steps p.tables e below (T'.setTop { g with pc := g.pc + 3, stack := v.toList ++ rest }) target → Steps p.tables e below (T.setTop g) target := by
  obtain ⟨cq, kq, qa, qb, qc⟩ := isOf hZ eT E
  obtain ⟨v, vm₁, ⟨T', L', k', n'⟩, -, X', ⟨L, hQ, l1, y1, z1⟩, st⟩ := X.virtualBack hx hown (mvT hZ w1) (mvT hZ w2) hnf (mvT hZ w3) (mvT hZ w4) hy hK qa qc hg hsize (Steps.refl _) hlen hstack hW hdg (fun _ _ => ⟨rfl, eT, hc, hs⟩)
  dsimp only [Pt.U, Pt.locs, Pt.cells, Pt.slots] at X' l1 y1 z1 st hQ
  subst l1 y1 z1
  exact ⟨v, T', L, X', hQ, fun t k => st.trans k⟩
end OwnBack
/-! own layer 7: THE WIDE END: a body that may intern a String constant (OFinE, OEnd, OMetW), and the way from the narrow end to it -/
def OFinE (p : Program) (e : Env) (below : List Frame) (E : Option Value → State → List Loc → Prop) (S : State) : Prop :=
  ∃ s₂ o, Steps p.tables e below S s₂ ∧ s₂.status = .running ∧ Ended s₂ below o ∧ ∃ v L, o = .returned v ∧ E v s₂ L
def OEnd (s : State) (kc ks : Nat) (Q : Option Value → Vm → Heap → List Loc → Prop) : Option Value → State → List Loc → Prop := fun v u L => Q v u.vm u.heap L ∧ ReturnedEndW s (.returned v) u L kc ks
def OMetW (l : Launch) (Z : State) (P : Vm → Prop) (y : MethodName) (bytes : ByteArray) (maxL : Nat) (ret : Option FieldType) (rm : Room) (as' : Array Value) (h0 : Heap) (Q : Option Value → Vm → Heap → List Loc → Prop) : Prop :=
  ∀ ws : List Jvm.Cond, MetFree l y (head1 (Jvm.Cond.code y bytes maxL ret :: ws) rm) (fun a U => a = as' ∧ Z.Warmed39 U.vm ∧ U.heap = h0 ∧ P U.vm) (fun _ _ _ _ _ => True) (fun _ U o U' => ∃ v L, o = .returned v ∧ Q v U'.vm U'.heap L ∧ ReturnedEndW U o U' L rm.cells rm.slots)
section OwnWide
variable {p : Program} {l : Launch} {e : Env} {R : Room} {s : State} {m : MethodId} {args : Array Value} {below : List Frame} {meth : Method} {c : Code} {T : State} {locs : List Loc} {cells slots : Nat} {Z : State} {a0 : Array Value} {h : Heap}
variable {kc ks : Nat} {Q : Option Value → Vm → Heap → List Loc → Prop} {E : Option Value → State → List Loc → Prop} {P : Vm → Prop}
theorem own_stE {A B : State} (hs : ∀ t, Steps p.tables e below B t → Steps p.tables e below A t) (k : OFinE p e below E B) : OFinE p e below E A := by
  obtain ⟨s₂, o, h1, r⟩ := k; exact ⟨s₂, o, hs _ h1, r⟩
theorem own_atE {g g' : JFrame} (q : g = g') (k : OFinE p e below E (T.setTop g')) : OFinE p e below E (T.setTop g) := q ▸ k
theorem own_enterW {y : MethodName} {bytes : ByteArray} {maxL : Nat} {ret : Option FieldType} {rm : Room} {as' : Array Value} {h0 : Heap} (hp : plainFor y = true)
    (hB : ∀ (p : Program) (e : Env) (s : State) (m : MethodId) (below : List Frame) (meth : Method) (c : Code) (T : State), Stand p l e rm s m as' below meth c T [] 0 0 → OCtx Z p s m meth c y.cls y.name bytes maxL ret → T.heap = h0 → s.heap = h0 → P s.vm → OFinE p e below (OEnd s rm.cells rm.slots Q) (T.setTop (entryFrame m as' maxL))) :
    OMetW l Z P y bytes maxL ret rm as' h0 Q := by
  intro ws
  refine MetFree.of_bodySF hp hisR ?_
  intro p e s m args below meth c s₁ Bd hml0 hP hK
  obtain ⟨rfl, hZ, hh, hpv⟩ := hP
  obtain ⟨s₂, o, h1, h2, h3, v, L, rfl, h4, h5⟩ := hB p e s m below meth c s₁ (Stand.of_body Bd) ⟨Bd.exec, hZ, Bd.bytes, hml0, findClass_of_methodNamed Bd.named, Bd.returns, BodyLoose.notSynchronized Bd, (name_of_methodNamed Bd.named Bd.method).1⟩ (by rw [← hh, Bd.state]; rfl) hh hpv
  exact ⟨s₂, _, h1, h2, h3, v, L, rfl, h4, h5⟩
/-- the rest of a walk that has interned is a narrow walk over the start with the tables at hand -/
theorem own_narrow {vm1 : Vm} {n : Nat} (hS : s.Since vm1 n) {Q' : Option Value → Heap → List Loc → Prop} {S : State} (k : OFin p e below (s.setVm vm1) kc ks Q' S)
    (q : ∀ v vm h L, (s.setVm vm1).WarmedH vm → Q' v h L → n ≤ h.size ∧ Q v vm h L) : OFinE p e below (OEnd s kc ks Q) S := by
  obtain ⟨s₂, o, h1, h2, h3, v, L, rfl, h5, -, hW, hs⟩ := k
  obtain ⟨q1, q2⟩ := q _ _ _ _ hW h5
  obtain ⟨a, b, c'⟩ := hS.ended (U := s₂) hW q1 hs
  exact ⟨s₂, _, h1, h2, h3, v, L, rfl, q2, ⟨v, rfl⟩, a, b, c'⟩
/-- a walk that has not interned and will not -/
theorem own_narrow0 {Q' : Option Value → Heap → List Loc → Prop} {S : State} (k : OFin p e below s kc ks Q' S) (q : ∀ v vm h L, s.WarmedH vm → Q' v h L → Q v vm h L) : OFinE p e below (OEnd s kc ks Q) S := by
  obtain ⟨s₂, o, h1, h2, h3, v, L, rfl, h5, -, hW, hs⟩ := k
  exact ⟨s₂, _, h1, h2, h3, v, L, rfl, q _ _ _ _ hW h5, ReturnedEndW.of_narrow ⟨v, rfl⟩ hW hs⟩
/-- the rest of a walk that has interned may intern again -/
theorem own_rebase {vm1 : Vm} {n : Nat} (hS : s.Since vm1 n) {Q' : Option Value → Vm → Heap → List Loc → Prop} {S : State} (k : OFinE p e below (OEnd (s.setVm vm1) kc ks Q') S)
    (q : ∀ v vm h L, Q' v vm h L → n ≤ h.size ∧ Q v vm h L) : OFinE p e below (OEnd s kc ks Q) S := by
  obtain ⟨s₂, o, h1, h2, h3, v, L, rfl, h5, -, a, b, c'⟩ := k
  obtain ⟨q1, q2⟩ := q _ _ _ _ h5
  have hS2 : s.Since s₂.vm s₂.heap.size := hS.trans (vm₂ := s₂.vm) (n₂ := s₂.heap.size) ⟨a, b⟩ q1
  exact ⟨s₂, _, h1, h2, h3, v, L, rfl, q2, ⟨v, rfl⟩, hS2.1, hS2.2, c'.setVm s.vm⟩
theorem own_retW (X : Stand p l e R s m args below meth c T locs cells slots) (hx : p.tables.exec = Jvm.exec) {t : FieldType} (hret : meth.sig.returnType = some t) (hlk : meth.locks = false) {pc : Nat} {Ls : Array Slot} {w : Value} {i : Instr} {rest : List Value} (hn : narrow t w = w)
    (hi : (i = .ireturn ∧ (t = .int ∨ t = .boolean ∨ t = .byte ∨ t = .char ∨ t = .short) ∧ ∃ z, w = .int z) ∨ (i = .lreturn ∧ t = .long ∧ ∃ z, w = .long z) ∨ (i = .dreturn ∧ t = .double ∧ ∃ z, w = .double z) ∨ (i = .freturn ∧ t = .float ∧ ∃ z, w = .float z) ∨ (i = .areturn ∧ t.isReference = true ∧ w.isRef = true))
    (hd : decode c.code pc = .ok (i, 1)) (hc : cells ≤ kc) (hs : slots ≤ ks) {Q' : Option Value → Heap → List Loc → Prop} (hq : Q' (some w) T.heap locs) : OFin p e below s kc ks Q' (T.setTop (mkF m pc Ls (w :: rest))) := own_ret X hx hret hlk hn hi hd hc hs hq
theorem own_backW {y : MethodName} {bytes : ByteArray} {maxL : Nat} {ret : Option FieldType} {rm : Room} {len W : Nat} {as' : Array Value} (hM : OMetW l Z P y bytes maxL ret rm as' h Q) (hZ : Z.Warmed39 s.vm) (hP : ∀ vm, s.WarmedH vm → P vm) (wc : (Jvm.Cond.code y bytes maxL ret).before a0 Z = true) (wz : (Jvm.Cond.initialized y.cls).before a0 Z = true) (hf : rm.frames + 1 ≤ R.frames) (hl : W + (maxL + 11) + rm.locals ≤ R.locals) :
    BackS l R p e below s args y len W (fun A a => a = as' ∧ A.U.heap = h ∧ A.cells + rm.cells ≤ R.cells ∧ A.slots + rm.slots ≤ R.slots)
      (fun A _ v B => ∃ L, Q v B.U.vm B.U.heap L ∧ B.locs = A.locs ++ L ∧ B.cells = A.cells + rm.cells ∧ B.slots = A.slots + rm.slots) :=
  BackS.of_freeW (bytes := bytes) (maxL := maxL) (ret := ret) (E := fun _ _ o t L k n => k = rm.cells ∧ n = rm.slots ∧ ∃ v, o = .returned v ∧ Q v t.vm t.heap L) (hM []) hf hl
    (fun m meth c A a Y hp => have hU : Z.Warmed39 A.U.vm := wtrans hZ Y.warmed
      ⟨by show (Jvm.Cond.and _ .tt).before a A.U = true; rw [Cond.before_and, mv hU wc]; rfl, mv hU wc, mv hU wz, hp.2.2.1, hp.2.2.2⟩)
    (fun m meth c A a g mk Y hp => ⟨hp.1, wtrans hZ Y.warmed, hp.2.1, hP _ Y.warmed⟩) (fun _ _ _ _ _ _ _ _ _ => trivial)
    (fun _ _ _ _ ⟨v, L, h1, h2, h3⟩ => ⟨L, _, _, h3, rfl, rfl, v, h1, h2⟩)
    (fun m meth c A a g mk v t L k n Y hp _ _ ⟨e1, e2, v', e3, e4⟩ => by cases e3; subst e1 e2; exact ⟨L, e4, rfl, rfl, rfl⟩)
theorem own_initW (X : Stand p l e R s m args below meth c T locs cells slots) (hx : p.tables.exec = Jvm.exec) (hZ : Z.Warmed39 s.vm) {own : String} {index : Nat} {y : MethodName} {bytes : ByteArray} {maxL : Nat} {rm : Room} {W : Nat} {a : Addr} {argsL rest : List Value} (hy1 : y.name = "<init>")
    (hown : s.vm.findClass own = some m.cls) (w1 : (Jvm.Cond.methodLink own index y).before a0 Z = true) (w2 : (Jvm.Cond.instanceMethod y).before a0 Z = true) (wz : (Jvm.Cond.initialized y.cls).before a0 Z = true) (wc : (Jvm.Cond.code y bytes maxL none).before a0 Z = true)
    (hM : OMetW l Z P y bytes maxL none rm (.ref a :: argsL).toArray h Q) (hP : ∀ vm, s.WarmedH vm → P vm) (eT : T.heap = h) {g : JFrame} (hg : g.method = m) (hsize : g.locals.size = c.maxLocals) (hlen : ∀ sig, parseMethodDescriptor y.desc = some sig → argsL.length = sig.parameters.length)
    (hstack : g.stack = argsL.reverse ++ .ref a :: rest) (hW : 2 * g.monitorRoom + (rest.map fun v => v.category).sum ≤ W) (hdg : decode c.code g.pc = .ok (.invokespecial index, 3))
    (hf : rm.frames + 1 ≤ R.frames) (hl : W + (maxL + 11) + rm.locals ≤ R.locals) (hc : cells + rm.cells ≤ R.cells) (hs : slots + rm.slots ≤ R.slots)
    (hy : y.cls ≠ "java/lang/invoke/MethodHandle" ∧ y.cls ≠ "java/lang/invoke/VarHandle" := by decide) :
    ∃ (v : Option Value) (T' : State) (L : List Loc), Stand p l e R (s.setVm T'.vm) m args below meth c T' (locs ++ L) (cells + rm.cells) (slots + rm.slots) ∧ s.Since T'.vm T'.heap.size ∧ Z.Warmed39 (s.setVm T'.vm).vm ∧ (s.setVm T'.vm).vm.findClass own = some m.cls ∧ Q v T'.vm T'.heap L ∧
      ∀ target, Steps p.tables e below (T'.setTop { g with pc := g.pc + 3, stack := v.toList ++ rest }) target → Steps p.tables e below (T.setTop g) target := by
  obtain ⟨v, vm₁, ⟨T', L', k', n'⟩, -, X', hS, -, ⟨L, hQ, l1, y1, z1⟩, st⟩ := X.specialBackS hx hy1 hown (mvT hZ w1) (mvT hZ w2) (mvT hZ wc) hy (own_backW (W := W) hM hZ hP wc wz hf hl) hg hsize (Steps.refl _) hlen hstack hW hdg (fun _ _ => ⟨rfl, eT, hc, hs⟩)
  dsimp only [Pt.U, Pt.locs, Pt.cells, Pt.slots] at X' l1 y1 z1 st hQ hS
  subst l1 y1 z1
  exact ⟨v, T', L, X', hS, State.Warmed39.trans hZ hS.1, by rw [show (s.setVm T'.vm).vm = T'.vm from rfl, hS.1.alike.findClass]; exact hown, hQ, fun t k => st.trans k⟩
theorem own_staticW (X : Stand p l e R s m args below meth c T locs cells slots) (hx : p.tables.exec = Jvm.exec) (hZ : Z.Warmed39 s.vm) {own : String} {index : Nat} {y : MethodName} {bytes : ByteArray} {maxL : Nat} {ret : Option FieldType} {rm : Room} {W : Nat} {argsL rest : List Value}
    (hown : s.vm.findClass own = some m.cls) (w1 : (Jvm.Cond.methodLink own index y).before a0 Z = true) (w2 : (Jvm.Cond.static y).before a0 Z = true) (wz : (Jvm.Cond.initialized y.cls).before a0 Z = true) (wc : (Jvm.Cond.code y bytes maxL ret).before a0 Z = true)
    (hM : OMetW l Z P y bytes maxL ret rm argsL.toArray h Q) (hP : ∀ vm, s.WarmedH vm → P vm) (eT : T.heap = h) {g : JFrame} (hg : g.method = m) (hsize : g.locals.size = c.maxLocals) (hlen : ∀ sig, parseMethodDescriptor y.desc = some sig → argsL.length = sig.parameters.length)
    (hstack : g.stack = argsL.reverse ++ rest) (hW : 2 * g.monitorRoom + (rest.map fun v => v.category).sum ≤ W) (hdg : decode c.code g.pc = .ok (.invokestatic index, 3))
    (hf : rm.frames + 1 ≤ R.frames) (hl : W + (maxL + 11) + rm.locals ≤ R.locals) (hc : cells + rm.cells ≤ R.cells) (hs : slots + rm.slots ≤ R.slots)
    (hy : y.cls ≠ "java/lang/invoke/MethodHandle" ∧ y.cls ≠ "java/lang/invoke/VarHandle" := by decide) :
    ∃ (v : Option Value) (T' : State) (L : List Loc), Stand p l e R (s.setVm T'.vm) m args below meth c T' (locs ++ L) (cells + rm.cells) (slots + rm.slots) ∧ s.Since T'.vm T'.heap.size ∧ Z.Warmed39 (s.setVm T'.vm).vm ∧ (s.setVm T'.vm).vm.findClass own = some m.cls ∧ Q v T'.vm T'.heap L ∧
      ∀ target, Steps p.tables e below (T'.setTop { g with pc := g.pc + 3, stack := v.toList ++ rest }) target → Steps p.tables e below (T.setTop g) target := by
  obtain ⟨v, vm₁, ⟨T', L', k', n'⟩, -, X', hS, -, ⟨L, hQ, l1, y1, z1⟩, st⟩ := callSS X hx hown (mvT hZ w1) (mvT hZ w2) (mvT hZ wz) (mvT hZ wc) hy (own_backW (W := W) hM hZ hP wc wz hf hl) hg hsize hlen hstack hW hdg (fun _ _ => ⟨rfl, eT, hc, hs⟩)
  dsimp only [Pt.U, Pt.locs, Pt.cells, Pt.slots] at X' l1 y1 z1 st hQ hS
  subst l1 y1 z1
  exact ⟨v, T', L, X', hS, State.Warmed39.trans hZ hS.1, by rw [show (s.setVm T'.vm).vm = T'.vm from rfl, hS.1.alike.findClass]; exact hown, hQ, fun t k => st.trans k⟩
/-- what the tables and the heap say of the empty String constant of java/lang/String: nothing has been loaded since Z's time, or it has been loaded and here it lies -/
def OLitAt (Z : State) (vm : Vm) (h : Heap) (la lb : Addr) (lk : ClassId) : Prop := Lit (Z.setVm vm) "java/lang/String" 7 la ∧ Exa Z h la "java/lang/String" ∧ Fld Z h la "java/lang/String" "coder" "B" (.int 0) ∧ Fld Z h la "java/lang/String" "value" "[B" (.ref lb) ∧ Arv Z h lb lk .byte (0 : Int32) [] (.int 0)
def OLit (Z : State) (h : Heap) (vm : Vm) : Prop := IB Z vm [] ∨ ∃ la lb lk, OLitAt Z vm h la lb lk
theorem OLit.start : OLit Z Z.heap Z.vm := Or.inl IB.start
theorem IB.warm {Ts : List String} {vm : Vm} (hW : s.WarmedH vm) (I : IB Z s.vm Ts) : IB Z vm Ts := by obtain ⟨more, e1, e2⟩ := I; exact ⟨more, hW.interned_eq.trans e1, e2⟩
theorem OLitAt.warm {la lb : Addr} {lk : ClassId} {vm : Vm} (hW : s.WarmedH vm) (F : OLitAt Z s.vm h la lb lk) : OLitAt Z vm h la lb lk := ⟨State.resolvedAt?_warmed39 (s := s) hW.wide F.1, F.2⟩
theorem OLit.warm {vm : Vm} (hW : s.WarmedH vm) (F : OLit Z h s.vm) : OLit Z h vm := F.imp (IB.warm hW) (fun ⟨a, b, k, F⟩ => ⟨a, b, k, F.warm hW⟩)
theorem OLitAt.keep {h' : Heap} {ws : List Addr} {la lb : Addr} {lk : ClassId} {vm : Vm} (F : OLitAt Z vm h la lb lk) (K : Keep h h' ws) (n1 : la ∉ ws) (n2 : lb ∉ ws) : OLitAt Z vm h' la lb lk := ⟨F.1, F.2.1.keep K, F.2.2.1.keep K n1, F.2.2.2.1.keep K n1, F.2.2.2.2.keep K n2⟩
theorem OLit.keep {h' : Heap} {vm : Vm} (F : OLit Z h vm) (K : Keep h h' []) : OLit Z h' vm := F.imp id (fun ⟨a, b, k, F⟩ => ⟨a, b, k, F.keep K nin0 nin0⟩)
/-- 'ldc' of the empty String constant in java/lang/String's own code -/
theorem own_ldcE (X : Stand p l e R s m args below meth c T [] cells slots) (hx : p.tables.exec = Jvm.exec) (hZ : Z.Warmed39 s.vm) (hown : s.vm.findClass "java/lang/String" = some m.cls) (w : (Jvm.Cond.stringLink "java/lang/String" 7 "").before a0 Z = true) (wS : ∀ a ∈ Bundle.stringAtoms, a.before a0 Z = true)
    (eT : T.heap = h) (eS : s.heap = h) {n0 : Nat} (O : Old Z n0 h) (F : OLit Z h s.vm) (hh : Jvm.Lit.constHeld Z "java/lang/String" 7) (hcw : Jvm.Lit.compactW.before a0 Z = true)
    {g : JFrame} (hg : g.method = m) (hd : decode c.code g.pc = .ok (.ldc 7, 2)) (hc : cells + 2 ≤ R.cells) (hl' : slots + 4 ≤ R.slots) :
    ∃ (la lb : Addr) (lk : ClassId) (T' : State) (h' : Heap) (k1 : Nat), Stand p l e R (s.setVm T'.vm) m args below meth c T' [] (cells + 2) (slots + 4) ∧ T'.heap = h' ∧ Ext h h' ∧ s.Since T'.vm k1 ∧ k1 ≤ h'.size ∧ Z.Warmed39 (s.setVm T'.vm).vm ∧ (s.setVm T'.vm).vm.findClass "java/lang/String" = some m.cls ∧ OLitAt Z T'.vm h' la lb lk ∧
      ∀ target, Steps p.tables e below (T'.setTop { g with pc := g.pc + 2, stack := .ref la :: g.stack }) target → Steps p.tables e below (T.setTop g) target := by
  rcases F with I | ⟨la, lb, lk, F⟩
  · obtain ⟨a, T', h', k1, b, k, X', e', E', S', hk', Z', own', Ex, Co, Va, Ar, -, -, -, Li, st⟩ := ldcSVL (s := s) (vm0 := s.vm) (Ts := []) X hx hZ hown w wS eT ((State.WarmedH.refl s).since 0) (Nat.zero_le _) (Fr.nil _) (fun b cl q => by rw [eS]; exact O.2.2 b cl q) I (by simp) hh hcw (vs := []) (z := 0) ⟨by decide, rfl⟩ (by decide) (by decide) hg hd (n := 0) (by decide) (by decide) hc hl'
    exact ⟨a, b, k, T', h', k1, X', e', E', S', hk', Z', own', ⟨Li, Ex, Co, Va, Ar⟩, st⟩
  · have F' : OLitAt Z T.vm h la lb lk := F.warm X.warmed
    exact ⟨la, lb, lk, T, h, 0, (X.mono (by omega) (by omega)).retabled X.warmed.wide, eT, ⟨Nat.le_refl _, fun _ _ q => q⟩, X.warmed.since 0, Nat.zero_le _, State.Warmed39.trans (t := s) hZ X.warmed.wide, by rw [show (s.setVm T.vm).vm = T.vm from rfl, X.warmed.wide.alike.findClass]; exact hown, F', ldcAgain (s := s) (vm0 := s.vm) X hx hZ hown w F.1 hg hd⟩
/-- .. a second time -/
theorem own_ldcA (X : Stand p l e R s m args below meth c T locs cells slots) (hx : p.tables.exec = Jvm.exec) (hZ : Z.Warmed39 s.vm) (hown : s.vm.findClass "java/lang/String" = some m.cls) (w : (Jvm.Cond.stringLink "java/lang/String" 7 "").before a0 Z = true) {la : Addr} (F : Lit s "java/lang/String" 7 la)
    {g : JFrame} (hg : g.method = m) (hd : decode c.code g.pc = .ok (.ldc 7, 2)) : ∀ target, Steps p.tables e below (T.setTop { g with pc := g.pc + 2, stack := .ref la :: g.stack }) target → Steps p.tables e below (T.setTop g) target :=
  ldcAgain (s := s) (vm0 := s.vm) X hx hZ hown w F hg hd
end OwnWide
theorem own_d3_11 : decode jdk_42_method_149_code 11 = .ok (.getfield 9, 3) := by decide +kernel
theorem own_d3_14 : decode jdk_42_method_149_code 14 = .ok (.putfield 9, 3) := by decide +kernel
theorem own_d3_17 : decode jdk_42_method_149_code 17 = .ok (.aload_n 0, 1) := by decide +kernel
theorem own_d3_18 : decode jdk_42_method_149_code 18 = .ok (.ldc 7, 2) := by decide +kernel
theorem own_d3_20 : decode jdk_42_method_149_code 20 = .ok (.getfield 15, 3) := by decide +kernel
theorem own_d3_23 : decode jdk_42_method_149_code 23 = .ok (.putfield 15, 3) := by decide +kernel
theorem own_d3_26 : decode jdk_42_method_149_code 26 = .ok (.return_, 1) := by decide +kernel
theorem own_pn3 : plainFor (⟨"java/lang/String", "<init>", "([CIILjava/lang/Void;)V"⟩ : MethodName) = true := plainFor_of_name (by first | (simp [plainName, overriddenIn]; done) | decide +kernel)
theorem own_ef3_RRIIN (m : MethodId) (x0 : Addr) (x1 : Addr) (x2 : Int32) (x3 : Int32) : entryFrame m #[(.ref x0), (.ref x1), (.int x2), (.int x3), .null] 6 = mkF m 0 #[.val (.ref x0), .val (.ref x1), .val (.int x2), .val (.int x3), .val .null, .unset] [] := by first | (simp [entryFrame, mkF, argsToLocals, Value.category]; done) | rfl
theorem own_d3_0 : decode jdk_42_method_149_code 0 = .ok (.aload_n 0, 1) := by decide +kernel
theorem own_d3_1 : decode jdk_42_method_149_code 1 = .ok (.invokespecial 1, 3) := by decide +kernel
theorem own_d3_4 : decode jdk_42_method_149_code 4 = .ok (.iload_n 3, 1) := by decide +kernel
theorem own_d3_5 : decode jdk_42_method_149_code 5 = .ok (.ifCond .ne 22, 3) := by decide +kernel
theorem own_d3_8 : decode jdk_42_method_149_code 8 = .ok (.aload_n 0, 1) := by decide +kernel
theorem own_d3_9 : decode jdk_42_method_149_code 9 = .ok (.ldc 7, 2) := by decide +kernel
theorem own_pn2 : plainFor (⟨"java/lang/String", "<init>", "([C)V"⟩ : MethodName) = true := plainFor_of_name (by first | (simp [plainName, overriddenIn]; done) | decide +kernel)
theorem own_ef2_RR (m : MethodId) (x0 : Addr) (x1 : Addr) : entryFrame m #[(.ref x0), (.ref x1)] 2 = mkF m 0 #[.val (.ref x0), .val (.ref x1)] [] := by first | (simp [entryFrame, mkF, argsToLocals, Value.category]; done) | rfl
theorem own_d2_0 : decode jdk_42_method_3_code 0 = .ok (.aload_n 0, 1) := by decide +kernel
theorem own_d2_1 : decode jdk_42_method_3_code 1 = .ok (.aload_n 1, 1) := by decide +kernel
theorem own_d2_2 : decode jdk_42_method_3_code 2 = .ok (.iconst 0, 1) := by decide +kernel
theorem own_d2_3 : decode jdk_42_method_3_code 3 = .ok (.aload_n 1, 1) := by decide +kernel
theorem own_d2_4 : decode jdk_42_method_3_code 4 = .ok (.arraylength, 1) := by decide +kernel
theorem own_d2_5 : decode jdk_42_method_3_code 5 = .ok (.aconst_null, 1) := by decide +kernel
theorem own_d2_6 : decode jdk_42_method_3_code 6 = .ok (.invokespecial 27, 3) := by decide +kernel
theorem own_pd0 : parseMethodDescriptor "([CIILjava/lang/Void;)V" = some ⟨[(.array .char), .int, .int, (.object "java/lang/Void")], none⟩ := by decide +kernel
theorem own_d2_9 : decode jdk_42_method_3_code 9 = .ok (.return_, 1) := by decide +kernel
theorem own_pn1 : plainFor (⟨"com/example/wyrd/wyrd/hoa/TokenIsPinLaw", "text", "(ICCC)Ljava/lang/String;"⟩ : MethodName) = true := plainFor_of_name (by first | (simp [plainName, overriddenIn]; done) | decide +kernel)
theorem own_ef1_IIII (m : MethodId) (x0 : Int32) (x1 : Int32) (x2 : Int32) (x3 : Int32) : entryFrame m #[(.int x0), (.int x1), (.int x2), (.int x3)] 4 = mkF m 0 #[.val (.int x0), .val (.int x1), .val (.int x2), .val (.int x3)] [] := by first | (simp [entryFrame, mkF, argsToLocals, Value.category]; done) | rfl
theorem own_d1_0 : decode method_3_code 0 = .ok (.iload_n 0, 1) := by decide +kernel
theorem own_d1_1 : decode method_3_code 1 = .ok (.ifCond .ne 14, 3) := by decide +kernel
theorem own_d1_4 : decode method_3_code 4 = .ok (.new 34, 3) := by decide +kernel
theorem own_d1_7 : decode method_3_code 7 = .ok (.dup, 1) := by decide +kernel
theorem own_d1_8 : decode method_3_code 8 = .ok (.iconst 0, 1) := by decide +kernel
theorem own_d1_9 : decode method_3_code 9 = .ok (.newarray .char, 2) := by decide +kernel
theorem own_d1_11 : decode method_3_code 11 = .ok (.invokespecial 36, 3) := by decide +kernel
theorem own_pd1 : parseMethodDescriptor "([C)V" = some ⟨[(.array .char)], none⟩ := by decide +kernel
theorem own_d1_14 : decode method_3_code 14 = .ok (.areturn, 1) := by decide +kernel
theorem own_d1_15 : decode method_3_code 15 = .ok (.iload_n 0, 1) := by decide +kernel
theorem own_d1_16 : decode method_3_code 16 = .ok (.iconst 1, 1) := by decide +kernel
theorem own_d1_17 : decode method_3_code 17 = .ok (.if_icmp .ne 18, 3) := by decide +kernel
theorem own_d1_20 : decode method_3_code 20 = .ok (.new 34, 3) := by decide +kernel
theorem own_d1_23 : decode method_3_code 23 = .ok (.dup, 1) := by decide +kernel
theorem own_d1_24 : decode method_3_code 24 = .ok (.iconst 1, 1) := by decide +kernel
theorem own_d1_25 : decode method_3_code 25 = .ok (.newarray .char, 2) := by decide +kernel
theorem own_d1_27 : decode method_3_code 27 = .ok (.dup, 1) := by decide +kernel
theorem own_d1_28 : decode method_3_code 28 = .ok (.iconst 0, 1) := by decide +kernel
theorem own_d1_29 : decode method_3_code 29 = .ok (.iload_n 1, 1) := by decide +kernel
theorem own_d1_30 : decode method_3_code 30 = .ok (.castore, 1) := by decide +kernel
theorem own_d1_31 : decode method_3_code 31 = .ok (.invokespecial 36, 3) := by decide +kernel
theorem own_d1_34 : decode method_3_code 34 = .ok (.areturn, 1) := by decide +kernel
theorem own_d1_35 : decode method_3_code 35 = .ok (.iload_n 0, 1) := by decide +kernel
theorem own_d1_36 : decode method_3_code 36 = .ok (.iconst 2, 1) := by decide +kernel
theorem own_d1_37 : decode method_3_code 37 = .ok (.if_icmp .ne 22, 3) := by decide +kernel
theorem own_d1_40 : decode method_3_code 40 = .ok (.new 34, 3) := by decide +kernel
theorem own_d1_43 : decode method_3_code 43 = .ok (.dup, 1) := by decide +kernel
theorem own_d1_44 : decode method_3_code 44 = .ok (.iconst 2, 1) := by decide +kernel
theorem own_d1_45 : decode method_3_code 45 = .ok (.newarray .char, 2) := by decide +kernel
theorem own_d1_47 : decode method_3_code 47 = .ok (.dup, 1) := by decide +kernel
theorem own_d1_48 : decode method_3_code 48 = .ok (.iconst 0, 1) := by decide +kernel
theorem own_d1_49 : decode method_3_code 49 = .ok (.iload_n 1, 1) := by decide +kernel
theorem own_d1_50 : decode method_3_code 50 = .ok (.castore, 1) := by decide +kernel
theorem own_d1_51 : decode method_3_code 51 = .ok (.dup, 1) := by decide +kernel
theorem own_d1_52 : decode method_3_code 52 = .ok (.iconst 1, 1) := by decide +kernel
theorem own_d1_53 : decode method_3_code 53 = .ok (.iload_n 2, 1) := by decide +kernel
theorem own_d1_54 : decode method_3_code 54 = .ok (.castore, 1) := by decide +kernel
theorem own_d1_55 : decode method_3_code 55 = .ok (.invokespecial 36, 3) := by decide +kernel
theorem own_d1_58 : decode method_3_code 58 = .ok (.areturn, 1) := by decide +kernel
theorem own_d1_59 : decode method_3_code 59 = .ok (.new 34, 3) := by decide +kernel
theorem own_d1_62 : decode method_3_code 62 = .ok (.dup, 1) := by decide +kernel
theorem own_d1_63 : decode method_3_code 63 = .ok (.iconst 3, 1) := by decide +kernel
theorem own_d1_64 : decode method_3_code 64 = .ok (.newarray .char, 2) := by decide +kernel
theorem own_d1_66 : decode method_3_code 66 = .ok (.dup, 1) := by decide +kernel
theorem own_d1_67 : decode method_3_code 67 = .ok (.iconst 0, 1) := by decide +kernel
theorem own_d1_68 : decode method_3_code 68 = .ok (.iload_n 1, 1) := by decide +kernel
theorem own_d1_69 : decode method_3_code 69 = .ok (.castore, 1) := by decide +kernel
theorem own_d1_70 : decode method_3_code 70 = .ok (.dup, 1) := by decide +kernel
theorem own_d1_71 : decode method_3_code 71 = .ok (.iconst 1, 1) := by decide +kernel
theorem own_d1_72 : decode method_3_code 72 = .ok (.iload_n 2, 1) := by decide +kernel
theorem own_d1_73 : decode method_3_code 73 = .ok (.castore, 1) := by decide +kernel
theorem own_d1_74 : decode method_3_code 74 = .ok (.dup, 1) := by decide +kernel
theorem own_d1_75 : decode method_3_code 75 = .ok (.iconst 2, 1) := by decide +kernel
theorem own_d1_76 : decode method_3_code 76 = .ok (.iload_n 3, 1) := by decide +kernel
theorem own_d1_77 : decode method_3_code 77 = .ok (.castore, 1) := by decide +kernel
theorem own_d1_78 : decode method_3_code 78 = .ok (.invokespecial 36, 3) := by decide +kernel
theorem own_d1_81 : decode method_3_code 81 = .ok (.areturn, 1) := by decide +kernel
theorem own_pn8 : plainFor (⟨"com/example/wyrd/wyrd/hoa/TokenIsPinLaw", "kind", "(I)Lcom/example/wyrd/wyrd/hoa/Tokens$Kind;"⟩ : MethodName) = true := plainFor_of_name (by first | (simp [plainName, overriddenIn]; done) | decide +kernel)
theorem own_ef8_I (m : MethodId) (x0 : Int32) : entryFrame m #[(.int x0)] 1 = mkF m 0 #[.val (.int x0)] [] := by first | (simp [entryFrame, mkF, argsToLocals, Value.category]; done) | rfl
theorem own_d8_0 : decode method_2_code 0 = .ok (.iload_n 0, 1) := by decide +kernel
theorem own_d8_1 : decode method_2_code 1 = .ok (.ifCond .ne 7, 3) := by decide +kernel
theorem own_d8_4 : decode method_2_code 4 = .ok (.getstatic 7, 3) := by decide +kernel
theorem own_d8_7 : decode method_2_code 7 = .ok (.areturn, 1) := by decide +kernel
theorem own_d8_8 : decode method_2_code 8 = .ok (.iload_n 0, 1) := by decide +kernel
theorem own_d8_9 : decode method_2_code 9 = .ok (.iconst 1, 1) := by decide +kernel
theorem own_d8_10 : decode method_2_code 10 = .ok (.if_icmp .ne 7, 3) := by decide +kernel
theorem own_d8_13 : decode method_2_code 13 = .ok (.getstatic 13, 3) := by decide +kernel
theorem own_d8_16 : decode method_2_code 16 = .ok (.areturn, 1) := by decide +kernel
theorem own_d8_17 : decode method_2_code 17 = .ok (.iload_n 0, 1) := by decide +kernel
theorem own_d8_18 : decode method_2_code 18 = .ok (.iconst 2, 1) := by decide +kernel
theorem own_d8_19 : decode method_2_code 19 = .ok (.if_icmp .ne 7, 3) := by decide +kernel
theorem own_d8_22 : decode method_2_code 22 = .ok (.getstatic 16, 3) := by decide +kernel
theorem own_d8_25 : decode method_2_code 25 = .ok (.areturn, 1) := by decide +kernel
theorem own_d8_26 : decode method_2_code 26 = .ok (.iload_n 0, 1) := by decide +kernel
theorem own_d8_27 : decode method_2_code 27 = .ok (.iconst 3, 1) := by decide +kernel
theorem own_d8_28 : decode method_2_code 28 = .ok (.if_icmp .ne 7, 3) := by decide +kernel
theorem own_d8_31 : decode method_2_code 31 = .ok (.getstatic 19, 3) := by decide +kernel
theorem own_d8_34 : decode method_2_code 34 = .ok (.areturn, 1) := by decide +kernel
theorem own_d8_35 : decode method_2_code 35 = .ok (.iload_n 0, 1) := by decide +kernel
theorem own_d8_36 : decode method_2_code 36 = .ok (.iconst 4, 1) := by decide +kernel
theorem own_d8_37 : decode method_2_code 37 = .ok (.if_icmp .ne 7, 3) := by decide +kernel
theorem own_d8_40 : decode method_2_code 40 = .ok (.getstatic 22, 3) := by decide +kernel
theorem own_d8_43 : decode method_2_code 43 = .ok (.areturn, 1) := by decide +kernel
theorem own_d8_44 : decode method_2_code 44 = .ok (.iload_n 0, 1) := by decide +kernel
theorem own_d8_45 : decode method_2_code 45 = .ok (.iconst 5, 1) := by decide +kernel
theorem own_d8_46 : decode method_2_code 46 = .ok (.if_icmp .ne 7, 3) := by decide +kernel
theorem own_d8_49 : decode method_2_code 49 = .ok (.getstatic 25, 3) := by decide +kernel
theorem own_d8_52 : decode method_2_code 52 = .ok (.areturn, 1) := by decide +kernel
theorem own_d8_53 : decode method_2_code 53 = .ok (.iload_n 0, 1) := by decide +kernel
theorem own_d8_54 : decode method_2_code 54 = .ok (.bipush 6, 2) := by decide +kernel
theorem own_d8_56 : decode method_2_code 56 = .ok (.if_icmp .ne 7, 3) := by decide +kernel
theorem own_d8_59 : decode method_2_code 59 = .ok (.getstatic 28, 3) := by decide +kernel
theorem own_d8_62 : decode method_2_code 62 = .ok (.areturn, 1) := by decide +kernel
theorem own_d8_63 : decode method_2_code 63 = .ok (.getstatic 31, 3) := by decide +kernel
theorem own_d8_66 : decode method_2_code 66 = .ok (.areturn, 1) := by decide +kernel
theorem own_pn10 : plainFor (⟨"java/lang/Record", "<init>", "()V"⟩ : MethodName) = true := plainFor_of_name (by first | (simp [plainName, overriddenIn]; done) | decide +kernel)
theorem own_ef10_R (m : MethodId) (x0 : Addr) : entryFrame m #[(.ref x0)] 1 = mkF m 0 #[.val (.ref x0)] [] := by first | (simp [entryFrame, mkF, argsToLocals, Value.category]; done) | rfl
theorem own_d10_0 : decode jdk_30_method_1_code 0 = .ok (.aload_n 0, 1) := by decide +kernel
theorem own_d10_1 : decode jdk_30_method_1_code 1 = .ok (.invokespecial 1, 3) := by decide +kernel
theorem own_d10_4 : decode jdk_30_method_1_code 4 = .ok (.return_, 1) := by decide +kernel
theorem own_pn9 : plainFor (⟨"com/example/wyrd/wyrd/hoa/Tokens$Token", "<init>", "(Lcom/example/wyrd/wyrd/hoa/Tokens$Kind;Ljava/lang/String;I)V"⟩ : MethodName) = true := plainFor_of_name (by first | (simp [plainName, overriddenIn]; done) | decide +kernel)
theorem own_ef9_RRRI (m : MethodId) (x0 : Addr) (x1 : Addr) (x2 : Addr) (x3 : Int32) : entryFrame m #[(.ref x0), (.ref x1), (.ref x2), (.int x3)] 4 = mkF m 0 #[.val (.ref x0), .val (.ref x1), .val (.ref x2), .val (.int x3)] [] := by first | (simp [entryFrame, mkF, argsToLocals, Value.category]; done) | rfl
theorem own_d9_0 : decode prog_66_method_1_code 0 = .ok (.aload_n 0, 1) := by decide +kernel
theorem own_d9_1 : decode prog_66_method_1_code 1 = .ok (.invokespecial 1, 3) := by decide +kernel
theorem own_pd2 : parseMethodDescriptor "()V" = some ⟨[], none⟩ := by decide +kernel
theorem own_d9_4 : decode prog_66_method_1_code 4 = .ok (.aload_n 0, 1) := by decide +kernel
theorem own_d9_5 : decode prog_66_method_1_code 5 = .ok (.aload_n 1, 1) := by decide +kernel
theorem own_d9_6 : decode prog_66_method_1_code 6 = .ok (.putfield 7, 3) := by decide +kernel
theorem own_d9_9 : decode prog_66_method_1_code 9 = .ok (.aload_n 0, 1) := by decide +kernel
theorem own_d9_10 : decode prog_66_method_1_code 10 = .ok (.aload_n 2, 1) := by decide +kernel
theorem own_d9_11 : decode prog_66_method_1_code 11 = .ok (.putfield 13, 3) := by decide +kernel
theorem own_d9_14 : decode prog_66_method_1_code 14 = .ok (.aload_n 0, 1) := by decide +kernel
theorem own_d9_15 : decode prog_66_method_1_code 15 = .ok (.iload_n 3, 1) := by decide +kernel
theorem own_d9_16 : decode prog_66_method_1_code 16 = .ok (.putfield 17, 3) := by decide +kernel
theorem own_d9_19 : decode prog_66_method_1_code 19 = .ok (.return_, 1) := by decide +kernel
theorem own_pn11 : plainFor (⟨"com/example/wyrd/wyrd/hoa/Tokens$Token", "is", "(Lcom/example/wyrd/wyrd/hoa/Tokens$Kind;Ljava/lang/String;)Z"⟩ : MethodName) = true := plainFor_of_name (by first | (simp [plainName, overriddenIn]; done) | decide +kernel)
theorem own_ef11_RRR (m : MethodId) (x0 : Addr) (x1 : Addr) (x2 : Addr) : entryFrame m #[(.ref x0), (.ref x1), (.ref x2)] 3 = mkF m 0 #[.val (.ref x0), .val (.ref x1), .val (.ref x2)] [] := by first | (simp [entryFrame, mkF, argsToLocals, Value.category]; done) | rfl
theorem own_d11_0 : decode prog_66_method_2_code 0 = .ok (.aload_n 0, 1) := by decide +kernel
theorem own_d11_1 : decode prog_66_method_2_code 1 = .ok (.getfield 7, 3) := by decide +kernel
theorem own_d11_4 : decode prog_66_method_2_code 4 = .ok (.aload_n 1, 1) := by decide +kernel
theorem own_d11_5 : decode prog_66_method_2_code 5 = .ok (.if_acmp .ne 18, 3) := by decide +kernel
theorem own_d11_8 : decode prog_66_method_2_code 8 = .ok (.aload_n 0, 1) := by decide +kernel
theorem own_d11_9 : decode prog_66_method_2_code 9 = .ok (.getfield 13, 3) := by decide +kernel
theorem own_d11_12 : decode prog_66_method_2_code 12 = .ok (.aload_n 2, 1) := by decide +kernel
theorem own_d11_13 : decode prog_66_method_2_code 13 = .ok (.invokevirtual 21, 3) := by decide +kernel
theorem own_pd3 : parseMethodDescriptor "(Ljava/lang/Object;)Z" = some ⟨[(.object "java/lang/Object")], some .boolean⟩ := by decide +kernel
theorem own_d11_16 : decode prog_66_method_2_code 16 = .ok (.ifCond .eq 7, 3) := by decide +kernel
theorem own_d11_19 : decode prog_66_method_2_code 19 = .ok (.iconst 1, 1) := by decide +kernel
theorem own_d11_20 : decode prog_66_method_2_code 20 = .ok (.goto 4, 3) := by decide +kernel
theorem own_d11_24 : decode prog_66_method_2_code 24 = .ok (.ireturn, 1) := by decide +kernel
theorem own_d11_23 : decode prog_66_method_2_code 23 = .ok (.iconst 0, 1) := by decide +kernel
theorem own_pd4 : parseMethodDescriptor "(I)Lcom/example/wyrd/wyrd/hoa/Tokens$Kind;" = some ⟨[.int], some (.object "com/example/wyrd/wyrd/hoa/Tokens$Kind")⟩ := by decide +kernel
theorem own_pd5 : parseMethodDescriptor "(Lcom/example/wyrd/wyrd/hoa/Tokens$Kind;Ljava/lang/String;)Z" = some ⟨[(.object "com/example/wyrd/wyrd/hoa/Tokens$Kind"), (.object "java/lang/String")], some .boolean⟩ := by decide +kernel
theorem own_pd6 : parseMethodDescriptor "(Lcom/example/wyrd/wyrd/hoa/Tokens$Kind;Ljava/lang/String;I)V" = some ⟨[(.object "com/example/wyrd/wyrd/hoa/Tokens$Kind"), (.object "java/lang/String"), .int], none⟩ := by decide +kernel
theorem own_pd7 : parseMethodDescriptor "(ICCC)Ljava/lang/String;" = some ⟨[.int, .char, .char, .char], some (.object "java/lang/String")⟩ := by decide +kernel
theorem own_pn0 : plainFor (⟨"com/example/wyrd/wyrd/hoa/TokenIsPinLaw", "law", "(IIIIII)Z"⟩ : MethodName) = true := plainFor_of_name (by first | (simp [plainName, overriddenIn]; done) | decide +kernel)
theorem own_ef0_IIIIII (m : MethodId) (x0 : Int32) (x1 : Int32) (x2 : Int32) (x3 : Int32) (x4 : Int32) (x5 : Int32) : entryFrame m #[(.int x0), (.int x1), (.int x2), (.int x3), (.int x4), (.int x5)] maxLocals = mkF m 0 #[.val (.int x0), .val (.int x1), .val (.int x2), .val (.int x3), .val (.int x4), .val (.int x5), .unset, .unset, .unset, .unset, .unset, .unset, .unset, .unset, .unset, .unset, .unset, .unset, .unset, .unset, .unset, .unset] [] := by first | (simp [entryFrame, mkF, argsToLocals, Value.category, maxLocals]; done) | rfl
theorem own_u16 (x : Int32) : ¬ x.toUInt32.toUInt16.toUInt32.toInt32 < 0 ∧ x.toUInt32.toUInt16.toUInt32.toInt32.toBitVec.toNat = x.toBitVec.toNat % 65536 := by
  have e : x.toUInt32.toUInt16.toUInt32.toInt32.toBitVec.toNat = x.toUInt32.toUInt16.toNat := UInt16.toNat_toUInt32 _
  have e2 : x.toUInt32.toUInt16.toNat = x.toBitVec.toNat % 65536 := UInt32.toNat_toUInt16 _
  have h := x.toUInt32.toUInt16.toNat_lt
  refine ⟨?_, by rw [e, e2]⟩
  rw [Int32.lt_iff_toInt_lt, show x.toUInt32.toUInt16.toUInt32.toInt32.toInt = x.toUInt32.toUInt16.toUInt32.toInt32.toBitVec.toInt from rfl, BitVec.toInt_eq_toNat_bmod, e, Int.bmod_def]
  show ¬ _ < 0
  omega
theorem own_i2c {x : Int32} (h0 : 0 ≤ x.toInt) (h1 : x.toInt ≤ 255) : x.toUInt32.toUInt16.toUInt32.toInt32 = x := by
  apply Int32.toInt_inj.mp
  have e := (own_u16 x).2
  have hn : x.toInt = x.toBitVec.toNat := by
    rw [show x.toInt = x.toBitVec.toInt from rfl, BitVec.toInt_eq_toNat_cond]
    rw [show x.toInt = x.toBitVec.toInt from rfl, BitVec.toInt_eq_toNat_cond] at h0
    split
    · rfl
    · rename_i hq; rw [if_neg hq] at h0; have := x.toBitVec.isLt; omega
  rw [show x.toUInt32.toUInt16.toUInt32.toInt32.toInt = x.toUInt32.toUInt16.toUInt32.toInt32.toBitVec.toInt from rfl, BitVec.toInt_eq_toNat_cond, e]
  split <;> omega
theorem own_c8 (x : Int32) : 0 ≤ (x &&& 255).toUInt32.toUInt16.toUInt32.toInt32.toInt ∧ (x &&& 255).toUInt32.toUInt16.toUInt32.toInt32.toInt ≤ 255 := by
  have e : (x &&& 255).toInt = x.toInt % 2 ^ 8 := Jvm.Kit.i32_mask x 255 (k := 8) (by decide) (by decide)
  rw [own_i2c (by omega) (by omega)]; omega
theorem own_lt {x y : Int32} : x < y ↔ x.toInt < y.toInt := Int32.lt_iff_toInt_lt
theorem own_ncE {c : Int32} (h : 0 ≤ c.toInt ∧ c.toInt ≤ 255) : nar .char c = c := own_i2c h.1 h.2
theorem own_nc0 {c : Int32} (h : 0 ≤ c.toInt ∧ c.toInt ≤ 255) : ¬ c < 0 ∧ ¬ (255 : Int32) < c := by
  rw [own_lt, own_lt]
  have e0 : (0 : Int32).toInt = 0 := rfl
  have e1 : (255 : Int32).toInt = 255 := rfl
  omega
theorem own_nc {c : Int32} (h : 0 ≤ c.toInt ∧ c.toInt ≤ 255) : ¬ nar .char c < 0 ∧ ¬ (255 : Int32) < nar .char c := by
  rw [own_ncE h]; exact own_nc0 h
theorem own_nq {c : Int32} (h : 0 ≤ c.toInt ∧ c.toInt ≤ 255) : ¬ (255 : Int32) < c := (own_nc0 h).2
theorem own_k4 (n : Int32) : n &&& 3 = 0 ∨ n &&& 3 = 1 ∨ n &&& 3 = 2 ∨ n &&& 3 = 3 := by
  have e : (n &&& 3).toInt = n.toInt % 2 ^ 2 := Jvm.Kit.i32_mask n 3 (k := 2) (by decide) (by decide)
  have c : (n &&& 3).toInt = 0 ∨ (n &&& 3).toInt = 1 ∨ (n &&& 3).toInt = 2 ∨ (n &&& 3).toInt = 3 := by omega
  rcases c with c | c | c | c
  · exact Or.inl (Int32.toInt_inj.mp (c.trans rfl))
  · exact Or.inr (Or.inl (Int32.toInt_inj.mp (c.trans rfl)))
  · exact Or.inr (Or.inr (Or.inl (Int32.toInt_inj.mp (c.trans rfl))))
  · exact Or.inr (Or.inr (Or.inr ((Int32.toInt_inj.mp (c.trans rfl)))))
theorem own_k8 (n : Int32) : n &&& 7 = 0 ∨ n &&& 7 = 1 ∨ n &&& 7 = 2 ∨ n &&& 7 = 3 ∨ n &&& 7 = 4 ∨ n &&& 7 = 5 ∨ n &&& 7 = 6 ∨ n &&& 7 = 7 := by
  have e : (n &&& 7).toInt = n.toInt % 2 ^ 3 := Jvm.Kit.i32_mask n 7 (k := 3) (by decide) (by decide)
  have c : (n &&& 7).toInt = 0 ∨ (n &&& 7).toInt = 1 ∨ (n &&& 7).toInt = 2 ∨ (n &&& 7).toInt = 3 ∨ (n &&& 7).toInt = 4 ∨ (n &&& 7).toInt = 5 ∨ (n &&& 7).toInt = 6 ∨ (n &&& 7).toInt = 7 := by omega
  rcases c with c | c | c | c | c | c | c | c
  · exact Or.inl (Int32.toInt_inj.mp (c.trans rfl))
  · exact Or.inr (Or.inl (Int32.toInt_inj.mp (c.trans rfl)))
  · exact Or.inr (Or.inr (Or.inl (Int32.toInt_inj.mp (c.trans rfl))))
  · exact Or.inr (Or.inr (Or.inr (Or.inl (Int32.toInt_inj.mp (c.trans rfl)))))
  · exact Or.inr (Or.inr (Or.inr (Or.inr (Or.inl (Int32.toInt_inj.mp (c.trans rfl))))))
  · exact Or.inr (Or.inr (Or.inr (Or.inr (Or.inr (Or.inl (Int32.toInt_inj.mp (c.trans rfl)))))))
  · exact Or.inr (Or.inr (Or.inr (Or.inr (Or.inr (Or.inr (Or.inl (Int32.toInt_inj.mp (c.trans rfl))))))))
  · exact Or.inr (Or.inr (Or.inr (Or.inr (Or.inr (Or.inr (Or.inr ((Int32.toInt_inj.mp (c.trans rfl)))))))))
def own_cs (n c0 c1 c2 : Int32) : List Int32 := if n = 0 then [] else if n = 1 then [c0] else if n = 2 then [c0, c1] else [c0, c1, c2]
theorem own_eq {n k c0 c1 c2 d0 d1 d2 : Int32} (hn : n = 0 ∨ n = 1 ∨ n = 2 ∨ n = 3) (hk : k = 0 ∨ k = 1 ∨ k = 2 ∨ k = 3) : own_cs n c0 c1 c2 = own_cs k d0 d1 d2 ↔ n = k ∧ (n < 1 ∨ c0 = d0) ∧ (n < 2 ∨ c1 = d1) ∧ (n < 3 ∨ c2 = d2) := by
  rcases hn with rfl | rfl | rfl | rfl <;> rcases hk with rfl | rfl | rfl | rfl <;> simp [own_cs]
def OStr (Z : State) (h : Heap) (x : Addr) (cs : List Int32) : Prop := Exa Z h x "java/lang/String" ∧ Fld Z h x "java/lang/String" "coder" "B" (.int 0) ∧ ∃ (t : Addr) (kb : ClassId) (N2 : Int32) (vs : List Value), Fld Z h x "java/lang/String" "value" "[B" (.ref t) ∧ Arv Z h t kb .byte N2 vs (.int 0) ∧ StrChars.Road.CodA cs 0 N2 vs
theorem OStr.keep {Z : State} {h h' : Heap} {x : Addr} {cs : List Int32} (F : OStr Z h x cs) (K : Keep h h' []) : OStr Z h' x cs := by
  obtain ⟨a, b, t, kb, N2, vs, d, f, g⟩ := F
  exact ⟨a.keep K, b.keep K nin0, t, kb, N2, vs, d.keep K nin0, f.keep K nin0, g⟩
theorem own_csr {n c0 c1 c2 : Int32} (h0 : 0 ≤ c0.toInt ∧ c0.toInt ≤ 255) (h1 : 0 ≤ c1.toInt ∧ c1.toInt ≤ 255) (h2 : 0 ≤ c2.toInt ∧ c2.toInt ≤ 255) : ∀ c ∈ own_cs n c0 c1 c2, ¬ c < 0 ∧ ¬ (255 : Int32) < c := by
  intro c hc
  unfold own_cs at hc
  split at hc
  · simp at hc
  split at hc
  · simp at hc; subst hc; exact own_nc0 h0
  split at hc
  · simp at hc; rcases hc with rfl | rfl
    · exact own_nc0 h0
    · exact own_nc0 h1
  · simp at hc; rcases hc with rfl | rfl | rfl
    · exact own_nc0 h0
    · exact own_nc0 h1
    · exact own_nc0 h2
theorem own_csl (n c0 c1 c2 : Int32) : (own_cs n c0 c1 c2).length ≤ 4000 := by
  unfold own_cs
  split
  · simp
  split
  · simp
  split <;> simp
theorem own_up {cs : List Int32} (hp : ∀ c ∈ cs, ¬ c < 0 ∧ ¬ (255 : Int32) < c) : ∀ c ∈ cs, ¬ c < 0 ∧ ¬ (65535 : Int32) < c := fun c hc => ⟨(hp c hc).1, fun q => (hp c hc).2 (by rw [own_lt] at q ⊢; have e0 : (65535 : Int32).toInt = 65535 := rfl; have e1 : (255 : Int32).toInt = 255 := rfl; omega)⟩
set_option maxRecDepth 65536 in
set_option maxHeartbeats 40000000 in
theorem own_pSE {l : Launch} {Z : State} {a0 : Array Value} (hw : ∀ d ∈ tables_1, d.before a0 Z = true) {p : Program} {e : Env} {s : State} {m : MethodId} {args : Array Value} {below : List Frame} {meth : Method} {c : Code} (hC : OCtx Z p s m meth c "java/lang/String" "<init>" jdk_42_method_149_code 6 none) {T0 : State} {locs : List Loc} {cells slots : Nat} (X0 : Stand p l e (⟨1, 2, 4, 12⟩ : Room) s m args below meth c T0 locs cells slots) {h0 : Heap} (e0 : T0.heap = h0) (x b la lb : Addr) (lk : ClassId) (q1 q2 : Int32) (n0 : Nat) (Li : Lit s "java/lang/String" 7 la) (F : Exa Z h0 la "java/lang/String" ∧ Fld Z h0 la "java/lang/String" "coder" "B" (.int 0) ∧ Fld Z h0 la "java/lang/String" "value" "[B" (.ref lb) ∧ Arv Z h0 lb lk .byte (0 : Int32) [] (.int 0)) (E_x : Exa Z h0 x "java/lang/String") (F_v : Fld Z h0 x "java/lang/String" "value" "[B" .null) (F_c : Fld Z h0 x "java/lang/String" "coder" "B" (.int (0 : Int32))) (g_x : n0 ≤ x) (N0 : Fr n0 locs) (ne_la_x : la ≠ x) (ne_lb_x : lb ≠ x) (hcs : cells ≤ 2) (hss : slots ≤ 4) :
    OFin p e below s 2 4 (fun v h L => v = none ∧ Fr n0 L ∧ Keep h0 h [x] ∧ (Exa Z h x "java/lang/String" ∧ Fld Z h x "java/lang/String" "value" "[B" (.ref lb) ∧ Fld Z h x "java/lang/String" "coder" "B" (.int 0)) ∧ Exa Z h la "java/lang/String" ∧ Fld Z h la "java/lang/String" "coder" "B" (.int 0) ∧ Fld Z h la "java/lang/String" "value" "[B" (.ref lb) ∧ Arv Z h lb lk .byte (0 : Int32) [] (.int 0)) (T0.setTop (mkF m 11 #[.val (.ref x), .val (.ref b), .val (.int q1), .val (.int q2), .val .null, .unset] [(.ref la), (.ref x)])) := by
  have hC0 := hC
  obtain ⟨hx, hZ, hby, hml, hown, hret, hlk, hnm⟩ := hC
  obtain ⟨E_l, C_l, V_l, A_l⟩ := F
  have kp0 := Keep.refl h0 [x]
  obtain ⟨T1, X1, e1, st1⟩ := getF X0 hx hZ hown (host := "") (Or.inl (own_w hw 32 rfl)) Via.refl e0 V_l (g := (mkF m 11 #[.val (.ref x), .val (.ref b), .val (.int q1), .val (.int q2), .val .null, .unset] [(.ref la), (.ref x)])) rfl rfl (hb hby own_d3_11)
  refine own_st (st1) ?_
  clear st1 X0 e0
  show OFin p e below s _ _ _ (T1.setTop (mkF m 14 #[.val (.ref x), .val (.ref b), .val (.int q1), .val (.int q2), .val .null, .unset] [(.ref lb), (.ref x)]))
  obtain ⟨T2, h2, X2, e2, W2, st2⟩ := putF X1 hx hZ hown (host := "") (Or.inl (own_w hw 32 rfl)) Via.refl e1 F_v E_x (Or.inr ⟨(own_w hw 33 rfl), rfl, hnm⟩) (own_w hw 5 rfl) (ty := (.array .byte)) (by decide) rfl rfl (g := (mkF m 14 #[.val (.ref x), .val (.ref b), .val (.int q1), .val (.int q2), .val .null, .unset] [(.ref lb), (.ref x)])) rfl rfl (hb hby own_d3_14)
  have f3 := F_v.same W2
  have f4 := E_x.wr W2
  have f6 := F_c.other W2 (Or.inr (slot_ne (Or.inr (own_w hw 31 rfl)) (Or.inr (own_w hw 33 rfl)) (by decide) (t := .byte) (t' := (.array .byte)) (by decide) (by decide)))
  have f7 := E_l.wr W2
  have f8 := V_l.other W2 (Or.inl ne_la_x)
  have f9 := C_l.other W2 (Or.inl ne_la_x)
  have f10 := A_l.other W2 ne_lb_x
  have fr2 := Fr.snoc X2 N0 g_x
  clear N0
  have kp2 := kp0.wr W2 (Or.inl (List.mem_of_getElem? (i := 0) rfl))
  clear kp0
  refine own_st (st2) ?_
  clear st2 X1 e1 W2
  show OFin p e below s _ _ _ (T2.setTop (mkF m 17 #[.val (.ref x), .val (.ref b), .val (.int q1), .val (.int q2), .val .null, .unset] []))
  refine own_st (fun _ kS => XS.aloadN X2.here hx rfl (hb hby own_d3_17) rfl rfl kS) ?_
  show OFin p e below s _ _ _ (T2.setTop (mkF m 18 #[.val (.ref x), .val (.ref b), .val (.int q1), .val (.int q2), .val .null, .unset] [(.ref x)]))
  refine own_st (own_ldcA X2 hx hZ hown (own_w hw 77 rfl) Li (g := (mkF m 18 #[.val (.ref x), .val (.ref b), .val (.int q1), .val (.int q2), .val .null, .unset] [(.ref x)])) rfl (hb hby own_d3_18)) ?_
  show OFin p e below s _ _ _ (T2.setTop (mkF m 20 #[.val (.ref x), .val (.ref b), .val (.int q1), .val (.int q2), .val .null, .unset] [(.ref la), (.ref x)]))
  obtain ⟨T11, X11, e11, st11⟩ := getF X2 hx hZ hown (host := "") (Or.inl (own_w hw 30 rfl)) Via.refl e2 f9 (g := (mkF m 20 #[.val (.ref x), .val (.ref b), .val (.int q1), .val (.int q2), .val .null, .unset] [(.ref la), (.ref x)])) rfl rfl (hb hby own_d3_20)
  refine own_st (st11) ?_
  clear st11 X2 e2
  show OFin p e below s _ _ _ (T11.setTop (mkF m 23 #[.val (.ref x), .val (.ref b), .val (.int q1), .val (.int q2), .val .null, .unset] [(.int (0 : Int32)), (.ref x)]))
  obtain ⟨T12, h12, X12, e12, W12, st12⟩ := putFN X11 hx hZ hown (own_w hw 30 rfl) Via.refl e11 f6 f4 (Or.inr ⟨(own_w hw 31 rfl), rfl, hnm⟩) (own_w hw 5 rfl) (ty := .byte) (v' := (.int (nar .byte (0 : Int32)))) (by decide) rfl (fits_nar_byte _) (g := (mkF m 23 #[.val (.ref x), .val (.ref b), .val (.int q1), .val (.int q2), .val .null, .unset] [(.int (0 : Int32)), (.ref x)])) rfl rfl (hb hby own_d3_23)
  have f13 := f6.same W12
  have f14 := f4.wr W12
  clear f4
  have f15 := f3.other W12 (Or.inr (slot_ne (Or.inr (own_w hw 33 rfl)) (Or.inr (own_w hw 31 rfl)) (by decide) (t := (.array .byte)) (t' := .byte) (by decide) (by decide)))
  clear f3
  have f17 := f7.wr W12
  clear f7
  have f18 := f8.other W12 (Or.inl ne_la_x)
  clear f8
  have f19 := f9.other W12 (Or.inl ne_la_x)
  clear f9
  have f20 := f10.other W12 ne_lb_x
  clear f10
  have fr12 := Fr.snoc X12 fr2 g_x
  clear fr2
  have kp12 := kp2.wr W12 (Or.inl (List.mem_of_getElem? (i := 0) rfl))
  clear kp2
  refine own_st (st12) ?_
  clear st12 X11 e11 W12 f6
  show OFin p e below s _ _ _ (T12.setTop (mkF m 26 #[.val (.ref x), .val (.ref b), .val (.int q1), .val (.int q2), .val .null, .unset] []))
  exact own_retV X12 hx hret hlk (hb hby own_d3_26) hcs hss (by show _ ∧ _ ∧ Keep h0 T12.heap _ ∧ _ ∧ _; rw [e12]; exact ⟨rfl, fr12, kp12, ⟨f14, f15, f13⟩, f17, f19, f18, f20⟩)
set_option maxRecDepth 65536 in
set_option maxHeartbeats 40000000 in
theorem rmSE (l : Launch) (Z : State) (a0 : Array Value) (hw : ∀ d ∈ tables_1, d.before a0 Z = true) (x : Addr) (b : Addr) (q1 : Int32) (q2 : Int32) (h0 : Heap) (n0 : Nat) (E_x : Exa Z h0 x "java/lang/String") (F_v : Fld Z h0 x "java/lang/String" "value" "[B" .null) (F_c : Fld Z h0 x "java/lang/String" "coder" "B" (.int (0 : Int32))) (g_x : n0 ≤ x) (O : Old Z n0 h0) (hh : Jvm.Lit.constHeld Z "java/lang/String" 7) (hcw : Jvm.Lit.compactW.before a0 Z = true) (hq : q2 = 0) :
    OMetW l Z (OLit Z h0) (⟨"java/lang/String", "<init>", "([CIILjava/lang/Void;)V"⟩ : MethodName) jdk_42_method_149_code 6 none (⟨1, 2, 4, 12⟩ : Room) #[(.ref x), (.ref b), (.int q1), (.int q2), .null] h0 (fun v vm h L => v = none ∧ Fr n0 L ∧ Keep h0 h [x] ∧ ∃ la lb lk, OLitAt Z vm h la lb lk ∧ Exa Z h x "java/lang/String" ∧ Fld Z h x "java/lang/String" "value" "[B" (.ref lb) ∧ Fld Z h x "java/lang/String" "coder" "B" (.int 0)) := by
  refine own_enterW own_pn3 ?_
  intro p e s m below meth c T0 X0 hC e0 eS hPv
  have hC0 := hC
  obtain ⟨hx, hZ, hby, hml, hown, hret, hlk, hnm⟩ := hC
  have hown : s.vm.findClass "java/lang/String" = some m.cls := hown
  refine own_atE (own_ef3_RRIIN m x b q1 q2) ?_
  show OFinE p e below _ (T0.setTop (mkF m 0 #[.val (.ref x), .val (.ref b), .val (.int q1), .val (.int q2), .val .null, .unset] []))
  refine own_stE (fun _ kS => XS.aloadN X0.here hx rfl (hb hby own_d3_0) rfl rfl kS) ?_
  show OFinE p e below _ (T0.setTop (mkF m 1 #[.val (.ref x), .val (.ref b), .val (.int q1), .val (.int q2), .val .null, .unset] [(.ref x)]))
  obtain ⟨T21, X21, e21, st21⟩ := initO X0 hx hZ hown (own_w hw 15 rfl) (own_w hw 16 rfl) (own_w hw 17 rfl) e0 (g := (mkF m 1 #[.val (.ref x), .val (.ref b), .val (.int q1), .val (.int q2), .val .null, .unset] [(.ref x)])) rfl (by rw [hml]; rfl) rfl (hb hby own_d3_1) (by decide) (W := 0) (by show 2 * 0 + _ ≤ _; exact Nat.le_of_eq rfl) (by decide)
  refine own_stE (st21) ?_
  clear st21 X0 e0
  show OFinE p e below _ (T21.setTop (mkF m 4 #[.val (.ref x), .val (.ref b), .val (.int q1), .val (.int q2), .val .null, .unset] []))
  refine own_stE (fun _ kS => XS.iloadN X21.here hx rfl (hb hby own_d3_4) rfl kS) ?_
  show OFinE p e below _ (T21.setTop (mkF m 5 #[.val (.ref x), .val (.ref b), .val (.int q1), .val (.int q2), .val .null, .unset] [(.int q2)]))
  refine own_stE (fun _ kS => XS.ifNo X21.here hx rfl (hb hby own_d3_5) rfl ((if0 _ _).trans (teq hq).2) kS) ?_
  show OFinE p e below _ (T21.setTop (mkF m 8 #[.val (.ref x), .val (.ref b), .val (.int q1), .val (.int q2), .val .null, .unset] []))
  refine own_stE (fun _ kS => XS.aloadN X21.here hx rfl (hb hby own_d3_8) rfl rfl kS) ?_
  show OFinE p e below _ (T21.setTop (mkF m 9 #[.val (.ref x), .val (.ref b), .val (.int q1), .val (.int q2), .val .null, .unset] [(.ref x)]))
  have wS : ∀ a ∈ Bundle.stringAtoms, a.before a0 Z = true := fun d hd => hw d ((by decide +kernel : ∀ d ∈ Bundle.stringAtoms, d ∈ tables_1) d hd)
  obtain ⟨la, lb, lk, T9, h9, k9, X9, e9, E9, S9, hk9, hZ, hown, F9, st9⟩ := own_ldcE X21 hx hZ hown (own_w hw 77 rfl) wS e21 eS O hPv hh hcw (g := (mkF m 9 #[.val (.ref x), .val (.ref b), .val (.int q1), .val (.int q2), .val .null, .unset] [(.ref x)])) rfl (hb hby own_d3_9) (by decide) (by decide)
  refine own_stE (st9) ?_
  exact own_narrow S9 (own_pSE hw ⟨hx, hZ, hby, hml, hown, hret, hlk, hnm⟩ X9 e9 x b la lb lk q1 q2 n0 F9.1 F9.2 (E_x.ext E9) (F_v.ext E9) (F_c.ext E9) g_x (Fr.nil n0) (Fld.ne F9.2.2.2.1 (F_v.ext E9) (by intro q; cases q)) (Ne.symm (Exa.neArv (E_x.ext E9) F9.2.2.2.2 (own_w hw 5 rfl))) (by decide) (by decide)) (fun v vm h L hW q => ⟨Nat.le_trans hk9 q.2.2.1.1, q.1, q.2.1, ((Keep.refl h0 [x]).ext E9).trans q.2.2.1 (allS (Or.inl (List.mem_of_getElem? (i := 0) rfl)) all0), la, lb, lk, ⟨State.resolvedAt?_warmed39 (s := s.setVm T9.vm) hW.wide F9.1, q.2.2.2.2⟩, q.2.2.2.1⟩)
set_option maxRecDepth 65536 in
set_option maxHeartbeats 40000000 in
theorem rmSC (l : Launch) (Z : State) (a0 : Array Value) (hw : ∀ d ∈ tables_1, d.before a0 Z = true) (x : Addr) (b : Addr) (h0 : Heap) (n0 : Nat) (kb : ClassId) (E_x : Exa Z h0 x "java/lang/String") (F_v : Fld Z h0 x "java/lang/String" "value" "[B" .null) (F_c : Fld Z h0 x "java/lang/String" "coder" "B" (.int (0 : Int32))) (g_x : n0 ≤ x) (O : Old Z n0 h0) (hh : Jvm.Lit.constHeld Z "java/lang/String" 7) (hcw : Jvm.Lit.compactW.before a0 Z = true) (V_b : Arv Z h0 b kb .char (0 : Int32) [] (.int (0 : Int32))) :
    OMetW l Z (OLit Z h0) (⟨"java/lang/String", "<init>", "([C)V"⟩ : MethodName) jdk_42_method_3_code 2 none (⟨2, 2, 4, 29⟩ : Room) #[(.ref x), (.ref b)] h0 (fun v vm h L => v = none ∧ Fr n0 L ∧ Keep h0 h [x] ∧ ∃ la lb lk, OLitAt Z vm h la lb lk ∧ Exa Z h x "java/lang/String" ∧ Fld Z h x "java/lang/String" "value" "[B" (.ref lb) ∧ Fld Z h x "java/lang/String" "coder" "B" (.int 0)) := by
  refine own_enterW own_pn2 ?_
  intro p e s m below meth c T0 X0 hC e0 eS hPv
  have hC0 := hC
  obtain ⟨hx, hZ, hby, hml, hown, hret, hlk, hnm⟩ := hC
  have hown : s.vm.findClass "java/lang/String" = some m.cls := hown
  refine own_atE (own_ef2_RR m x b) ?_
  show OFinE p e below _ (T0.setTop (mkF m 0 #[.val (.ref x), .val (.ref b)] []))
  refine own_stE (fun _ kS => XS.aloadN X0.here hx rfl (hb hby own_d2_0) rfl rfl kS) ?_
  show OFinE p e below _ (T0.setTop (mkF m 1 #[.val (.ref x), .val (.ref b)] [(.ref x)]))
  refine own_stE (fun _ kS => XS.aloadN X0.here hx rfl (hb hby own_d2_1) rfl rfl kS) ?_
  show OFinE p e below _ (T0.setTop (mkF m 2 #[.val (.ref x), .val (.ref b)] [(.ref b), (.ref x)]))
  refine own_stE (fun _ kS => XS.iconst X0.here hx rfl (hb hby own_d2_2) kS) ?_
  show OFinE p e below _ (T0.setTop (mkF m 3 #[.val (.ref x), .val (.ref b)] [(.int (0 : Int32)), (.ref b), (.ref x)]))
  refine own_stE (fun _ kS => XS.aloadN X0.here hx rfl (hb hby own_d2_3) rfl rfl kS) ?_
  show OFinE p e below _ (T0.setTop (mkF m 4 #[.val (.ref x), .val (.ref b)] [(.ref b), (.int (0 : Int32)), (.ref b), (.ref x)]))
  obtain ⟨cl22, Ar22, -, S22, B22, H22, -⟩ := id V_b
  have hl22 := len_of S22 B22
  refine own_stE (X0.arraylength hx (by rw [e0]; exact Ar22.1) (State.isArrayOf_alike hZ.alike Ar22.2.1) (g := (mkF m 4 #[.val (.ref x), .val (.ref b)] [(.ref b), (.int (0 : Int32)), (.ref b), (.ref x)])) rfl rfl (hb hby own_d2_4)) ?_
  rw [hl22]
  clear hl22 Ar22 S22 B22
  show OFinE p e below _ (T0.setTop (mkF m 5 #[.val (.ref x), .val (.ref b)] [(.int (0 : Int32)), (.int (0 : Int32)), (.ref b), (.ref x)]))
  refine own_stE (fun _ kS => XS.aconstNull X0.here hx rfl (hb hby own_d2_5) kS) ?_
  show OFinE p e below _ (T0.setTop (mkF m 6 #[.val (.ref x), .val (.ref b)] [.null, (.int (0 : Int32)), (.int (0 : Int32)), (.ref b), (.ref x)]))
  obtain ⟨v23, T23, L23, X23, SS23, hZ, hown, hQ23, st23⟩ := own_initW X0 hx hZ (y := (⟨"java/lang/String", "<init>", "([CIILjava/lang/Void;)V"⟩ : MethodName)) (rm := ⟨1, 2, 4, 12⟩) (W := 0) (a := x) (argsL := [(.ref b), (.int (0 : Int32)), (.int (0 : Int32)), .null]) (rest := []) rfl hown (own_w hw 11 rfl) (own_w hw 12 rfl) (own_w hw 6 rfl) (own_w hw 14 rfl) (rmSE l Z a0 hw x b _ _ h0 n0 E_x F_v F_c g_x O hh hcw rfl) (fun vm hW => OLit.warm hW hPv) e0 (g := (mkF m 6 #[.val (.ref x), .val (.ref b)] [.null, (.int (0 : Int32)), (.int (0 : Int32)), (.ref b), (.ref x)])) rfl (by rw [hml]; rfl) (lenOf own_pd0 rfl) rfl (by show 2 * 0 + _ ≤ _; exact Nat.le_of_eq rfl) (hb hby own_d2_6) (by decide) (by decide) (by decide) (by decide)
  obtain ⟨rfl, N1, K1, la, lb, lk, F1, G1⟩ := hQ23
  refine own_stE (st23) ?_
  clear X0 e0
  refine own_narrow SS23 (Q' := (fun v h L => v = none ∧ h = T23.heap ∧ L = L23)) ?_ (by rintro v vm h L hW ⟨rfl, rfl, rfl⟩; exact ⟨Nat.le_refl _, rfl, N1, K1, la, lb, lk, OLitAt.warm hW F1, G1⟩)
  show OFin p e below (s.setVm T23.vm) _ _ _ (T23.setTop (mkF m 9 #[.val (.ref x), .val (.ref b)] []))
  exact own_retV X23 hx hret hlk (hb hby own_d2_9) (by decide) (by decide) ⟨rfl, rfl, rfl⟩
set_option maxRecDepth 65536 in
set_option maxHeartbeats 40000000 in
theorem rmT0 (l : Launch) (Z : State) (a0 : Array Value) (hw : ∀ d ∈ tables_1, d.before a0 Z = true) (n : Int32) (c0 : Int32) (c1 : Int32) (c2 : Int32) (h0 : Heap) (n0 : Nat) (Z0 : n0 ≤ h0.size) (hn : n = 0) (O : Old Z n0 h0) (hh : Jvm.Lit.constHeld Z "java/lang/String" 7) (hcw : Jvm.Lit.compactW.before a0 Z = true) :
    OMetW l Z (OLit Z h0) (⟨"com/example/wyrd/wyrd/hoa/TokenIsPinLaw", "text", "(ICCC)Ljava/lang/String;"⟩ : MethodName) method_3_code 4 (some (.object "java/lang/String")) (⟨3, 4, 8, 43⟩ : Room) #[(.int n), (.int c0), (.int c1), (.int c2)] h0 (fun v vm h L => ∃ x, v = some (.ref x) ∧ Fr n0 L ∧ Keep h0 h [] ∧ OLit Z h vm ∧ OStr Z h x []) := by
  refine own_enterW own_pn1 ?_
  intro p e s m below meth c T0 X0 hC e0 eS hPv
  have hC0 := hC
  obtain ⟨hx, hZ, hby, hml, hown, hret, hlk, hnm⟩ := hC
  have hown : s.vm.findClass "com/example/wyrd/wyrd/hoa/TokenIsPinLaw" = some m.cls := hown
  refine own_atE (own_ef1_IIII m n c0 c1 c2) ?_
  show OFinE p e below _ (T0.setTop (mkF m 0 #[.val (.int n), .val (.int c0), .val (.int c1), .val (.int c2)] []))
  have N0 := Fr.nil n0
  have kp0 := Keep.refl h0 []
  refine own_stE (fun _ kS => XS.iloadN X0.here hx rfl (hb hby own_d1_0) rfl kS) ?_
  show OFinE p e below _ (T0.setTop (mkF m 1 #[.val (.int n), .val (.int c0), .val (.int c1), .val (.int c2)] [(.int n)]))
  refine own_stE (fun _ kS => XS.ifNo X0.here hx rfl (hb hby own_d1_1) rfl ((if0 _ _).trans (teq hn).2) kS) ?_
  show OFinE p e below _ (T0.setTop (mkF m 4 #[.val (.int n), .val (.int c0), .val (.int c1), .val (.int c2)] []))
  obtain ⟨T24, h24, X24, e24, E24, A24, D24, -, st24⟩ := newO X0 hx hZ hown (own_w hw 4 rfl) (own_w hw 5 rfl) (own_w hw 6 rfl) e0 (g := (mkF m 4 #[.val (.int n), .val (.int c0), .val (.int c1), .val (.int c2)] [])) rfl (hb hby own_d1_4) (by decide) (by decide)
  obtain ⟨x, g24⟩ : ∃ z, z = h0.size := ⟨_, rfl⟩
  rw [← g24] at A24 D24 st24
  have g_x : n0 ≤ x := Nat.le_trans Z0 (Nat.le_of_eq g24.symm)
  have od24 := O.ext E24
  have f25 : Fld Z h24 x "java/lang/String" "coder" "B" (.int (0 : Int32)) := D24 (Or.inr (own_w hw 31 rfl)) (ty := .byte) (by decide)
  have f26 : Fld Z h24 x "java/lang/String" "value" "[B" .null := D24 (Or.inr (own_w hw 33 rfl)) (ty := (.array .byte)) (by decide)
  have sz24 : n0 ≤ h24.size := Nat.le_trans Z0 E24.1
  have kp24 := kp0.ext E24
  have kz_x := Nat.le_trans kp0.1 (Nat.le_of_eq g24.symm)
  clear kp0
  refine own_stE (st24) ?_
  clear st24 X0 e0 E24 D24 g24
  show OFinE p e below _ (T24.setTop (mkF m 7 #[.val (.int n), .val (.int c0), .val (.int c1), .val (.int c2)] [(.ref x)]))
  refine own_stE (fun _ kS => XS.dup X24.here hx rfl (hb hby own_d1_7) rfl rfl kS) ?_
  show OFinE p e below _ (T24.setTop (mkF m 8 #[.val (.int n), .val (.int c0), .val (.int c1), .val (.int c2)] [(.ref x), (.ref x)]))
  refine own_stE (fun _ kS => XS.iconst X24.here hx rfl (hb hby own_d1_8) kS) ?_
  show OFinE p e below _ (T24.setTop (mkF m 9 #[.val (.int n), .val (.int c0), .val (.int c1), .val (.int c2)] [(.int (0 : Int32)), (.ref x), (.ref x)]))
  obtain ⟨T27, h27, k27, X27, e27, E27, A27, st27⟩ := newP X24 hx hZ (own_w hw 7 rfl) e24 (g := (mkF m 9 #[.val (.int n), .val (.int c0), .val (.int c1), .val (.int c2)] [(.int (0 : Int32)), (.ref x), (.ref x)])) rfl (hb hby own_d1_9) rfl (by decide) (cap := 0) (by decide) (by decide) (by decide) (by decide)
  obtain ⟨b, g27⟩ : ∃ z, z = h24.size := ⟨_, rfl⟩
  rw [← g27] at A27 st27
  have ne_x_b : x ≠ b := Nat.ne_of_lt (Nat.lt_of_lt_of_le A24.lt (Nat.le_of_eq g27.symm))
  have g_b : n0 ≤ b := Nat.le_trans sz24 (Nat.le_of_eq g27.symm)
  have od27 := od24.ext E27
  clear od24
  have f28 := A24.ext E27
  have f29 := f25.ext E27
  clear f25
  have f30 := f26.ext E27
  clear f26
  have f31 : Arv Z h27 b k27 .char (0 : Int32) [] (.int (0 : Int32)) := Arv.new A27 (by decide)
  have sz27 : n0 ≤ h27.size := Nat.le_trans sz24 E27.1
  clear sz24
  have kp27 := kp24.ext E27
  have kz_b := Nat.le_trans kp24.1 (Nat.le_of_eq g27.symm)
  clear kp24
  refine own_stE (st27) ?_
  clear st27 X24 e24 E27 g27
  show OFinE p e below _ (T27.setTop (mkF m 11 #[.val (.int n), .val (.int c0), .val (.int c1), .val (.int c2)] [(.ref b), (.ref x), (.ref x)]))
  obtain ⟨v32, T32, L32, X32, SS32, hZ, hown, hQ32, st32⟩ := own_initW X27 hx hZ (y := (⟨"java/lang/String", "<init>", "([C)V"⟩ : MethodName)) (rm := ⟨2, 2, 4, 29⟩) (W := 1) (a := x) (argsL := [(.ref b)]) (rest := [(.ref x)]) rfl hown (own_w hw 8 rfl) (own_w hw 9 rfl) (own_w hw 6 rfl) (own_w hw 10 rfl) (rmSC l Z a0 hw x b h27 n0 _ f28 f30 f29 g_x od27 hh hcw f31) (fun vm hW => (OLit.warm hW hPv).keep kp27) e27 (g := (mkF m 11 #[.val (.int n), .val (.int c0), .val (.int c1), .val (.int c2)] [(.ref b), (.ref x), (.ref x)])) rfl (by rw [hml]; rfl) (lenOf own_pd1 rfl) rfl (by show 2 * 0 + _ ≤ _; exact Nat.le_of_eq rfl) (hb hby own_d1_11) (by decide) (by decide) (by decide) (by decide)
  obtain ⟨rfl, N32, K32, la, lb, lk, F1, G1, G2, G3⟩ := hQ32
  have kp32 := kp27.trans K32 (allS (Or.inr kz_x) all0)
  have fr32 := Fr.app N0 N32
  refine own_stE (st32) ?_
  clear X27 e27
  refine own_narrow SS32 (Q' := (fun v h L => v = some (.ref x) ∧ h = T32.heap ∧ Fr n0 L)) ?_ (by rintro v vm h L hW ⟨rfl, rfl, hL⟩; exact ⟨Nat.le_refl _, x, rfl, hL, kp32, Or.inr ⟨la, lb, lk, OLitAt.warm hW F1⟩, G1, G3, lb, lk, 0, [], G2, F1.2.2.2.2, StrChars.Road.codOf (n := 0) rfl (by simp)⟩)
  show OFin p e below (s.setVm T32.vm) _ _ _ (T32.setTop (mkF m 14 #[.val (.int n), .val (.int c0), .val (.int c1), .val (.int c2)] [(.ref x)]))
  exact own_ret X32 hx (t := (.object "java/lang/String")) hret hlk rfl (Or.inr (Or.inr (Or.inr (Or.inr ⟨rfl, rfl, rfl⟩)))) (hb hby own_d1_14) (by decide) (by decide) ⟨rfl, rfl, fr32⟩
set_option maxRecDepth 65536 in
set_option maxHeartbeats 40000000 in
theorem rmTx (l : Launch) (Z : State) (a0 : Array Value) (hw : ∀ d ∈ tables_1, d.before a0 Z = true) (n : Int32) (c0 : Int32) (c1 : Int32) (c2 : Int32) (h0 : Heap) (n0 : Nat) (Z0 : n0 ≤ h0.size) (z : Int32) (hn : ¬ n = 0) (r0 : 0 ≤ c0.toInt ∧ c0.toInt ≤ 255) (r1 : 0 ≤ c1.toInt ∧ c1.toInt ≤ 255) (r2 : 0 ≤ c2.toInt ∧ c2.toInt ≤ 255) (S_c : Sta Z Z.heap "java/lang/String" "COMPACT_STRINGS" "Z" (.int z)) (hz : ¬ z = 0) (O : Old Z n0 h0) :
    OMet l Z (⟨"com/example/wyrd/wyrd/hoa/TokenIsPinLaw", "text", "(ICCC)Ljava/lang/String;"⟩ : MethodName) method_3_code 4 (some (.object "java/lang/String")) (⟨4, 3, 10, 66⟩ : Room) #[(.int n), (.int c0), (.int c1), (.int c2)] h0 (fun v h L => ∃ x, v = some (.ref x) ∧ Fr n0 L ∧ Keep h0 h [] ∧ OStr Z h x (own_cs n c0 c1 c2)) := by
  refine own_enter own_pn1 ?_
  intro p e s m below meth c T0 X0 hC e0
  obtain ⟨hx, hZ, hby, hml, hown, hret, hlk, hnm⟩ := hC
  have hown : s.vm.findClass "com/example/wyrd/wyrd/hoa/TokenIsPinLaw" = some m.cls := hown
  refine own_at (own_ef1_IIII m n c0 c1 c2) ?_
  show OFin p e below s _ _ _ (T0.setTop (mkF m 0 #[.val (.int n), .val (.int c0), .val (.int c1), .val (.int c2)] []))
  have N0 := Fr.nil n0
  have kp0 := Keep.refl h0 []
  refine own_st (fun _ kS => XS.iloadN X0.here hx rfl (hb hby own_d1_0) rfl kS) ?_
  show OFin p e below s _ _ _ (T0.setTop (mkF m 1 #[.val (.int n), .val (.int c0), .val (.int c1), .val (.int c2)] [(.int n)]))
  refine own_st (fun _ kS => XS.ifYes X0.here hx rfl (pc0 := 1) (pc' := 15) rfl (hb hby own_d1_1) rfl ((if0 _ _).trans (feq hn).2) (by decide) (by decide) kS) ?_
  show OFin p e below s _ _ _ (T0.setTop (mkF m 15 #[.val (.int n), .val (.int c0), .val (.int c1), .val (.int c2)] []))
  refine own_st (fun _ kS => XS.iloadN X0.here hx rfl (hb hby own_d1_15) rfl kS) ?_
  show OFin p e below s _ _ _ (T0.setTop (mkF m 16 #[.val (.int n), .val (.int c0), .val (.int c1), .val (.int c2)] [(.int n)]))
  refine own_st (fun _ kS => XS.iconst X0.here hx rfl (hb hby own_d1_16) kS) ?_
  show OFin p e below s _ _ _ (T0.setTop (mkF m 17 #[.val (.int n), .val (.int c0), .val (.int c1), .val (.int c2)] [(.int (1 : Int32)), (.int n)]))
  by_cases e1 : n = (1 : Int32)
  · refine own_st (fun _ kS => XS.icmpNo X0.here hx rfl (hb hby own_d1_17) rfl (teq e1).2 kS) ?_
    show OFin p e below s _ _ _ (T0.setTop (mkF m 20 #[.val (.int n), .val (.int c0), .val (.int c1), .val (.int c2)] []))
    obtain ⟨T33, h33, X33, e33, E33, A33, D33, -, st33⟩ := newO X0 hx hZ hown (own_w hw 4 rfl) (own_w hw 5 rfl) (own_w hw 6 rfl) e0 (g := (mkF m 20 #[.val (.int n), .val (.int c0), .val (.int c1), .val (.int c2)] [])) rfl (hb hby own_d1_20) (by decide) (by decide)
    obtain ⟨sx, g33⟩ : ∃ z, z = h0.size := ⟨_, rfl⟩
    rw [← g33] at A33 D33 st33
    have g_sx : n0 ≤ sx := Nat.le_trans Z0 (Nat.le_of_eq g33.symm)
    have od33 := O.ext E33
    have f34 : Fld Z h33 sx "java/lang/String" "coder" "B" (.int (0 : Int32)) := D33 (Or.inr (own_w hw 31 rfl)) (ty := .byte) (by decide)
    have f35 : Fld Z h33 sx "java/lang/String" "value" "[B" .null := D33 (Or.inr (own_w hw 33 rfl)) (ty := (.array .byte)) (by decide)
    have sz33 : n0 ≤ h33.size := Nat.le_trans Z0 E33.1
    have kp33 := kp0.ext E33
    have kz_sx := Nat.le_trans kp0.1 (Nat.le_of_eq g33.symm)
    clear kp0
    refine own_st (st33) ?_
    clear st33 X0 e0 E33 D33 g33
    show OFin p e below s _ _ _ (T33.setTop (mkF m 23 #[.val (.int n), .val (.int c0), .val (.int c1), .val (.int c2)] [(.ref sx)]))
    refine own_st (fun _ kS => XS.dup X33.here hx rfl (hb hby own_d1_23) rfl rfl kS) ?_
    show OFin p e below s _ _ _ (T33.setTop (mkF m 24 #[.val (.int n), .val (.int c0), .val (.int c1), .val (.int c2)] [(.ref sx), (.ref sx)]))
    refine own_st (fun _ kS => XS.iconst X33.here hx rfl (hb hby own_d1_24) kS) ?_
    show OFin p e below s _ _ _ (T33.setTop (mkF m 25 #[.val (.int n), .val (.int c0), .val (.int c1), .val (.int c2)] [(.int (1 : Int32)), (.ref sx), (.ref sx)]))
    obtain ⟨T36, h36, k36, X36, e36, E36, A36, st36⟩ := newP X33 hx hZ (own_w hw 7 rfl) e33 (g := (mkF m 25 #[.val (.int n), .val (.int c0), .val (.int c1), .val (.int c2)] [(.int (1 : Int32)), (.ref sx), (.ref sx)])) rfl (hb hby own_d1_25) rfl (by decide) (cap := 1) (by decide) (by decide) (by decide) (by decide)
    obtain ⟨cc, g36⟩ : ∃ z, z = h33.size := ⟨_, rfl⟩
    rw [← g36] at A36 st36
    have ne_sx_cc : sx ≠ cc := Nat.ne_of_lt (Nat.lt_of_lt_of_le A33.lt (Nat.le_of_eq g36.symm))
    have g_cc : n0 ≤ cc := Nat.le_trans sz33 (Nat.le_of_eq g36.symm)
    have od36 := od33.ext E36
    clear od33
    have f37 := A33.ext E36
    have f38 := f34.ext E36
    clear f34
    have f39 := f35.ext E36
    clear f35
    have f40 : Arv Z h36 cc k36 .char (1 : Int32) [(.int (0 : Int32))] (.int (0 : Int32)) := (Arv.new A36 (by decide)).pad (pad_rep [] (.int (0 : Int32)) 1)
    have sz36 : n0 ≤ h36.size := Nat.le_trans sz33 E36.1
    clear sz33
    have kp36 := kp33.ext E36
    have kz_cc := Nat.le_trans kp33.1 (Nat.le_of_eq g36.symm)
    clear kp33
    refine own_st (st36) ?_
    clear st36 X33 e33 E36 g36
    show OFin p e below s _ _ _ (T36.setTop (mkF m 27 #[.val (.int n), .val (.int c0), .val (.int c1), .val (.int c2)] [(.ref cc), (.ref sx), (.ref sx)]))
    refine own_st (fun _ kS => XS.dup X36.here hx rfl (hb hby own_d1_27) rfl rfl kS) ?_
    show OFin p e below s _ _ _ (T36.setTop (mkF m 28 #[.val (.int n), .val (.int c0), .val (.int c1), .val (.int c2)] [(.ref cc), (.ref cc), (.ref sx), (.ref sx)]))
    refine own_st (fun _ kS => XS.iconst X36.here hx rfl (hb hby own_d1_28) kS) ?_
    show OFin p e below s _ _ _ (T36.setTop (mkF m 29 #[.val (.int n), .val (.int c0), .val (.int c1), .val (.int c2)] [(.int (0 : Int32)), (.ref cc), (.ref cc), (.ref sx), (.ref sx)]))
    refine own_st (fun _ kS => XS.iloadN X36.here hx rfl (hb hby own_d1_29) rfl kS) ?_
    show OFin p e below s _ _ _ (T36.setTop (mkF m 30 #[.val (.int n), .val (.int c0), .val (.int c1), .val (.int c2)] [(.int c0), (.int (0 : Int32)), (.ref cc), (.ref cc), (.ref sx), (.ref sx)]))
    obtain ⟨cl41, Ar41, q41, S41, N41, H41, G41⟩ := id f40
    have hin41 : ¬ ((0 : Int32) < 0 ∨ cl41.slots.size ≤ ((0 : Int32)).toNatClampNeg) := inb_of S41 ⟨by decide, by decide⟩
    obtain ⟨T41, h41, X41, e41, W41, st41⟩ := stC X36 hx hZ e36 Ar41 (j := (0 : Int32)) hin41 (g := (mkF m 30 #[.val (.int n), .val (.int c0), .val (.int c1), .val (.int c2)] [(.int c0), (.int (0 : Int32)), (.ref cc), (.ref cc), (.ref sx), (.ref sx)])) rfl rfl (hb hby own_d1_30)
    have f42 := Arv.set Ar41 q41 S41 N41 H41 G41 (fits_nar_char _) W41 0 rfl (Nat.le_of_ble_eq_true rfl)
    have od41 := od36.wr W41 g_cc
    clear od36
    have f43 := f37.wr W41
    clear f37
    have f44 := f38.other W41 (Or.inl ne_sx_cc)
    clear f38
    have f45 := f39.other W41 (Or.inl ne_sx_cc)
    clear f39
    have sz41 : n0 ≤ h41.size := by rw [W41.size]; exact sz36
    clear sz36
    have fr41 := Fr.snoc X41 N0 g_cc
    clear N0
    have kp41 := kp36.wr W41 (Or.inr kz_cc)
    clear kp36
    refine own_st (st41) ?_
    clear st41 X36 e36 W41 Ar41 q41 S41 N41 H41 G41 hin41 f40
    show OFin p e below s _ _ _ (T41.setTop (mkF m 31 #[.val (.int n), .val (.int c0), .val (.int c1), .val (.int c2)] [(.ref cc), (.ref sx), (.ref sx)]))
    have hws : ∀ d ∈ StrChars.Road.words, d.before a0 Z = true := fun d hd => hw d ((by decide +kernel : ∀ d ∈ StrChars.Road.words, d ∈ tables_1) d hd)
    have hcs : own_cs n c0 c1 c2 = ([nar .char c0] : List Int32) := by simp [own_cs, hn, e1, own_ncE r0]
    have hp : ∀ c ∈ ([nar .char c0] : List Int32), ¬ c < 0 ∧ ¬ (255 : Int32) < c := by rw [← hcs]; exact own_csr r0 r1 r2
    obtain ⟨v47, T47, L47, X47, hQ47, st47⟩ := own_initB (StrChars.Road.QV Z sx (1 : Int32) (([nar .char c0] : List Int32).map (fun c => c.toInt8.toInt32)) h41 n0) 1 1 X41 hx hZ (y := (⟨"java/lang/String", "<init>", "([C)V"⟩ : MethodName)) (W := 1) (a := sx) (argsL := [(.ref cc)]) (rest := [(.ref sx)]) rfl hown (own_w hw 8 rfl) (own_w hw 9 rfl) (own_w hw 10 rfl) (StrChars.Road.backV (R := (⟨4, 3, 10, 66⟩ : Room)) (W := 1) hZ hws (kI := 4) (own_w hw 5 rfl) (cs := [nar .char c0]) (bs := ([nar .char c0] : List Int32).map (fun c => c.toInt8.toInt32)) (n := 1) (n0 := n0) g_sx sz41 f43 f45 f44 f42 (Sta.ext od41.2 S_c) hz rfl rfl (by decide) (by decide) hp rfl (by decide) (by decide)) e41 (g := (mkF m 31 #[.val (.int n), .val (.int c0), .val (.int c1), .val (.int c2)] [(.ref cc), (.ref sx), (.ref sx)])) rfl (by rw [hml]; rfl) (lenOf own_pd1 rfl) rfl (by show 2 * 0 + _ ≤ _; exact Nat.le_of_eq rfl) (hb hby own_d1_31) (by decide) (by decide)
    obtain ⟨rfl, N47, K47, EE, FC, t, kb, gt, gt2, gt3, FV, VT⟩ := hQ47
    have fr47 := Fr.app fr41 N47
    have kp47 := kp41.trans K47 (allS (Or.inr kz_sx) all0)
    have od47 := od41.keep K47 (allS g_sx all0)
    clear od41
    have sz47 : n0 ≤ T47.heap.size := Nat.le_trans sz41 K47.1
    clear sz41
    refine own_st (st47) ?_
    clear st47 X41 e41
    show OFin p e below s _ _ _ (T47.setTop (mkF m 34 #[.val (.int n), .val (.int c0), .val (.int c1), .val (.int c2)] [(.ref sx)]))
    exact own_ret X47 hx (t := (.object "java/lang/String")) hret hlk rfl (Or.inr (Or.inr (Or.inr (Or.inr ⟨rfl, rfl, rfl⟩)))) (hb hby own_d1_34) (by decide) (by decide) ⟨sx, rfl, fr47, kp47, by rw [hcs]; exact ⟨EE, FC, t, kb, _, _, FV, VT, StrChars.Road.codOf (cs := [nar .char c0]) (n := 1) rfl (fun c hc => (hp c hc).2)⟩⟩
  · refine own_st (fun _ kS => XS.icmpYes X0.here hx rfl (pc0 := 17) (pc' := 35) rfl (hb hby own_d1_17) rfl (feq e1).2 (by decide) (by decide) kS) ?_
    show OFin p e below s _ _ _ (T0.setTop (mkF m 35 #[.val (.int n), .val (.int c0), .val (.int c1), .val (.int c2)] []))
    refine own_st (fun _ kS => XS.iloadN X0.here hx rfl (hb hby own_d1_35) rfl kS) ?_
    show OFin p e below s _ _ _ (T0.setTop (mkF m 36 #[.val (.int n), .val (.int c0), .val (.int c1), .val (.int c2)] [(.int n)]))
    refine own_st (fun _ kS => XS.iconst X0.here hx rfl (hb hby own_d1_36) kS) ?_
    show OFin p e below s _ _ _ (T0.setTop (mkF m 37 #[.val (.int n), .val (.int c0), .val (.int c1), .val (.int c2)] [(.int (2 : Int32)), (.int n)]))
    by_cases e2 : n = (2 : Int32)
    · refine own_st (fun _ kS => XS.icmpNo X0.here hx rfl (hb hby own_d1_37) rfl (teq e2).2 kS) ?_
      show OFin p e below s _ _ _ (T0.setTop (mkF m 40 #[.val (.int n), .val (.int c0), .val (.int c1), .val (.int c2)] []))
      obtain ⟨T48, h48, X48, e48, E48, A48, D48, -, st48⟩ := newO X0 hx hZ hown (own_w hw 4 rfl) (own_w hw 5 rfl) (own_w hw 6 rfl) e0 (g := (mkF m 40 #[.val (.int n), .val (.int c0), .val (.int c1), .val (.int c2)] [])) rfl (hb hby own_d1_40) (by decide) (by decide)
      obtain ⟨sx, g48⟩ : ∃ z, z = h0.size := ⟨_, rfl⟩
      rw [← g48] at A48 D48 st48
      have g_sx : n0 ≤ sx := Nat.le_trans Z0 (Nat.le_of_eq g48.symm)
      have od48 := O.ext E48
      have f49 : Fld Z h48 sx "java/lang/String" "coder" "B" (.int (0 : Int32)) := D48 (Or.inr (own_w hw 31 rfl)) (ty := .byte) (by decide)
      have f50 : Fld Z h48 sx "java/lang/String" "value" "[B" .null := D48 (Or.inr (own_w hw 33 rfl)) (ty := (.array .byte)) (by decide)
      have sz48 : n0 ≤ h48.size := Nat.le_trans Z0 E48.1
      have kp48 := kp0.ext E48
      have kz_sx := Nat.le_trans kp0.1 (Nat.le_of_eq g48.symm)
      clear kp0
      refine own_st (st48) ?_
      clear st48 X0 e0 E48 D48 g48
      show OFin p e below s _ _ _ (T48.setTop (mkF m 43 #[.val (.int n), .val (.int c0), .val (.int c1), .val (.int c2)] [(.ref sx)]))
      refine own_st (fun _ kS => XS.dup X48.here hx rfl (hb hby own_d1_43) rfl rfl kS) ?_
      show OFin p e below s _ _ _ (T48.setTop (mkF m 44 #[.val (.int n), .val (.int c0), .val (.int c1), .val (.int c2)] [(.ref sx), (.ref sx)]))
      refine own_st (fun _ kS => XS.iconst X48.here hx rfl (hb hby own_d1_44) kS) ?_
      show OFin p e below s _ _ _ (T48.setTop (mkF m 45 #[.val (.int n), .val (.int c0), .val (.int c1), .val (.int c2)] [(.int (2 : Int32)), (.ref sx), (.ref sx)]))
      obtain ⟨T51, h51, k51, X51, e51, E51, A51, st51⟩ := newP X48 hx hZ (own_w hw 7 rfl) e48 (g := (mkF m 45 #[.val (.int n), .val (.int c0), .val (.int c1), .val (.int c2)] [(.int (2 : Int32)), (.ref sx), (.ref sx)])) rfl (hb hby own_d1_45) rfl (by decide) (cap := 2) (by decide) (by decide) (by decide) (by decide)
      obtain ⟨cc, g51⟩ : ∃ z, z = h48.size := ⟨_, rfl⟩
      rw [← g51] at A51 st51
      have ne_sx_cc : sx ≠ cc := Nat.ne_of_lt (Nat.lt_of_lt_of_le A48.lt (Nat.le_of_eq g51.symm))
      have g_cc : n0 ≤ cc := Nat.le_trans sz48 (Nat.le_of_eq g51.symm)
      have od51 := od48.ext E51
      clear od48
      have f52 := A48.ext E51
      have f53 := f49.ext E51
      clear f49
      have f54 := f50.ext E51
      clear f50
      have f55 : Arv Z h51 cc k51 .char (2 : Int32) [(.int (0 : Int32)), (.int (0 : Int32))] (.int (0 : Int32)) := (Arv.new A51 (by decide)).pad (pad_rep [] (.int (0 : Int32)) 2)
      have sz51 : n0 ≤ h51.size := Nat.le_trans sz48 E51.1
      clear sz48
      have kp51 := kp48.ext E51
      have kz_cc := Nat.le_trans kp48.1 (Nat.le_of_eq g51.symm)
      clear kp48
      refine own_st (st51) ?_
      clear st51 X48 e48 E51 g51
      show OFin p e below s _ _ _ (T51.setTop (mkF m 47 #[.val (.int n), .val (.int c0), .val (.int c1), .val (.int c2)] [(.ref cc), (.ref sx), (.ref sx)]))
      refine own_st (fun _ kS => XS.dup X51.here hx rfl (hb hby own_d1_47) rfl rfl kS) ?_
      show OFin p e below s _ _ _ (T51.setTop (mkF m 48 #[.val (.int n), .val (.int c0), .val (.int c1), .val (.int c2)] [(.ref cc), (.ref cc), (.ref sx), (.ref sx)]))
      refine own_st (fun _ kS => XS.iconst X51.here hx rfl (hb hby own_d1_48) kS) ?_
      show OFin p e below s _ _ _ (T51.setTop (mkF m 49 #[.val (.int n), .val (.int c0), .val (.int c1), .val (.int c2)] [(.int (0 : Int32)), (.ref cc), (.ref cc), (.ref sx), (.ref sx)]))
      refine own_st (fun _ kS => XS.iloadN X51.here hx rfl (hb hby own_d1_49) rfl kS) ?_
      show OFin p e below s _ _ _ (T51.setTop (mkF m 50 #[.val (.int n), .val (.int c0), .val (.int c1), .val (.int c2)] [(.int c0), (.int (0 : Int32)), (.ref cc), (.ref cc), (.ref sx), (.ref sx)]))
      obtain ⟨cl56, Ar56, q56, S56, N56, H56, G56⟩ := id f55
      have hin56 : ¬ ((0 : Int32) < 0 ∨ cl56.slots.size ≤ ((0 : Int32)).toNatClampNeg) := inb_of S56 ⟨by decide, by decide⟩
      obtain ⟨T56, h56, X56, e56, W56, st56⟩ := stC X51 hx hZ e51 Ar56 (j := (0 : Int32)) hin56 (g := (mkF m 50 #[.val (.int n), .val (.int c0), .val (.int c1), .val (.int c2)] [(.int c0), (.int (0 : Int32)), (.ref cc), (.ref cc), (.ref sx), (.ref sx)])) rfl rfl (hb hby own_d1_50)
      have f57 := Arv.set Ar56 q56 S56 N56 H56 G56 (fits_nar_char _) W56 0 rfl (Nat.le_of_ble_eq_true rfl)
      have od56 := od51.wr W56 g_cc
      clear od51
      have f58 := f52.wr W56
      clear f52
      have f59 := f53.other W56 (Or.inl ne_sx_cc)
      clear f53
      have f60 := f54.other W56 (Or.inl ne_sx_cc)
      clear f54
      have sz56 : n0 ≤ h56.size := by rw [W56.size]; exact sz51
      clear sz51
      have fr56 := Fr.snoc X56 N0 g_cc
      clear N0
      have kp56 := kp51.wr W56 (Or.inr kz_cc)
      clear kp51
      refine own_st (st56) ?_
      clear st56 X51 e51 W56 Ar56 q56 S56 N56 H56 G56 hin56 f55
      show OFin p e below s _ _ _ (T56.setTop (mkF m 51 #[.val (.int n), .val (.int c0), .val (.int c1), .val (.int c2)] [(.ref cc), (.ref sx), (.ref sx)]))
      refine own_st (fun _ kS => XS.dup X56.here hx rfl (hb hby own_d1_51) rfl rfl kS) ?_
      show OFin p e below s _ _ _ (T56.setTop (mkF m 52 #[.val (.int n), .val (.int c0), .val (.int c1), .val (.int c2)] [(.ref cc), (.ref cc), (.ref sx), (.ref sx)]))
      refine own_st (fun _ kS => XS.iconst X56.here hx rfl (hb hby own_d1_52) kS) ?_
      show OFin p e below s _ _ _ (T56.setTop (mkF m 53 #[.val (.int n), .val (.int c0), .val (.int c1), .val (.int c2)] [(.int (1 : Int32)), (.ref cc), (.ref cc), (.ref sx), (.ref sx)]))
      refine own_st (fun _ kS => XS.iloadN X56.here hx rfl (hb hby own_d1_53) rfl kS) ?_
      show OFin p e below s _ _ _ (T56.setTop (mkF m 54 #[.val (.int n), .val (.int c0), .val (.int c1), .val (.int c2)] [(.int c1), (.int (1 : Int32)), (.ref cc), (.ref cc), (.ref sx), (.ref sx)]))
      obtain ⟨cl62, Ar62, q62, S62, N62, H62, G62⟩ := id f57
      have hin62 : ¬ ((1 : Int32) < 0 ∨ cl62.slots.size ≤ ((1 : Int32)).toNatClampNeg) := inb_of S62 ⟨by decide, by decide⟩
      obtain ⟨T62, h62, X62, e62, W62, st62⟩ := stC X56 hx hZ e56 Ar62 (j := (1 : Int32)) hin62 (g := (mkF m 54 #[.val (.int n), .val (.int c0), .val (.int c1), .val (.int c2)] [(.int c1), (.int (1 : Int32)), (.ref cc), (.ref cc), (.ref sx), (.ref sx)])) rfl rfl (hb hby own_d1_54)
      have f63 := Arv.set Ar62 q62 S62 N62 H62 G62 (fits_nar_char _) W62 1 rfl (Nat.le_of_ble_eq_true rfl)
      have od62 := od56.wr W62 g_cc
      clear od56
      have f64 := f58.wr W62
      clear f58
      have f65 := f59.other W62 (Or.inl ne_sx_cc)
      clear f59
      have f66 := f60.other W62 (Or.inl ne_sx_cc)
      clear f60
      have sz62 : n0 ≤ h62.size := by rw [W62.size]; exact sz56
      clear sz56
      have fr62 := Fr.snoc X62 fr56 g_cc
      clear fr56
      have kp62 := kp56.wr W62 (Or.inr kz_cc)
      clear kp56
      refine own_st (st62) ?_
      clear st62 X56 e56 W62 Ar62 q62 S62 N62 H62 G62 hin62 f57
      show OFin p e below s _ _ _ (T62.setTop (mkF m 55 #[.val (.int n), .val (.int c0), .val (.int c1), .val (.int c2)] [(.ref cc), (.ref sx), (.ref sx)]))
      have hws : ∀ d ∈ StrChars.Road.words, d.before a0 Z = true := fun d hd => hw d ((by decide +kernel : ∀ d ∈ StrChars.Road.words, d ∈ tables_1) d hd)
      have hcs : own_cs n c0 c1 c2 = ([nar .char c0, nar .char c1] : List Int32) := by simp [own_cs, hn, e1, e2, own_ncE r0, own_ncE r1]
      have hp : ∀ c ∈ ([nar .char c0, nar .char c1] : List Int32), ¬ c < 0 ∧ ¬ (255 : Int32) < c := by rw [← hcs]; exact own_csr r0 r1 r2
      obtain ⟨v68, T68, L68, X68, hQ68, st68⟩ := own_initB (StrChars.Road.QV Z sx (2 : Int32) (([nar .char c0, nar .char c1] : List Int32).map (fun c => c.toInt8.toInt32)) h62 n0) 1 2 X62 hx hZ (y := (⟨"java/lang/String", "<init>", "([C)V"⟩ : MethodName)) (W := 1) (a := sx) (argsL := [(.ref cc)]) (rest := [(.ref sx)]) rfl hown (own_w hw 8 rfl) (own_w hw 9 rfl) (own_w hw 10 rfl) (StrChars.Road.backV (R := (⟨4, 3, 10, 66⟩ : Room)) (W := 1) hZ hws (kI := 4) (own_w hw 5 rfl) (cs := [nar .char c0, nar .char c1]) (bs := ([nar .char c0, nar .char c1] : List Int32).map (fun c => c.toInt8.toInt32)) (n := 2) (n0 := n0) g_sx sz62 f64 f66 f65 f63 (Sta.ext od62.2 S_c) hz rfl rfl (by decide) (by decide) hp rfl (by decide) (by decide)) e62 (g := (mkF m 55 #[.val (.int n), .val (.int c0), .val (.int c1), .val (.int c2)] [(.ref cc), (.ref sx), (.ref sx)])) rfl (by rw [hml]; rfl) (lenOf own_pd1 rfl) rfl (by show 2 * 0 + _ ≤ _; exact Nat.le_of_eq rfl) (hb hby own_d1_55) (by decide) (by decide)
      obtain ⟨rfl, N68, K68, EE, FC, t, kb, gt, gt2, gt3, FV, VT⟩ := hQ68
      have fr68 := Fr.app fr62 N68
      have kp68 := kp62.trans K68 (allS (Or.inr kz_sx) all0)
      have od68 := od62.keep K68 (allS g_sx all0)
      clear od62
      have sz68 : n0 ≤ T68.heap.size := Nat.le_trans sz62 K68.1
      clear sz62
      refine own_st (st68) ?_
      clear st68 X62 e62
      show OFin p e below s _ _ _ (T68.setTop (mkF m 58 #[.val (.int n), .val (.int c0), .val (.int c1), .val (.int c2)] [(.ref sx)]))
      exact own_ret X68 hx (t := (.object "java/lang/String")) hret hlk rfl (Or.inr (Or.inr (Or.inr (Or.inr ⟨rfl, rfl, rfl⟩)))) (hb hby own_d1_58) (by decide) (by decide) ⟨sx, rfl, fr68, kp68, by rw [hcs]; exact ⟨EE, FC, t, kb, _, _, FV, VT, StrChars.Road.codOf (cs := [nar .char c0, nar .char c1]) (n := 2) rfl (fun c hc => (hp c hc).2)⟩⟩
    · refine own_st (fun _ kS => XS.icmpYes X0.here hx rfl (pc0 := 37) (pc' := 59) rfl (hb hby own_d1_37) rfl (feq e2).2 (by decide) (by decide) kS) ?_
      show OFin p e below s _ _ _ (T0.setTop (mkF m 59 #[.val (.int n), .val (.int c0), .val (.int c1), .val (.int c2)] []))
      obtain ⟨T69, h69, X69, e69, E69, A69, D69, -, st69⟩ := newO X0 hx hZ hown (own_w hw 4 rfl) (own_w hw 5 rfl) (own_w hw 6 rfl) e0 (g := (mkF m 59 #[.val (.int n), .val (.int c0), .val (.int c1), .val (.int c2)] [])) rfl (hb hby own_d1_59) (by decide) (by decide)
      obtain ⟨sx, g69⟩ : ∃ z, z = h0.size := ⟨_, rfl⟩
      rw [← g69] at A69 D69 st69
      have g_sx : n0 ≤ sx := Nat.le_trans Z0 (Nat.le_of_eq g69.symm)
      have od69 := O.ext E69
      have f70 : Fld Z h69 sx "java/lang/String" "coder" "B" (.int (0 : Int32)) := D69 (Or.inr (own_w hw 31 rfl)) (ty := .byte) (by decide)
      have f71 : Fld Z h69 sx "java/lang/String" "value" "[B" .null := D69 (Or.inr (own_w hw 33 rfl)) (ty := (.array .byte)) (by decide)
      have sz69 : n0 ≤ h69.size := Nat.le_trans Z0 E69.1
      have kp69 := kp0.ext E69
      have kz_sx := Nat.le_trans kp0.1 (Nat.le_of_eq g69.symm)
      clear kp0
      refine own_st (st69) ?_
      clear st69 X0 e0 E69 D69 g69
      show OFin p e below s _ _ _ (T69.setTop (mkF m 62 #[.val (.int n), .val (.int c0), .val (.int c1), .val (.int c2)] [(.ref sx)]))
      refine own_st (fun _ kS => XS.dup X69.here hx rfl (hb hby own_d1_62) rfl rfl kS) ?_
      show OFin p e below s _ _ _ (T69.setTop (mkF m 63 #[.val (.int n), .val (.int c0), .val (.int c1), .val (.int c2)] [(.ref sx), (.ref sx)]))
      refine own_st (fun _ kS => XS.iconst X69.here hx rfl (hb hby own_d1_63) kS) ?_
      show OFin p e below s _ _ _ (T69.setTop (mkF m 64 #[.val (.int n), .val (.int c0), .val (.int c1), .val (.int c2)] [(.int (3 : Int32)), (.ref sx), (.ref sx)]))
      obtain ⟨T72, h72, k72, X72, e72, E72, A72, st72⟩ := newP X69 hx hZ (own_w hw 7 rfl) e69 (g := (mkF m 64 #[.val (.int n), .val (.int c0), .val (.int c1), .val (.int c2)] [(.int (3 : Int32)), (.ref sx), (.ref sx)])) rfl (hb hby own_d1_64) rfl (by decide) (cap := 3) (by decide) (by decide) (by decide) (by decide)
      obtain ⟨cc, g72⟩ : ∃ z, z = h69.size := ⟨_, rfl⟩
      rw [← g72] at A72 st72
      have ne_sx_cc : sx ≠ cc := Nat.ne_of_lt (Nat.lt_of_lt_of_le A69.lt (Nat.le_of_eq g72.symm))
      have g_cc : n0 ≤ cc := Nat.le_trans sz69 (Nat.le_of_eq g72.symm)
      have od72 := od69.ext E72
      clear od69
      have f73 := A69.ext E72
      have f74 := f70.ext E72
      clear f70
      have f75 := f71.ext E72
      clear f71
      have f76 : Arv Z h72 cc k72 .char (3 : Int32) [(.int (0 : Int32)), (.int (0 : Int32)), (.int (0 : Int32))] (.int (0 : Int32)) := (Arv.new A72 (by decide)).pad (pad_rep [] (.int (0 : Int32)) 3)
      have sz72 : n0 ≤ h72.size := Nat.le_trans sz69 E72.1
      clear sz69
      have kp72 := kp69.ext E72
      have kz_cc := Nat.le_trans kp69.1 (Nat.le_of_eq g72.symm)
      clear kp69
      refine own_st (st72) ?_
      clear st72 X69 e69 E72 g72
      show OFin p e below s _ _ _ (T72.setTop (mkF m 66 #[.val (.int n), .val (.int c0), .val (.int c1), .val (.int c2)] [(.ref cc), (.ref sx), (.ref sx)]))
      refine own_st (fun _ kS => XS.dup X72.here hx rfl (hb hby own_d1_66) rfl rfl kS) ?_
      show OFin p e below s _ _ _ (T72.setTop (mkF m 67 #[.val (.int n), .val (.int c0), .val (.int c1), .val (.int c2)] [(.ref cc), (.ref cc), (.ref sx), (.ref sx)]))
      refine own_st (fun _ kS => XS.iconst X72.here hx rfl (hb hby own_d1_67) kS) ?_
      show OFin p e below s _ _ _ (T72.setTop (mkF m 68 #[.val (.int n), .val (.int c0), .val (.int c1), .val (.int c2)] [(.int (0 : Int32)), (.ref cc), (.ref cc), (.ref sx), (.ref sx)]))
      refine own_st (fun _ kS => XS.iloadN X72.here hx rfl (hb hby own_d1_68) rfl kS) ?_
      show OFin p e below s _ _ _ (T72.setTop (mkF m 69 #[.val (.int n), .val (.int c0), .val (.int c1), .val (.int c2)] [(.int c0), (.int (0 : Int32)), (.ref cc), (.ref cc), (.ref sx), (.ref sx)]))
      obtain ⟨cl77, Ar77, q77, S77, N77, H77, G77⟩ := id f76
      have hin77 : ¬ ((0 : Int32) < 0 ∨ cl77.slots.size ≤ ((0 : Int32)).toNatClampNeg) := inb_of S77 ⟨by decide, by decide⟩
      obtain ⟨T77, h77, X77, e77, W77, st77⟩ := stC X72 hx hZ e72 Ar77 (j := (0 : Int32)) hin77 (g := (mkF m 69 #[.val (.int n), .val (.int c0), .val (.int c1), .val (.int c2)] [(.int c0), (.int (0 : Int32)), (.ref cc), (.ref cc), (.ref sx), (.ref sx)])) rfl rfl (hb hby own_d1_69)
      have f78 := Arv.set Ar77 q77 S77 N77 H77 G77 (fits_nar_char _) W77 0 rfl (Nat.le_of_ble_eq_true rfl)
      have od77 := od72.wr W77 g_cc
      clear od72
      have f79 := f73.wr W77
      clear f73
      have f80 := f74.other W77 (Or.inl ne_sx_cc)
      clear f74
      have f81 := f75.other W77 (Or.inl ne_sx_cc)
      clear f75
      have sz77 : n0 ≤ h77.size := by rw [W77.size]; exact sz72
      clear sz72
      have fr77 := Fr.snoc X77 N0 g_cc
      clear N0
      have kp77 := kp72.wr W77 (Or.inr kz_cc)
      clear kp72
      refine own_st (st77) ?_
      clear st77 X72 e72 W77 Ar77 q77 S77 N77 H77 G77 hin77 f76
      show OFin p e below s _ _ _ (T77.setTop (mkF m 70 #[.val (.int n), .val (.int c0), .val (.int c1), .val (.int c2)] [(.ref cc), (.ref sx), (.ref sx)]))
      refine own_st (fun _ kS => XS.dup X77.here hx rfl (hb hby own_d1_70) rfl rfl kS) ?_
      show OFin p e below s _ _ _ (T77.setTop (mkF m 71 #[.val (.int n), .val (.int c0), .val (.int c1), .val (.int c2)] [(.ref cc), (.ref cc), (.ref sx), (.ref sx)]))
      refine own_st (fun _ kS => XS.iconst X77.here hx rfl (hb hby own_d1_71) kS) ?_
      show OFin p e below s _ _ _ (T77.setTop (mkF m 72 #[.val (.int n), .val (.int c0), .val (.int c1), .val (.int c2)] [(.int (1 : Int32)), (.ref cc), (.ref cc), (.ref sx), (.ref sx)]))
      refine own_st (fun _ kS => XS.iloadN X77.here hx rfl (hb hby own_d1_72) rfl kS) ?_
      show OFin p e below s _ _ _ (T77.setTop (mkF m 73 #[.val (.int n), .val (.int c0), .val (.int c1), .val (.int c2)] [(.int c1), (.int (1 : Int32)), (.ref cc), (.ref cc), (.ref sx), (.ref sx)]))
      obtain ⟨cl83, Ar83, q83, S83, N83, H83, G83⟩ := id f78
      have hin83 : ¬ ((1 : Int32) < 0 ∨ cl83.slots.size ≤ ((1 : Int32)).toNatClampNeg) := inb_of S83 ⟨by decide, by decide⟩
      obtain ⟨T83, h83, X83, e83, W83, st83⟩ := stC X77 hx hZ e77 Ar83 (j := (1 : Int32)) hin83 (g := (mkF m 73 #[.val (.int n), .val (.int c0), .val (.int c1), .val (.int c2)] [(.int c1), (.int (1 : Int32)), (.ref cc), (.ref cc), (.ref sx), (.ref sx)])) rfl rfl (hb hby own_d1_73)
      have f84 := Arv.set Ar83 q83 S83 N83 H83 G83 (fits_nar_char _) W83 1 rfl (Nat.le_of_ble_eq_true rfl)
      have od83 := od77.wr W83 g_cc
      clear od77
      have f85 := f79.wr W83
      clear f79
      have f86 := f80.other W83 (Or.inl ne_sx_cc)
      clear f80
      have f87 := f81.other W83 (Or.inl ne_sx_cc)
      clear f81
      have sz83 : n0 ≤ h83.size := by rw [W83.size]; exact sz77
      clear sz77
      have fr83 := Fr.snoc X83 fr77 g_cc
      clear fr77
      have kp83 := kp77.wr W83 (Or.inr kz_cc)
      clear kp77
      refine own_st (st83) ?_
      clear st83 X77 e77 W83 Ar83 q83 S83 N83 H83 G83 hin83 f78
      show OFin p e below s _ _ _ (T83.setTop (mkF m 74 #[.val (.int n), .val (.int c0), .val (.int c1), .val (.int c2)] [(.ref cc), (.ref sx), (.ref sx)]))
      refine own_st (fun _ kS => XS.dup X83.here hx rfl (hb hby own_d1_74) rfl rfl kS) ?_
      show OFin p e below s _ _ _ (T83.setTop (mkF m 75 #[.val (.int n), .val (.int c0), .val (.int c1), .val (.int c2)] [(.ref cc), (.ref cc), (.ref sx), (.ref sx)]))
      refine own_st (fun _ kS => XS.iconst X83.here hx rfl (hb hby own_d1_75) kS) ?_
      show OFin p e below s _ _ _ (T83.setTop (mkF m 76 #[.val (.int n), .val (.int c0), .val (.int c1), .val (.int c2)] [(.int (2 : Int32)), (.ref cc), (.ref cc), (.ref sx), (.ref sx)]))
      refine own_st (fun _ kS => XS.iloadN X83.here hx rfl (hb hby own_d1_76) rfl kS) ?_
      show OFin p e below s _ _ _ (T83.setTop (mkF m 77 #[.val (.int n), .val (.int c0), .val (.int c1), .val (.int c2)] [(.int c2), (.int (2 : Int32)), (.ref cc), (.ref cc), (.ref sx), (.ref sx)]))
      obtain ⟨cl89, Ar89, q89, S89, N89, H89, G89⟩ := id f84
      have hin89 : ¬ ((2 : Int32) < 0 ∨ cl89.slots.size ≤ ((2 : Int32)).toNatClampNeg) := inb_of S89 ⟨by decide, by decide⟩
      obtain ⟨T89, h89, X89, e89, W89, st89⟩ := stC X83 hx hZ e83 Ar89 (j := (2 : Int32)) hin89 (g := (mkF m 77 #[.val (.int n), .val (.int c0), .val (.int c1), .val (.int c2)] [(.int c2), (.int (2 : Int32)), (.ref cc), (.ref cc), (.ref sx), (.ref sx)])) rfl rfl (hb hby own_d1_77)
      have f90 := Arv.set Ar89 q89 S89 N89 H89 G89 (fits_nar_char _) W89 2 rfl (Nat.le_of_ble_eq_true rfl)
      have od89 := od83.wr W89 g_cc
      clear od83
      have f91 := f85.wr W89
      clear f85
      have f92 := f86.other W89 (Or.inl ne_sx_cc)
      clear f86
      have f93 := f87.other W89 (Or.inl ne_sx_cc)
      clear f87
      have sz89 : n0 ≤ h89.size := by rw [W89.size]; exact sz83
      clear sz83
      have fr89 := Fr.snoc X89 fr83 g_cc
      clear fr83
      have kp89 := kp83.wr W89 (Or.inr kz_cc)
      clear kp83
      refine own_st (st89) ?_
      clear st89 X83 e83 W89 Ar89 q89 S89 N89 H89 G89 hin89 f84
      show OFin p e below s _ _ _ (T89.setTop (mkF m 78 #[.val (.int n), .val (.int c0), .val (.int c1), .val (.int c2)] [(.ref cc), (.ref sx), (.ref sx)]))
      have hws : ∀ d ∈ StrChars.Road.words, d.before a0 Z = true := fun d hd => hw d ((by decide +kernel : ∀ d ∈ StrChars.Road.words, d ∈ tables_1) d hd)
      have hcs : own_cs n c0 c1 c2 = ([nar .char c0, nar .char c1, nar .char c2] : List Int32) := by simp [own_cs, hn, e1, e2, own_ncE r0, own_ncE r1, own_ncE r2]
      have hp : ∀ c ∈ ([nar .char c0, nar .char c1, nar .char c2] : List Int32), ¬ c < 0 ∧ ¬ (255 : Int32) < c := by rw [← hcs]; exact own_csr r0 r1 r2
      obtain ⟨v95, T95, L95, X95, hQ95, st95⟩ := own_initB (StrChars.Road.QV Z sx (3 : Int32) (([nar .char c0, nar .char c1, nar .char c2] : List Int32).map (fun c => c.toInt8.toInt32)) h89 n0) 1 3 X89 hx hZ (y := (⟨"java/lang/String", "<init>", "([C)V"⟩ : MethodName)) (W := 1) (a := sx) (argsL := [(.ref cc)]) (rest := [(.ref sx)]) rfl hown (own_w hw 8 rfl) (own_w hw 9 rfl) (own_w hw 10 rfl) (StrChars.Road.backV (R := (⟨4, 3, 10, 66⟩ : Room)) (W := 1) hZ hws (kI := 4) (own_w hw 5 rfl) (cs := [nar .char c0, nar .char c1, nar .char c2]) (bs := ([nar .char c0, nar .char c1, nar .char c2] : List Int32).map (fun c => c.toInt8.toInt32)) (n := 3) (n0 := n0) g_sx sz89 f91 f93 f92 f90 (Sta.ext od89.2 S_c) hz rfl rfl (by decide) (by decide) hp rfl (by decide) (by decide)) e89 (g := (mkF m 78 #[.val (.int n), .val (.int c0), .val (.int c1), .val (.int c2)] [(.ref cc), (.ref sx), (.ref sx)])) rfl (by rw [hml]; rfl) (lenOf own_pd1 rfl) rfl (by show 2 * 0 + _ ≤ _; exact Nat.le_of_eq rfl) (hb hby own_d1_78) (by decide) (by decide)
      obtain ⟨rfl, N95, K95, EE, FC, t, kb, gt, gt2, gt3, FV, VT⟩ := hQ95
      have fr95 := Fr.app fr89 N95
      have kp95 := kp89.trans K95 (allS (Or.inr kz_sx) all0)
      have od95 := od89.keep K95 (allS g_sx all0)
      clear od89
      have sz95 : n0 ≤ T95.heap.size := Nat.le_trans sz89 K95.1
      clear sz89
      refine own_st (st95) ?_
      clear st95 X89 e89
      show OFin p e below s _ _ _ (T95.setTop (mkF m 81 #[.val (.int n), .val (.int c0), .val (.int c1), .val (.int c2)] [(.ref sx)]))
      exact own_ret X95 hx (t := (.object "java/lang/String")) hret hlk rfl (Or.inr (Or.inr (Or.inr (Or.inr ⟨rfl, rfl, rfl⟩)))) (hb hby own_d1_81) (by decide) (by decide) ⟨sx, rfl, fr95, kp95, by rw [hcs]; exact ⟨EE, FC, t, kb, _, _, FV, VT, StrChars.Road.codOf (cs := [nar .char c0, nar .char c1, nar .char c2]) (n := 3) rfl (fun c hc => (hp c hc).2)⟩⟩
set_option maxRecDepth 65536 in
set_option maxHeartbeats 40000000 in
theorem rmKi (l : Launch) (Z : State) (a0 : Array Value) (hw : ∀ d ∈ tables_1, d.before a0 Z = true) (q : Int32) (h0 : Heap) (n0 : Nat) (kx : Int32 → Addr) (S_0 : Sta Z Z.heap "com/example/wyrd/wyrd/hoa/Tokens$Kind" "HEADER" "Lcom/example/wyrd/wyrd/hoa/Tokens$Kind;" (.ref (kx 0))) (S_1 : Sta Z Z.heap "com/example/wyrd/wyrd/hoa/Tokens$Kind" "IDENTIFIER" "Lcom/example/wyrd/wyrd/hoa/Tokens$Kind;" (.ref (kx 1))) (S_2 : Sta Z Z.heap "com/example/wyrd/wyrd/hoa/Tokens$Kind" "INTEGER" "Lcom/example/wyrd/wyrd/hoa/Tokens$Kind;" (.ref (kx 2))) (S_3 : Sta Z Z.heap "com/example/wyrd/wyrd/hoa/Tokens$Kind" "STRING" "Lcom/example/wyrd/wyrd/hoa/Tokens$Kind;" (.ref (kx 3))) (S_4 : Sta Z Z.heap "com/example/wyrd/wyrd/hoa/Tokens$Kind" "ALIAS" "Lcom/example/wyrd/wyrd/hoa/Tokens$Kind;" (.ref (kx 4))) (S_5 : Sta Z Z.heap "com/example/wyrd/wyrd/hoa/Tokens$Kind" "PUNCTUATION" "Lcom/example/wyrd/wyrd/hoa/Tokens$Kind;" (.ref (kx 5))) (S_6 : Sta Z Z.heap "com/example/wyrd/wyrd/hoa/Tokens$Kind" "SEPARATOR" "Lcom/example/wyrd/wyrd/hoa/Tokens$Kind;" (.ref (kx 6))) (S_7 : Sta Z Z.heap "com/example/wyrd/wyrd/hoa/Tokens$Kind" "END_OF_TEXT" "Lcom/example/wyrd/wyrd/hoa/Tokens$Kind;" (.ref (kx 7))) (O : Old Z n0 h0) (hq : q = 0 ∨ q = 1 ∨ q = 2 ∨ q = 3 ∨ q = 4 ∨ q = 5 ∨ q = 6 ∨ q = 7) :
    OMet l Z (⟨"com/example/wyrd/wyrd/hoa/TokenIsPinLaw", "kind", "(I)Lcom/example/wyrd/wyrd/hoa/Tokens$Kind;"⟩ : MethodName) method_2_code 1 (some (.object "com/example/wyrd/wyrd/hoa/Tokens$Kind")) (⟨0, 0, 0, 0⟩ : Room) #[(.int q)] h0 (fun v h L => v = some (.ref (kx q)) ∧ h = h0 ∧ L = []) := by
  refine own_enter own_pn8 ?_
  intro p e s m below meth c T0 X0 hC e0
  obtain ⟨hx, hZ, hby, hml, hown, hret, hlk, hnm⟩ := hC
  have hown : s.vm.findClass "com/example/wyrd/wyrd/hoa/TokenIsPinLaw" = some m.cls := hown
  refine own_at (own_ef8_I m q) ?_
  show OFin p e below s _ _ _ (T0.setTop (mkF m 0 #[.val (.int q)] []))
  refine own_st (fun _ kS => XS.iloadN X0.here hx rfl (hb hby own_d8_0) rfl kS) ?_
  show OFin p e below s _ _ _ (T0.setTop (mkF m 1 #[.val (.int q)] [(.int q)]))
  by_cases c0 : q = (0 : Int32)
  · refine own_st (fun _ kS => XS.ifNo X0.here hx rfl (hb hby own_d8_1) rfl ((if0 _ _).trans (teq c0).2) kS) ?_
    show OFin p e below s _ _ _ (T0.setTop (mkF m 4 #[.val (.int q)] []))
    obtain ⟨T96, X96, e96, st96⟩ := getS2 X0 hx hZ hown (host := "") (Or.inl (own_w hw 40 rfl)) Via.refl e0 (Sta.ext O.2 S_0) (g := (mkF m 4 #[.val (.int q)] [])) rfl (hb hby own_d8_4)
    refine own_st (st96) ?_
    clear st96 X0 e0
    show OFin p e below s _ _ _ (T96.setTop (mkF m 7 #[.val (.int q)] [(.ref (kx 0))]))
    exact own_ret X96 hx (t := (.object "com/example/wyrd/wyrd/hoa/Tokens$Kind")) hret hlk rfl (Or.inr (Or.inr (Or.inr (Or.inr ⟨rfl, rfl, rfl⟩)))) (hb hby own_d8_7) (by decide) (by decide) ⟨by rw [c0], e96, rfl⟩
  · refine own_st (fun _ kS => XS.ifYes X0.here hx rfl (pc0 := 1) (pc' := 8) rfl (hb hby own_d8_1) rfl ((if0 _ _).trans (feq c0).2) (by decide) (by decide) kS) ?_
    show OFin p e below s _ _ _ (T0.setTop (mkF m 8 #[.val (.int q)] []))
    refine own_st (fun _ kS => XS.iloadN X0.here hx rfl (hb hby own_d8_8) rfl kS) ?_
    show OFin p e below s _ _ _ (T0.setTop (mkF m 9 #[.val (.int q)] [(.int q)]))
    refine own_st (fun _ kS => XS.iconst X0.here hx rfl (hb hby own_d8_9) kS) ?_
    show OFin p e below s _ _ _ (T0.setTop (mkF m 10 #[.val (.int q)] [(.int (1 : Int32)), (.int q)]))
    by_cases c1 : q = (1 : Int32)
    · refine own_st (fun _ kS => XS.icmpNo X0.here hx rfl (hb hby own_d8_10) rfl (teq c1).2 kS) ?_
      show OFin p e below s _ _ _ (T0.setTop (mkF m 13 #[.val (.int q)] []))
      obtain ⟨T97, X97, e97, st97⟩ := getS2 X0 hx hZ hown (host := "") (Or.inl (own_w hw 88 rfl)) Via.refl e0 (Sta.ext O.2 S_1) (g := (mkF m 13 #[.val (.int q)] [])) rfl (hb hby own_d8_13)
      refine own_st (st97) ?_
      clear st97 X0 e0
      show OFin p e below s _ _ _ (T97.setTop (mkF m 16 #[.val (.int q)] [(.ref (kx 1))]))
      exact own_ret X97 hx (t := (.object "com/example/wyrd/wyrd/hoa/Tokens$Kind")) hret hlk rfl (Or.inr (Or.inr (Or.inr (Or.inr ⟨rfl, rfl, rfl⟩)))) (hb hby own_d8_16) (by decide) (by decide) ⟨by rw [c1], e97, rfl⟩
    · refine own_st (fun _ kS => XS.icmpYes X0.here hx rfl (pc0 := 10) (pc' := 17) rfl (hb hby own_d8_10) rfl (feq c1).2 (by decide) (by decide) kS) ?_
      show OFin p e below s _ _ _ (T0.setTop (mkF m 17 #[.val (.int q)] []))
      refine own_st (fun _ kS => XS.iloadN X0.here hx rfl (hb hby own_d8_17) rfl kS) ?_
      show OFin p e below s _ _ _ (T0.setTop (mkF m 18 #[.val (.int q)] [(.int q)]))
      refine own_st (fun _ kS => XS.iconst X0.here hx rfl (hb hby own_d8_18) kS) ?_
      show OFin p e below s _ _ _ (T0.setTop (mkF m 19 #[.val (.int q)] [(.int (2 : Int32)), (.int q)]))
      by_cases c2 : q = (2 : Int32)
      · refine own_st (fun _ kS => XS.icmpNo X0.here hx rfl (hb hby own_d8_19) rfl (teq c2).2 kS) ?_
        show OFin p e below s _ _ _ (T0.setTop (mkF m 22 #[.val (.int q)] []))
        obtain ⟨T98, X98, e98, st98⟩ := getS2 X0 hx hZ hown (host := "") (Or.inl (own_w hw 75 rfl)) Via.refl e0 (Sta.ext O.2 S_2) (g := (mkF m 22 #[.val (.int q)] [])) rfl (hb hby own_d8_22)
        refine own_st (st98) ?_
        clear st98 X0 e0
        show OFin p e below s _ _ _ (T98.setTop (mkF m 25 #[.val (.int q)] [(.ref (kx 2))]))
        exact own_ret X98 hx (t := (.object "com/example/wyrd/wyrd/hoa/Tokens$Kind")) hret hlk rfl (Or.inr (Or.inr (Or.inr (Or.inr ⟨rfl, rfl, rfl⟩)))) (hb hby own_d8_25) (by decide) (by decide) ⟨by rw [c2], e98, rfl⟩
      · refine own_st (fun _ kS => XS.icmpYes X0.here hx rfl (pc0 := 19) (pc' := 26) rfl (hb hby own_d8_19) rfl (feq c2).2 (by decide) (by decide) kS) ?_
        show OFin p e below s _ _ _ (T0.setTop (mkF m 26 #[.val (.int q)] []))
        refine own_st (fun _ kS => XS.iloadN X0.here hx rfl (hb hby own_d8_26) rfl kS) ?_
        show OFin p e below s _ _ _ (T0.setTop (mkF m 27 #[.val (.int q)] [(.int q)]))
        refine own_st (fun _ kS => XS.iconst X0.here hx rfl (hb hby own_d8_27) kS) ?_
        show OFin p e below s _ _ _ (T0.setTop (mkF m 28 #[.val (.int q)] [(.int (3 : Int32)), (.int q)]))
        by_cases c3 : q = (3 : Int32)
        · refine own_st (fun _ kS => XS.icmpNo X0.here hx rfl (hb hby own_d8_28) rfl (teq c3).2 kS) ?_
          show OFin p e below s _ _ _ (T0.setTop (mkF m 31 #[.val (.int q)] []))
          obtain ⟨T99, X99, e99, st99⟩ := getS2 X0 hx hZ hown (host := "") (Or.inl (own_w hw 86 rfl)) Via.refl e0 (Sta.ext O.2 S_3) (g := (mkF m 31 #[.val (.int q)] [])) rfl (hb hby own_d8_31)
          refine own_st (st99) ?_
          clear st99 X0 e0
          show OFin p e below s _ _ _ (T99.setTop (mkF m 34 #[.val (.int q)] [(.ref (kx 3))]))
          exact own_ret X99 hx (t := (.object "com/example/wyrd/wyrd/hoa/Tokens$Kind")) hret hlk rfl (Or.inr (Or.inr (Or.inr (Or.inr ⟨rfl, rfl, rfl⟩)))) (hb hby own_d8_34) (by decide) (by decide) ⟨by rw [c3], e99, rfl⟩
        · refine own_st (fun _ kS => XS.icmpYes X0.here hx rfl (pc0 := 28) (pc' := 35) rfl (hb hby own_d8_28) rfl (feq c3).2 (by decide) (by decide) kS) ?_
          show OFin p e below s _ _ _ (T0.setTop (mkF m 35 #[.val (.int q)] []))
          refine own_st (fun _ kS => XS.iloadN X0.here hx rfl (hb hby own_d8_35) rfl kS) ?_
          show OFin p e below s _ _ _ (T0.setTop (mkF m 36 #[.val (.int q)] [(.int q)]))
          refine own_st (fun _ kS => XS.iconst X0.here hx rfl (hb hby own_d8_36) kS) ?_
          show OFin p e below s _ _ _ (T0.setTop (mkF m 37 #[.val (.int q)] [(.int (4 : Int32)), (.int q)]))
          by_cases c4 : q = (4 : Int32)
          · refine own_st (fun _ kS => XS.icmpNo X0.here hx rfl (hb hby own_d8_37) rfl (teq c4).2 kS) ?_
            show OFin p e below s _ _ _ (T0.setTop (mkF m 40 #[.val (.int q)] []))
            obtain ⟨T100, X100, e100, st100⟩ := getS2 X0 hx hZ hown (host := "") (Or.inl (own_w hw 73 rfl)) Via.refl e0 (Sta.ext O.2 S_4) (g := (mkF m 40 #[.val (.int q)] [])) rfl (hb hby own_d8_40)
            refine own_st (st100) ?_
            clear st100 X0 e0
            show OFin p e below s _ _ _ (T100.setTop (mkF m 43 #[.val (.int q)] [(.ref (kx 4))]))
            exact own_ret X100 hx (t := (.object "com/example/wyrd/wyrd/hoa/Tokens$Kind")) hret hlk rfl (Or.inr (Or.inr (Or.inr (Or.inr ⟨rfl, rfl, rfl⟩)))) (hb hby own_d8_43) (by decide) (by decide) ⟨by rw [c4], e100, rfl⟩
          · refine own_st (fun _ kS => XS.icmpYes X0.here hx rfl (pc0 := 37) (pc' := 44) rfl (hb hby own_d8_37) rfl (feq c4).2 (by decide) (by decide) kS) ?_
            show OFin p e below s _ _ _ (T0.setTop (mkF m 44 #[.val (.int q)] []))
            refine own_st (fun _ kS => XS.iloadN X0.here hx rfl (hb hby own_d8_44) rfl kS) ?_
            show OFin p e below s _ _ _ (T0.setTop (mkF m 45 #[.val (.int q)] [(.int q)]))
            refine own_st (fun _ kS => XS.iconst X0.here hx rfl (hb hby own_d8_45) kS) ?_
            show OFin p e below s _ _ _ (T0.setTop (mkF m 46 #[.val (.int q)] [(.int (5 : Int32)), (.int q)]))
            by_cases c5 : q = (5 : Int32)
            · refine own_st (fun _ kS => XS.icmpNo X0.here hx rfl (hb hby own_d8_46) rfl (teq c5).2 kS) ?_
              show OFin p e below s _ _ _ (T0.setTop (mkF m 49 #[.val (.int q)] []))
              obtain ⟨T101, X101, e101, st101⟩ := getS2 X0 hx hZ hown (host := "") (Or.inl (own_w hw 80 rfl)) Via.refl e0 (Sta.ext O.2 S_5) (g := (mkF m 49 #[.val (.int q)] [])) rfl (hb hby own_d8_49)
              refine own_st (st101) ?_
              clear st101 X0 e0
              show OFin p e below s _ _ _ (T101.setTop (mkF m 52 #[.val (.int q)] [(.ref (kx 5))]))
              exact own_ret X101 hx (t := (.object "com/example/wyrd/wyrd/hoa/Tokens$Kind")) hret hlk rfl (Or.inr (Or.inr (Or.inr (Or.inr ⟨rfl, rfl, rfl⟩)))) (hb hby own_d8_52) (by decide) (by decide) ⟨by rw [c5], e101, rfl⟩
            · refine own_st (fun _ kS => XS.icmpYes X0.here hx rfl (pc0 := 46) (pc' := 53) rfl (hb hby own_d8_46) rfl (feq c5).2 (by decide) (by decide) kS) ?_
              show OFin p e below s _ _ _ (T0.setTop (mkF m 53 #[.val (.int q)] []))
              refine own_st (fun _ kS => XS.iloadN X0.here hx rfl (hb hby own_d8_53) rfl kS) ?_
              show OFin p e below s _ _ _ (T0.setTop (mkF m 54 #[.val (.int q)] [(.int q)]))
              refine own_st (fun _ kS => XS.bipush X0.here hx rfl (hb hby own_d8_54) kS) ?_
              show OFin p e below s _ _ _ (T0.setTop (mkF m 56 #[.val (.int q)] [(.int (6 : Int32)), (.int q)]))
              by_cases c6 : q = (6 : Int32)
              · refine own_st (fun _ kS => XS.icmpNo X0.here hx rfl (hb hby own_d8_56) rfl (teq c6).2 kS) ?_
                show OFin p e below s _ _ _ (T0.setTop (mkF m 59 #[.val (.int q)] []))
                obtain ⟨T102, X102, e102, st102⟩ := getS2 X0 hx hZ hown (host := "") (Or.inl (own_w hw 84 rfl)) Via.refl e0 (Sta.ext O.2 S_6) (g := (mkF m 59 #[.val (.int q)] [])) rfl (hb hby own_d8_59)
                refine own_st (st102) ?_
                clear st102 X0 e0
                show OFin p e below s _ _ _ (T102.setTop (mkF m 62 #[.val (.int q)] [(.ref (kx 6))]))
                exact own_ret X102 hx (t := (.object "com/example/wyrd/wyrd/hoa/Tokens$Kind")) hret hlk rfl (Or.inr (Or.inr (Or.inr (Or.inr ⟨rfl, rfl, rfl⟩)))) (hb hby own_d8_62) (by decide) (by decide) ⟨by rw [c6], e102, rfl⟩
              · refine own_st (fun _ kS => XS.icmpYes X0.here hx rfl (pc0 := 56) (pc' := 63) rfl (hb hby own_d8_56) rfl (feq c6).2 (by decide) (by decide) kS) ?_
                show OFin p e below s _ _ _ (T0.setTop (mkF m 63 #[.val (.int q)] []))
                obtain ⟨T103, X103, e103, st103⟩ := getS2 X0 hx hZ hown (host := "") (Or.inl (own_w hw 82 rfl)) Via.refl e0 (Sta.ext O.2 S_7) (g := (mkF m 63 #[.val (.int q)] [])) rfl (hb hby own_d8_63)
                refine own_st (st103) ?_
                clear st103 X0 e0
                show OFin p e below s _ _ _ (T103.setTop (mkF m 66 #[.val (.int q)] [(.ref (kx 7))]))
                have c7 : q = 7 := by rcases hq with h | h | h | h | h | h | h | h; exact absurd h c0; exact absurd h c1; exact absurd h c2; exact absurd h c3; exact absurd h c4; exact absurd h c5; exact absurd h c6; exact h
                exact own_ret X103 hx (t := (.object "com/example/wyrd/wyrd/hoa/Tokens$Kind")) hret hlk rfl (Or.inr (Or.inr (Or.inr (Or.inr ⟨rfl, rfl, rfl⟩)))) (hb hby own_d8_66) (by decide) (by decide) ⟨by rw [c7], e103, rfl⟩
set_option maxRecDepth 65536 in
set_option maxHeartbeats 40000000 in
theorem rmRI (l : Launch) (Z : State) (a0 : Array Value) (hw : ∀ d ∈ tables_1, d.before a0 Z = true) (a : Addr) (h0 : Heap)  :
    OMet l Z (⟨"java/lang/Record", "<init>", "()V"⟩ : MethodName) jdk_30_method_1_code 1 none (⟨1, 0, 0, 12⟩ : Room) #[(.ref a)] h0 (fun v h L => v = none ∧ h = h0 ∧ L = []) := by
  refine own_enter own_pn10 ?_
  intro p e s m below meth c T0 X0 hC e0
  obtain ⟨hx, hZ, hby, hml, hown, hret, hlk, hnm⟩ := hC
  have hown : s.vm.findClass "java/lang/Record" = some m.cls := hown
  refine own_at (own_ef10_R m a) ?_
  show OFin p e below s _ _ _ (T0.setTop (mkF m 0 #[.val (.ref a)] []))
  refine own_st (fun _ kS => XS.aloadN X0.here hx rfl (hb hby own_d10_0) rfl rfl kS) ?_
  show OFin p e below s _ _ _ (T0.setTop (mkF m 1 #[.val (.ref a)] [(.ref a)]))
  obtain ⟨T104, X104, e104, st104⟩ := initO X0 hx hZ hown (own_w hw 51 rfl) (own_w hw 16 rfl) (own_w hw 17 rfl) e0 (g := (mkF m 1 #[.val (.ref a)] [(.ref a)])) rfl (by rw [hml]; rfl) rfl (hb hby own_d10_1) (by decide) (W := 0) (by show 2 * 0 + _ ≤ _; exact Nat.le_of_eq rfl) (by decide)
  refine own_st (st104) ?_
  clear st104 X0 e0
  show OFin p e below s _ _ _ (T104.setTop (mkF m 4 #[.val (.ref a)] []))
  exact own_retV X104 hx hret hlk (hb hby own_d10_4) (by decide) (by decide) ⟨rfl, e104, rfl⟩
set_option maxRecDepth 65536 in
set_option maxHeartbeats 40000000 in
theorem rmTk (l : Launch) (Z : State) (a0 : Array Value) (hw : ∀ d ∈ tables_1, d.before a0 Z = true) (a : Addr) (ki : Addr) (x : Addr) (ln : Int32) (h0 : Heap) (n0 : Nat) (E_a : Exa Z h0 a "com/example/wyrd/wyrd/hoa/Tokens$Token") (F_k : Fld Z h0 a "com/example/wyrd/wyrd/hoa/Tokens$Token" "kind" "Lcom/example/wyrd/wyrd/hoa/Tokens$Kind;" .null) (F_t : Fld Z h0 a "com/example/wyrd/wyrd/hoa/Tokens$Token" "text" "Ljava/lang/String;" .null) (F_l : Fld Z h0 a "com/example/wyrd/wyrd/hoa/Tokens$Token" "line" "I" (.int (0 : Int32))) (g_a : n0 ≤ a) :
    OMet l Z (⟨"com/example/wyrd/wyrd/hoa/Tokens$Token", "<init>", "(Lcom/example/wyrd/wyrd/hoa/Tokens$Kind;Ljava/lang/String;I)V"⟩ : MethodName) prog_66_method_1_code 4 none (⟨2, 0, 0, 24⟩ : Room) #[(.ref a), (.ref ki), (.ref x), (.int ln)] h0 (fun v h L => v = none ∧ Fr n0 L ∧ Keep h0 h [a] ∧ Exa Z h a "com/example/wyrd/wyrd/hoa/Tokens$Token" ∧ Fld Z h a "com/example/wyrd/wyrd/hoa/Tokens$Token" "kind" "Lcom/example/wyrd/wyrd/hoa/Tokens$Kind;" (.ref ki) ∧ Fld Z h a "com/example/wyrd/wyrd/hoa/Tokens$Token" "text" "Ljava/lang/String;" (.ref x)) := by
  refine own_enter own_pn9 ?_
  intro p e s m below meth c T0 X0 hC e0
  obtain ⟨hx, hZ, hby, hml, hown, hret, hlk, hnm⟩ := hC
  have hown : s.vm.findClass "com/example/wyrd/wyrd/hoa/Tokens$Token" = some m.cls := hown
  refine own_at (own_ef9_RRRI m a ki x ln) ?_
  show OFin p e below s _ _ _ (T0.setTop (mkF m 0 #[.val (.ref a), .val (.ref ki), .val (.ref x), .val (.int ln)] []))
  have N0 := Fr.nil n0
  have kp0 := Keep.refl h0 [a]
  refine own_st (fun _ kS => XS.aloadN X0.here hx rfl (hb hby own_d9_0) rfl rfl kS) ?_
  show OFin p e below s _ _ _ (T0.setTop (mkF m 1 #[.val (.ref a), .val (.ref ki), .val (.ref x), .val (.int ln)] [(.ref a)]))
  obtain ⟨v105, T105, L105, X105, hQ105, st105⟩ := own_init X0 hx hZ (y := (⟨"java/lang/Record", "<init>", "()V"⟩ : MethodName)) (rm := ⟨1, 0, 0, 12⟩) (W := 0) (a := a) (argsL := []) (rest := []) rfl hown (own_w hw 46 rfl) (own_w hw 47 rfl) (own_w hw 49 rfl) (own_w hw 50 rfl) (rmRI l Z a0 hw a h0) e0 (g := (mkF m 1 #[.val (.ref a), .val (.ref ki), .val (.ref x), .val (.int ln)] [(.ref a)])) rfl (by rw [hml]; rfl) (lenOf own_pd2 rfl) rfl (by show 2 * 0 + _ ≤ _; exact Nat.le_of_eq rfl) (hb hby own_d9_1) (by decide) (by decide) (by decide) (by decide)
  obtain ⟨rfl, e105, rfl⟩ := hQ105
  rw [List.append_nil] at X105
  refine own_st (st105) ?_
  clear st105 X0 e0
  show OFin p e below s _ _ _ (T105.setTop (mkF m 4 #[.val (.ref a), .val (.ref ki), .val (.ref x), .val (.int ln)] []))
  refine own_st (fun _ kS => XS.aloadN X105.here hx rfl (hb hby own_d9_4) rfl rfl kS) ?_
  show OFin p e below s _ _ _ (T105.setTop (mkF m 5 #[.val (.ref a), .val (.ref ki), .val (.ref x), .val (.int ln)] [(.ref a)]))
  refine own_st (fun _ kS => XS.aloadN X105.here hx rfl (hb hby own_d9_5) rfl rfl kS) ?_
  show OFin p e below s _ _ _ (T105.setTop (mkF m 6 #[.val (.ref a), .val (.ref ki), .val (.ref x), .val (.int ln)] [(.ref ki), (.ref a)]))
  obtain ⟨T106, h106, X106, e106, W106, st106⟩ := putF X105 hx hZ hown (host := "") (Or.inl (own_w hw 52 rfl)) Via.refl e105 F_k E_a (Or.inr ⟨(own_w hw 53 rfl), rfl, hnm⟩) (own_w hw 35 rfl) (ty := (.object "com/example/wyrd/wyrd/hoa/Tokens$Kind")) (by decide) rfl rfl (g := (mkF m 6 #[.val (.ref a), .val (.ref ki), .val (.ref x), .val (.int ln)] [(.ref ki), (.ref a)])) rfl rfl (hb hby own_d9_6)
  have f107 := F_k.same W106
  have f108 := E_a.wr W106
  have f110 := F_t.other W106 (Or.inr (slot_ne (Or.inr (own_w hw 55 rfl)) (Or.inr (own_w hw 53 rfl)) (by decide) (t := (.object "java/lang/String")) (t' := (.object "com/example/wyrd/wyrd/hoa/Tokens$Kind")) (by decide) (by decide)))
  have f111 := F_l.other W106 (Or.inr (slot_ne (Or.inr (own_w hw 57 rfl)) (Or.inr (own_w hw 53 rfl)) (by decide) (t := .int) (t' := (.object "com/example/wyrd/wyrd/hoa/Tokens$Kind")) (by decide) (by decide)))
  have fr106 := Fr.snoc X106 N0 g_a
  clear N0
  have kp106 := kp0.wr W106 (Or.inl (List.mem_of_getElem? (i := 0) rfl))
  clear kp0
  refine own_st (st106) ?_
  clear st106 X105 e105 W106
  show OFin p e below s _ _ _ (T106.setTop (mkF m 9 #[.val (.ref a), .val (.ref ki), .val (.ref x), .val (.int ln)] []))
  refine own_st (fun _ kS => XS.aloadN X106.here hx rfl (hb hby own_d9_9) rfl rfl kS) ?_
  show OFin p e below s _ _ _ (T106.setTop (mkF m 10 #[.val (.ref a), .val (.ref ki), .val (.ref x), .val (.int ln)] [(.ref a)]))
  refine own_st (fun _ kS => XS.aloadN X106.here hx rfl (hb hby own_d9_10) rfl rfl kS) ?_
  show OFin p e below s _ _ _ (T106.setTop (mkF m 11 #[.val (.ref a), .val (.ref ki), .val (.ref x), .val (.int ln)] [(.ref x), (.ref a)]))
  obtain ⟨T112, h112, X112, e112, W112, st112⟩ := putF X106 hx hZ hown (host := "") (Or.inl (own_w hw 54 rfl)) Via.refl e106 f110 f108 (Or.inr ⟨(own_w hw 55 rfl), rfl, hnm⟩) (own_w hw 35 rfl) (ty := (.object "java/lang/String")) (by decide) rfl rfl (g := (mkF m 11 #[.val (.ref a), .val (.ref ki), .val (.ref x), .val (.int ln)] [(.ref x), (.ref a)])) rfl rfl (hb hby own_d9_11)
  have f113 := f110.same W112
  have f114 := f108.wr W112
  clear f108
  have f115 := f107.other W112 (Or.inr (slot_ne (Or.inr (own_w hw 53 rfl)) (Or.inr (own_w hw 55 rfl)) (by decide) (t := (.object "com/example/wyrd/wyrd/hoa/Tokens$Kind")) (t' := (.object "java/lang/String")) (by decide) (by decide)))
  clear f107
  have f117 := f111.other W112 (Or.inr (slot_ne (Or.inr (own_w hw 57 rfl)) (Or.inr (own_w hw 55 rfl)) (by decide) (t := .int) (t' := (.object "java/lang/String")) (by decide) (by decide)))
  clear f111
  have fr112 := Fr.snoc X112 fr106 g_a
  clear fr106
  have kp112 := kp106.wr W112 (Or.inl (List.mem_of_getElem? (i := 0) rfl))
  clear kp106
  refine own_st (st112) ?_
  clear st112 X106 e106 W112 f110
  show OFin p e below s _ _ _ (T112.setTop (mkF m 14 #[.val (.ref a), .val (.ref ki), .val (.ref x), .val (.int ln)] []))
  refine own_st (fun _ kS => XS.aloadN X112.here hx rfl (hb hby own_d9_14) rfl rfl kS) ?_
  show OFin p e below s _ _ _ (T112.setTop (mkF m 15 #[.val (.ref a), .val (.ref ki), .val (.ref x), .val (.int ln)] [(.ref a)]))
  refine own_st (fun _ kS => XS.iloadN X112.here hx rfl (hb hby own_d9_15) rfl kS) ?_
  show OFin p e below s _ _ _ (T112.setTop (mkF m 16 #[.val (.ref a), .val (.ref ki), .val (.ref x), .val (.int ln)] [(.int ln), (.ref a)]))
  obtain ⟨T118, h118, X118, e118, W118, st118⟩ := putF X112 hx hZ hown (host := "") (Or.inl (own_w hw 56 rfl)) Via.refl e112 f117 f114 (Or.inr ⟨(own_w hw 57 rfl), rfl, hnm⟩) (own_w hw 35 rfl) (ty := .int) (by decide) rfl rfl (g := (mkF m 16 #[.val (.ref a), .val (.ref ki), .val (.ref x), .val (.int ln)] [(.int ln), (.ref a)])) rfl rfl (hb hby own_d9_16)
  have f119 := f117.same W118
  have f120 := f114.wr W118
  clear f114
  have f121 := f115.other W118 (Or.inr (slot_ne (Or.inr (own_w hw 53 rfl)) (Or.inr (own_w hw 57 rfl)) (by decide) (t := (.object "com/example/wyrd/wyrd/hoa/Tokens$Kind")) (t' := .int) (by decide) (by decide)))
  clear f115
  have f122 := f113.other W118 (Or.inr (slot_ne (Or.inr (own_w hw 55 rfl)) (Or.inr (own_w hw 57 rfl)) (by decide) (t := (.object "java/lang/String")) (t' := .int) (by decide) (by decide)))
  clear f113
  have fr118 := Fr.snoc X118 fr112 g_a
  clear fr112
  have kp118 := kp112.wr W118 (Or.inl (List.mem_of_getElem? (i := 0) rfl))
  clear kp112
  refine own_st (st118) ?_
  clear st118 X112 e112 W118 f117
  show OFin p e below s _ _ _ (T118.setTop (mkF m 19 #[.val (.ref a), .val (.ref ki), .val (.ref x), .val (.int ln)] []))
  exact own_retV X118 hx hret hlk (hb hby own_d9_19) (by decide) (by decide) (by show _ ∧ _ ∧ Keep h0 T118.heap _ ∧ _; rw [e118]; exact ⟨rfl, fr118, kp118, f120, f121, f122⟩)
set_option maxRecDepth 65536 in
set_option maxHeartbeats 40000000 in
theorem rmIs (l : Launch) (Z : State) (a0 : Array Value) (hw : ∀ d ∈ tables_1, d.before a0 Z = true) (a : Addr) (kj : Addr) (y : Addr) (h0 : Heap) (n0 : Nat) (z : Int32) (ki x : Addr) (cs ds : List Int32) (F_k : Fld Z h0 a "com/example/wyrd/wyrd/hoa/Tokens$Token" "kind" "Lcom/example/wyrd/wyrd/hoa/Tokens$Kind;" (.ref ki)) (F_t : Fld Z h0 a "com/example/wyrd/wyrd/hoa/Tokens$Token" "text" "Ljava/lang/String;" (.ref x)) (O1 : OStr Z h0 x cs) (O2 : OStr Z h0 y ds) (hp : ∀ c ∈ cs, ¬ c < 0 ∧ ¬ (255 : Int32) < c) (hp2 : ∀ c ∈ ds, ¬ c < 0 ∧ ¬ (255 : Int32) < c) (hl : cs.length ≤ 4000) (hl2 : ds.length ≤ 4000) (S_c : Sta Z Z.heap "java/lang/String" "COMPACT_STRINGS" "Z" (.int z)) (hz : ¬ z = 0) (O : Old Z n0 h0) :
    OMet l Z (⟨"com/example/wyrd/wyrd/hoa/Tokens$Token", "is", "(Lcom/example/wyrd/wyrd/hoa/Tokens$Kind;Ljava/lang/String;)Z"⟩ : MethodName) prog_66_method_2_code 3 (some .boolean) (⟨2, 0, 0, 28⟩ : Room) #[(.ref a), (.ref kj), (.ref y)] h0 (fun v h L => (∃ r : Int32, v = some (.int r) ∧ ((r = 1 ∧ ki = kj ∧ cs = ds) ∨ (r = 0 ∧ ¬ (ki = kj ∧ cs = ds)))) ∧ h = h0 ∧ L = []) := by
  refine own_enter own_pn11 ?_
  intro p e s m below meth c T0 X0 hC e0
  obtain ⟨hx, hZ, hby, hml, hown, hret, hlk, hnm⟩ := hC
  have hown : s.vm.findClass "com/example/wyrd/wyrd/hoa/Tokens$Token" = some m.cls := hown
  refine own_at (own_ef11_RRR m a kj y) ?_
  show OFin p e below s _ _ _ (T0.setTop (mkF m 0 #[.val (.ref a), .val (.ref kj), .val (.ref y)] []))
  obtain ⟨E1, C1, t1, k1, M1, v1, V1, A1, D1⟩ := O1
  obtain ⟨E2, C2, t2, k2, M2, v2, V2, A2, D2⟩ := O2
  refine own_st (fun _ kS => XS.aloadN X0.here hx rfl (hb hby own_d11_0) rfl rfl kS) ?_
  show OFin p e below s _ _ _ (T0.setTop (mkF m 1 #[.val (.ref a), .val (.ref kj), .val (.ref y)] [(.ref a)]))
  obtain ⟨T124, X124, e124, st124⟩ := getF X0 hx hZ hown (host := "") (Or.inl (own_w hw 52 rfl)) Via.refl e0 F_k (g := (mkF m 1 #[.val (.ref a), .val (.ref kj), .val (.ref y)] [(.ref a)])) rfl rfl (hb hby own_d11_1)
  refine own_st (st124) ?_
  clear st124 X0 e0
  show OFin p e below s _ _ _ (T124.setTop (mkF m 4 #[.val (.ref a), .val (.ref kj), .val (.ref y)] [(.ref ki)]))
  refine own_st (fun _ kS => XS.aloadN X124.here hx rfl (hb hby own_d11_4) rfl rfl kS) ?_
  show OFin p e below s _ _ _ (T124.setTop (mkF m 5 #[.val (.ref a), .val (.ref kj), .val (.ref y)] [(.ref kj), (.ref ki)]))
  by_cases c1 : ki = kj
  · refine own_st (fun _ kS => Jvm.RoadKit.acmp (g := (mkF m 5 #[.val (.ref a), .val (.ref kj), .val (.ref y)] [(.ref kj), (.ref ki)])) X124 hx rfl rfl rfl (pc0 := 5) (pc' := 8) (same := true) rfl (hb hby own_d11_5) rfl (decide_eq_true (congrArg Value.ref c1)) (by decide) (by decide) kS) ?_
    show OFin p e below s _ _ _ (T124.setTop (mkF m 8 #[.val (.ref a), .val (.ref kj), .val (.ref y)] []))
    refine own_st (fun _ kS => XS.aloadN X124.here hx rfl (hb hby own_d11_8) rfl rfl kS) ?_
    show OFin p e below s _ _ _ (T124.setTop (mkF m 9 #[.val (.ref a), .val (.ref kj), .val (.ref y)] [(.ref a)]))
    obtain ⟨T125, X125, e125, st125⟩ := getF X124 hx hZ hown (host := "") (Or.inl (own_w hw 54 rfl)) Via.refl e124 F_t (g := (mkF m 9 #[.val (.ref a), .val (.ref kj), .val (.ref y)] [(.ref a)])) rfl rfl (hb hby own_d11_9)
    refine own_st (st125) ?_
    clear st125 X124 e124
    show OFin p e below s _ _ _ (T125.setTop (mkF m 12 #[.val (.ref a), .val (.ref kj), .val (.ref y)] [(.ref x)]))
    refine own_st (fun _ kS => XS.aloadN X125.here hx rfl (hb hby own_d11_12) rfl rfl kS) ?_
    show OFin p e below s _ _ _ (T125.setTop (mkF m 13 #[.val (.ref a), .val (.ref kj), .val (.ref y)] [(.ref y), (.ref x)]))
    have hws : ∀ d ∈ StrChars.Road.wordsEq, d.before a0 Z = true := fun d hd => hw d ((by decide +kernel : ∀ d ∈ StrChars.Road.wordsEq, d ∈ tables_1) d hd)
    obtain ⟨v126, T126, L126, X126, hQ126, st126⟩ := own_virtualB (fun v h' L => ((v = some (.int 1) ∧ cs = ds) ∨ (v = some (.int 0) ∧ ¬ cs = ds)) ∧ L = [] ∧ h' = h0) 0 0 X125 hx hZ (y := (⟨"java/lang/String", "equals", "(Ljava/lang/Object;)Z"⟩ : MethodName)) (z := (⟨"java/lang/String", "equals", "(Ljava/lang/Object;)Z"⟩ : MethodName)) (W := 0) (a := x) (argsL := [(.ref y)]) (rest := []) hown (own_w hw 63 rfl) (own_w hw 64 rfl) (notFace_of_selects (args := #[]) (mvT hZ (own_w hw 66 rfl))) (own_w hw 66 rfl) (own_w hw 65 rfl) (StrChars.Road.eqW (R := (⟨2, 0, 0, 28⟩ : Room)) (W := 0) hZ hws (kI := 4) (own_w hw 5 rfl) E1 V1 C1 A1 D1 (own_up hp) hl E2 V2 C2 A2 D2 (own_up hp2) hl2 (Sta.ext O.2 S_c) hz (by decide) (by decide)) e125 E1 (g := (mkF m 13 #[.val (.ref a), .val (.ref kj), .val (.ref y)] [(.ref y), (.ref x)])) rfl (by rw [hml]; rfl) (lenOf own_pd3 rfl) rfl (by show 2 * 0 + _ ≤ _; exact Nat.le_of_eq rfl) (hb hby own_d11_13) (by decide) (by decide)
    obtain ⟨hv, rfl, e126⟩ := hQ126
    rw [List.append_nil] at X126
    rcases hv with ⟨rfl, hcd⟩ | ⟨rfl, hcd⟩
    · refine own_st (st126) ?_
      clear st126 X125 e125
      show OFin p e below s _ _ _ (T126.setTop (mkF m 16 #[.val (.ref a), .val (.ref kj), .val (.ref y)] [(.int (1 : Int32))]))
      refine own_st (fun _ kS => XS.ifNo X126.here hx rfl (hb hby own_d11_16) rfl ((if0 _ _).trans (feq (by decide)).1) kS) ?_
      show OFin p e below s _ _ _ (T126.setTop (mkF m 19 #[.val (.ref a), .val (.ref kj), .val (.ref y)] []))
      refine own_st (fun _ kS => XS.iconst X126.here hx rfl (hb hby own_d11_19) kS) ?_
      show OFin p e below s _ _ _ (T126.setTop (mkF m 20 #[.val (.ref a), .val (.ref kj), .val (.ref y)] [(.int (1 : Int32))]))
      refine own_st (fun _ kS => XS.goto X126.here hx rfl (pc0 := 20) (pc' := 24) rfl (hb hby own_d11_20) (by decide) (by decide) kS) ?_
      show OFin p e below s _ _ _ (T126.setTop (mkF m 24 #[.val (.ref a), .val (.ref kj), .val (.ref y)] [(.int (1 : Int32))]))
      exact own_ret X126 hx (t := .boolean) hret hlk rfl (Or.inl ⟨rfl, by simp, _, rfl⟩) (hb hby own_d11_24) (by decide) (by decide) ⟨⟨1, rfl, Or.inl ⟨rfl, c1, hcd⟩⟩, e126, rfl⟩
    · refine own_st (st126) ?_
      clear st126 X125 e125
      show OFin p e below s _ _ _ (T126.setTop (mkF m 16 #[.val (.ref a), .val (.ref kj), .val (.ref y)] [(.int (0 : Int32))]))
      refine own_st (fun _ kS => XS.ifYes X126.here hx rfl (pc0 := 16) (pc' := 23) rfl (hb hby own_d11_16) rfl ((if0 _ _).trans (teq rfl).1) (by decide) (by decide) kS) ?_
      show OFin p e below s _ _ _ (T126.setTop (mkF m 23 #[.val (.ref a), .val (.ref kj), .val (.ref y)] []))
      refine own_st (fun _ kS => XS.iconst X126.here hx rfl (hb hby own_d11_23) kS) ?_
      show OFin p e below s _ _ _ (T126.setTop (mkF m 24 #[.val (.ref a), .val (.ref kj), .val (.ref y)] [(.int (0 : Int32))]))
      exact own_ret X126 hx (t := .boolean) hret hlk rfl (Or.inl ⟨rfl, by simp, _, rfl⟩) (hb hby own_d11_24) (by decide) (by decide) ⟨⟨0, rfl, Or.inr ⟨rfl, fun q => hcd q.2⟩⟩, e126, rfl⟩
  · refine own_st (fun _ kS => Jvm.RoadKit.acmp (g := (mkF m 5 #[.val (.ref a), .val (.ref kj), .val (.ref y)] [(.ref kj), (.ref ki)])) X124 hx rfl rfl rfl (pc0 := 5) (pc' := 23) (same := false) rfl (hb hby own_d11_5) rfl (decide_eq_false fun q => c1 (Value.ref.inj q)) (by decide) (by decide) kS) ?_
    show OFin p e below s _ _ _ (T124.setTop (mkF m 23 #[.val (.ref a), .val (.ref kj), .val (.ref y)] []))
    refine own_st (fun _ kS => XS.iconst X124.here hx rfl (hb hby own_d11_23) kS) ?_
    show OFin p e below s _ _ _ (T124.setTop (mkF m 24 #[.val (.ref a), .val (.ref kj), .val (.ref y)] [(.int (0 : Int32))]))
    exact own_ret X124 hx (t := .boolean) hret hlk rfl (Or.inl ⟨rfl, by simp, _, rfl⟩) (hb hby own_d11_24) (by decide) (by decide) ⟨⟨0, rfl, Or.inr ⟨rfl, fun q => c1 q.1⟩⟩, e124, rfl⟩
set_option maxRecDepth 65536 in
set_option maxHeartbeats 40000000 in
theorem own_t6 {l : Launch} {Z : State} {a0 : Array Value} (hw : ∀ d ∈ tables_1, d.before a0 Z = true) {p : Program} {e : Env} {s : State} {m : MethodId} {args : Array Value} {below : List Frame} {meth : Method} {c : Code} (hC : OCtx Z p s m meth c "com/example/wyrd/wyrd/hoa/TokenIsPinLaw" "law" code maxLocals ret) {T0 : State} {locs : List Loc} {cells slots : Nat} (X0 : Stand p l e room_1 s m args below meth c T0 locs cells slots) {h0 : Heap} (e0 : T0.heap = h0) (p1 p2 p3 p4 p5 p6 i j bb n1 c0 c1 c2 n2 d0 d1 d2 : Int32) (x y a : Addr) (b20 ex : Int32) (n0 nI : Nat) (z : Int32) (kx : Int32 → Addr) (S_0 : Sta Z Z.heap "com/example/wyrd/wyrd/hoa/Tokens$Kind" "HEADER" "Lcom/example/wyrd/wyrd/hoa/Tokens$Kind;" (.ref (kx 0))) (S_1 : Sta Z Z.heap "com/example/wyrd/wyrd/hoa/Tokens$Kind" "IDENTIFIER" "Lcom/example/wyrd/wyrd/hoa/Tokens$Kind;" (.ref (kx 1))) (S_2 : Sta Z Z.heap "com/example/wyrd/wyrd/hoa/Tokens$Kind" "INTEGER" "Lcom/example/wyrd/wyrd/hoa/Tokens$Kind;" (.ref (kx 2))) (S_3 : Sta Z Z.heap "com/example/wyrd/wyrd/hoa/Tokens$Kind" "STRING" "Lcom/example/wyrd/wyrd/hoa/Tokens$Kind;" (.ref (kx 3))) (S_4 : Sta Z Z.heap "com/example/wyrd/wyrd/hoa/Tokens$Kind" "ALIAS" "Lcom/example/wyrd/wyrd/hoa/Tokens$Kind;" (.ref (kx 4))) (S_5 : Sta Z Z.heap "com/example/wyrd/wyrd/hoa/Tokens$Kind" "PUNCTUATION" "Lcom/example/wyrd/wyrd/hoa/Tokens$Kind;" (.ref (kx 5))) (S_6 : Sta Z Z.heap "com/example/wyrd/wyrd/hoa/Tokens$Kind" "SEPARATOR" "Lcom/example/wyrd/wyrd/hoa/Tokens$Kind;" (.ref (kx 6))) (S_7 : Sta Z Z.heap "com/example/wyrd/wyrd/hoa/Tokens$Kind" "END_OF_TEXT" "Lcom/example/wyrd/wyrd/hoa/Tokens$Kind;" (.ref (kx 7))) (hO : ∀ k : Int32, (k = 0 ∨ k = 1 ∨ k = 2 ∨ k = 3 ∨ k = 4 ∨ k = 5 ∨ k = 6 ∨ k = 7) → Fld Z Z.heap (kx k) "java/lang/Enum" "ordinal" "I" (.int k)) (hi : i = 0 ∨ i = 1 ∨ i = 2 ∨ i = 3 ∨ i = 4 ∨ i = 5 ∨ i = 6 ∨ i = 7) (hj : j = 0 ∨ j = 1 ∨ j = 2 ∨ j = 3 ∨ j = 4 ∨ j = 5 ∨ j = 6 ∨ j = 7) (hn1 : n1 = 0 ∨ n1 = 1 ∨ n1 = 2 ∨ n1 = 3) (hn2 : n2 = 0 ∨ n2 = 1 ∨ n2 = 2 ∨ n2 = 3) (r0 : 0 ≤ c0.toInt ∧ c0.toInt ≤ 255) (r1 : 0 ≤ c1.toInt ∧ c1.toInt ≤ 255) (r2 : 0 ≤ c2.toInt ∧ c2.toInt ≤ 255) (s0 : 0 ≤ d0.toInt ∧ d0.toInt ≤ 255) (s1 : 0 ≤ d1.toInt ∧ d1.toInt ≤ 255) (s2 : 0 ≤ d2.toInt ∧ d2.toInt ≤ 255) (hnI : nI ≤ h0.size) (Z0 : n0 ≤ h0.size) (N0 : Fr n0 locs) (S_c : Sta Z Z.heap "java/lang/String" "COMPACT_STRINGS" "Z" (.int z)) (hz : ¬ z = 0) (O : Old Z n0 h0) (E_a : Exa Z h0 a "com/example/wyrd/wyrd/hoa/Tokens$Token") (F_k : Fld Z h0 a "com/example/wyrd/wyrd/hoa/Tokens$Token" "kind" "Lcom/example/wyrd/wyrd/hoa/Tokens$Kind;" (.ref (kx i))) (F_t : Fld Z h0 a "com/example/wyrd/wyrd/hoa/Tokens$Token" "text" "Ljava/lang/String;" (.ref x)) (O1 : OStr Z h0 x (own_cs n1 c0 c1 c2)) (O2 : OStr Z h0 y (own_cs n2 d0 d1 d2)) (hcs : cells ≤ 10) (hss : slots ≤ 30) (hex : (ex = 1 ∧ i = j ∧ (own_cs n1 c0 c1 c2) = (own_cs n2 d0 d1 d2)) ∨ (ex = 0 ∧ ¬ (i = j ∧ (own_cs n1 c0 c1 c2) = (own_cs n2 d0 d1 d2)))) :
    OFin p e below s room_1.cells room_1.slots (fun v h L => v = some (.int (1 : Int32)) ∧ Fr n0 L ∧ nI ≤ h.size) (T0.setTop (mkF m 239 #[.val (.int p1), .val (.int p2), .val (.int p3), .val (.int p4), .val (.int p5), .val (.int p6), .val (.int i), .val (.int j), .val (.int bb), .val (.int n1), .val (.int c0), .val (.int c1), .val (.int c2), .val (.int n2), .val (.int d0), .val (.int d1), .val (.int d2), .val (.ref x), .val (.ref y), .val (.ref a), .val (.int b20), .val (.int ex)] [])) := by
  have hC0 := hC
  obtain ⟨hx, hZ, hby, hml, hown, hret, hlk, hnm⟩ := hC
  replace X0 := X0.mono hcs hss
  refine own_st (fun _ kS => XS.aload X0.here hx rfl (hb hby at_239) rfl rfl kS) ?_
  show OFin p e below s _ _ _ (T0.setTop (mkF m 241 #[.val (.int p1), .val (.int p2), .val (.int p3), .val (.int p4), .val (.int p5), .val (.int p6), .val (.int i), .val (.int j), .val (.int bb), .val (.int n1), .val (.int c0), .val (.int c1), .val (.int c2), .val (.int n2), .val (.int d0), .val (.int d1), .val (.int d2), .val (.ref x), .val (.ref y), .val (.ref a), .val (.int b20), .val (.int ex)] [(.ref a)]))
  refine own_st (fun _ kS => XS.iload X0.here hx rfl (hb hby at_241) rfl kS) ?_
  show OFin p e below s _ _ _ (T0.setTop (mkF m 243 #[.val (.int p1), .val (.int p2), .val (.int p3), .val (.int p4), .val (.int p5), .val (.int p6), .val (.int i), .val (.int j), .val (.int bb), .val (.int n1), .val (.int c0), .val (.int c1), .val (.int c2), .val (.int n2), .val (.int d0), .val (.int d1), .val (.int d2), .val (.ref x), .val (.ref y), .val (.ref a), .val (.int b20), .val (.int ex)] [(.int j), (.ref a)]))
  obtain ⟨v127, T127, L127, X127, hQ127, st127⟩ := own_static X0 hx hZ (y := (⟨"com/example/wyrd/wyrd/hoa/TokenIsPinLaw", "kind", "(I)Lcom/example/wyrd/wyrd/hoa/Tokens$Kind;"⟩ : MethodName)) (rm := ⟨0, 0, 0, 0⟩) (W := 1) (argsL := [(.int j)]) (rest := [(.ref a)]) hown (own_w hw 37 rfl) (own_w hw 38 rfl) (own_w hw 2 rfl) (own_w hw 39 rfl) (rmKi l Z a0 hw j h0 n0 kx S_0 S_1 S_2 S_3 S_4 S_5 S_6 S_7 O hj) e0 (g := (mkF m 243 #[.val (.int p1), .val (.int p2), .val (.int p3), .val (.int p4), .val (.int p5), .val (.int p6), .val (.int i), .val (.int j), .val (.int bb), .val (.int n1), .val (.int c0), .val (.int c1), .val (.int c2), .val (.int n2), .val (.int d0), .val (.int d1), .val (.int d2), .val (.ref x), .val (.ref y), .val (.ref a), .val (.int b20), .val (.int ex)] [(.int j), (.ref a)])) rfl (by rw [hml]; rfl) (lenOf own_pd4 rfl) rfl (by show 2 * 0 + _ ≤ _; exact Nat.le_of_eq rfl) (hb hby at_243) (by decide) (by decide) (by decide) (by decide)
  obtain ⟨rfl, e127, rfl⟩ := hQ127
  rw [List.append_nil] at X127
  refine own_st (st127) ?_
  clear st127 X0 e0
  show OFin p e below s _ _ _ (T127.setTop (mkF m 246 #[.val (.int p1), .val (.int p2), .val (.int p3), .val (.int p4), .val (.int p5), .val (.int p6), .val (.int i), .val (.int j), .val (.int bb), .val (.int n1), .val (.int c0), .val (.int c1), .val (.int c2), .val (.int n2), .val (.int d0), .val (.int d1), .val (.int d2), .val (.ref x), .val (.ref y), .val (.ref a), .val (.int b20), .val (.int ex)] [(.ref (kx j)), (.ref a)]))
  refine own_st (fun _ kS => XS.aload X127.here hx rfl (hb hby at_246) rfl rfl kS) ?_
  show OFin p e below s _ _ _ (T127.setTop (mkF m 248 #[.val (.int p1), .val (.int p2), .val (.int p3), .val (.int p4), .val (.int p5), .val (.int p6), .val (.int i), .val (.int j), .val (.int bb), .val (.int n1), .val (.int c0), .val (.int c1), .val (.int c2), .val (.int n2), .val (.int d0), .val (.int d1), .val (.int d2), .val (.ref x), .val (.ref y), .val (.ref a), .val (.int b20), .val (.int ex)] [(.ref y), (.ref (kx j)), (.ref a)]))
  obtain ⟨v128, T128, L128, X128, hQ128, st128⟩ := own_virtual X127 hx hZ (y := (⟨"com/example/wyrd/wyrd/hoa/Tokens$Token", "is", "(Lcom/example/wyrd/wyrd/hoa/Tokens$Kind;Ljava/lang/String;)Z"⟩ : MethodName)) (z := (⟨"com/example/wyrd/wyrd/hoa/Tokens$Token", "is", "(Lcom/example/wyrd/wyrd/hoa/Tokens$Kind;Ljava/lang/String;)Z"⟩ : MethodName)) (rm := ⟨2, 0, 0, 28⟩) (W := 0) (a := a) (argsL := [(.ref (kx j)), (.ref y)]) (rest := []) hown (own_w hw 58 rfl) (own_w hw 59 rfl) (notFace_of_selects (args := #[]) (mvT hZ (own_w hw 61 rfl))) (own_w hw 61 rfl) (own_w hw 60 rfl) (own_w hw 36 rfl) (own_w hw 62 rfl) (rmIs l Z a0 hw a (kx j) y h0 n0 z (kx i) x (own_cs n1 c0 c1 c2) (own_cs n2 d0 d1 d2) F_k F_t O1 O2 (own_csr r0 r1 r2) (own_csr s0 s1 s2) (own_csl _ _ _ _) (own_csl _ _ _ _) S_c hz O) e127 E_a (g := (mkF m 248 #[.val (.int p1), .val (.int p2), .val (.int p3), .val (.int p4), .val (.int p5), .val (.int p6), .val (.int i), .val (.int j), .val (.int bb), .val (.int n1), .val (.int c0), .val (.int c1), .val (.int c2), .val (.int n2), .val (.int d0), .val (.int d1), .val (.int d2), .val (.ref x), .val (.ref y), .val (.ref a), .val (.int b20), .val (.int ex)] [(.ref y), (.ref (kx j)), (.ref a)])) rfl (by rw [hml]; rfl) (lenOf own_pd5 rfl) rfl (by show 2 * 0 + _ ≤ _; exact Nat.le_of_eq rfl) (hb hby at_248) (by decide) (by decide) (by decide) (by decide)
  obtain ⟨⟨r, rfl, hr⟩, e128, rfl⟩ := hQ128
  rw [List.append_nil] at X128
  refine own_st (st128) ?_
  clear st128 X127 e127
  show OFin p e below s _ _ _ (T128.setTop (mkF m 251 #[.val (.int p1), .val (.int p2), .val (.int p3), .val (.int p4), .val (.int p5), .val (.int p6), .val (.int i), .val (.int j), .val (.int bb), .val (.int n1), .val (.int c0), .val (.int c1), .val (.int c2), .val (.int n2), .val (.int d0), .val (.int d1), .val (.int d2), .val (.ref x), .val (.ref y), .val (.ref a), .val (.int b20), .val (.int ex)] [(.int r)]))
  have hk : kx i = kx j ↔ i = j := ⟨fun q => Classical.byContradiction fun c => Fld.ne (hO i hi) (hO j hj) (fun v => c (Value.int.inj v)) q, fun q => by rw [q]⟩
  have hre : r = ex := by rcases hr with ⟨rfl, q1, q2⟩ | ⟨rfl, q1⟩ <;> rcases hex with ⟨rfl, q3, q4⟩ | ⟨rfl, q3⟩ <;> first | rfl | exact absurd ⟨hk.1 q1, q2⟩ q3 | exact absurd ⟨hk.2 q3, q4⟩ q1
  refine own_st (fun _ kS => XS.iload X128.here hx rfl (hb hby at_251) rfl kS) ?_
  show OFin p e below s _ _ _ (T128.setTop (mkF m 253 #[.val (.int p1), .val (.int p2), .val (.int p3), .val (.int p4), .val (.int p5), .val (.int p6), .val (.int i), .val (.int j), .val (.int bb), .val (.int n1), .val (.int c0), .val (.int c1), .val (.int c2), .val (.int n2), .val (.int d0), .val (.int d1), .val (.int d2), .val (.ref x), .val (.ref y), .val (.ref a), .val (.int b20), .val (.int ex)] [(.int ex), (.int r)]))
  refine own_st (fun _ kS => XS.icmpNo X128.here hx rfl (hb hby at_253) rfl (teq hre).2 kS) ?_
  show OFin p e below s _ _ _ (T128.setTop (mkF m 256 #[.val (.int p1), .val (.int p2), .val (.int p3), .val (.int p4), .val (.int p5), .val (.int p6), .val (.int i), .val (.int j), .val (.int bb), .val (.int n1), .val (.int c0), .val (.int c1), .val (.int c2), .val (.int n2), .val (.int d0), .val (.int d1), .val (.int d2), .val (.ref x), .val (.ref y), .val (.ref a), .val (.int b20), .val (.int ex)] []))
  refine own_st (fun _ kS => XS.iconst X128.here hx rfl (hb hby at_256) kS) ?_
  show OFin p e below s _ _ _ (T128.setTop (mkF m 257 #[.val (.int p1), .val (.int p2), .val (.int p3), .val (.int p4), .val (.int p5), .val (.int p6), .val (.int i), .val (.int j), .val (.int bb), .val (.int n1), .val (.int c0), .val (.int c1), .val (.int c2), .val (.int n2), .val (.int d0), .val (.int d1), .val (.int d2), .val (.ref x), .val (.ref y), .val (.ref a), .val (.int b20), .val (.int ex)] [(.int (1 : Int32))]))
  refine own_st (fun _ kS => XS.goto X128.here hx rfl (pc0 := 257) (pc' := 261) rfl (hb hby at_257) (by decide) (by decide) kS) ?_
  show OFin p e below s _ _ _ (T128.setTop (mkF m 261 #[.val (.int p1), .val (.int p2), .val (.int p3), .val (.int p4), .val (.int p5), .val (.int p6), .val (.int i), .val (.int j), .val (.int bb), .val (.int n1), .val (.int c0), .val (.int c1), .val (.int c2), .val (.int n2), .val (.int d0), .val (.int d1), .val (.int d2), .val (.ref x), .val (.ref y), .val (.ref a), .val (.int b20), .val (.int ex)] [(.int (1 : Int32))]))
  exact own_ret X128 hx (t := .boolean) hret hlk rfl (Or.inl ⟨rfl, by simp, _, rfl⟩) (hb hby at_261) (by decide) (by decide) ⟨rfl, N0, by rw [e128]; exact hnI⟩
set_option maxRecDepth 65536 in
set_option maxHeartbeats 40000000 in
theorem own_t5 {l : Launch} {Z : State} {a0 : Array Value} (hw : ∀ d ∈ tables_1, d.before a0 Z = true) {p : Program} {e : Env} {s : State} {m : MethodId} {args : Array Value} {below : List Frame} {meth : Method} {c : Code} (hC : OCtx Z p s m meth c "com/example/wyrd/wyrd/hoa/TokenIsPinLaw" "law" code maxLocals ret) {T0 : State} {locs : List Loc} {cells slots : Nat} (X0 : Stand p l e room_1 s m args below meth c T0 locs cells slots) {h0 : Heap} (e0 : T0.heap = h0) (p1 p2 p3 p4 p5 p6 i j bb n1 c0 c1 c2 n2 d0 d1 d2 : Int32) (x y a : Addr) (b20 : Int32) (n0 nI : Nat) (z : Int32) (kx : Int32 → Addr) (S_0 : Sta Z Z.heap "com/example/wyrd/wyrd/hoa/Tokens$Kind" "HEADER" "Lcom/example/wyrd/wyrd/hoa/Tokens$Kind;" (.ref (kx 0))) (S_1 : Sta Z Z.heap "com/example/wyrd/wyrd/hoa/Tokens$Kind" "IDENTIFIER" "Lcom/example/wyrd/wyrd/hoa/Tokens$Kind;" (.ref (kx 1))) (S_2 : Sta Z Z.heap "com/example/wyrd/wyrd/hoa/Tokens$Kind" "INTEGER" "Lcom/example/wyrd/wyrd/hoa/Tokens$Kind;" (.ref (kx 2))) (S_3 : Sta Z Z.heap "com/example/wyrd/wyrd/hoa/Tokens$Kind" "STRING" "Lcom/example/wyrd/wyrd/hoa/Tokens$Kind;" (.ref (kx 3))) (S_4 : Sta Z Z.heap "com/example/wyrd/wyrd/hoa/Tokens$Kind" "ALIAS" "Lcom/example/wyrd/wyrd/hoa/Tokens$Kind;" (.ref (kx 4))) (S_5 : Sta Z Z.heap "com/example/wyrd/wyrd/hoa/Tokens$Kind" "PUNCTUATION" "Lcom/example/wyrd/wyrd/hoa/Tokens$Kind;" (.ref (kx 5))) (S_6 : Sta Z Z.heap "com/example/wyrd/wyrd/hoa/Tokens$Kind" "SEPARATOR" "Lcom/example/wyrd/wyrd/hoa/Tokens$Kind;" (.ref (kx 6))) (S_7 : Sta Z Z.heap "com/example/wyrd/wyrd/hoa/Tokens$Kind" "END_OF_TEXT" "Lcom/example/wyrd/wyrd/hoa/Tokens$Kind;" (.ref (kx 7))) (hO : ∀ k : Int32, (k = 0 ∨ k = 1 ∨ k = 2 ∨ k = 3 ∨ k = 4 ∨ k = 5 ∨ k = 6 ∨ k = 7) → Fld Z Z.heap (kx k) "java/lang/Enum" "ordinal" "I" (.int k)) (hi : i = 0 ∨ i = 1 ∨ i = 2 ∨ i = 3 ∨ i = 4 ∨ i = 5 ∨ i = 6 ∨ i = 7) (hj : j = 0 ∨ j = 1 ∨ j = 2 ∨ j = 3 ∨ j = 4 ∨ j = 5 ∨ j = 6 ∨ j = 7) (hn1 : n1 = 0 ∨ n1 = 1 ∨ n1 = 2 ∨ n1 = 3) (hn2 : n2 = 0 ∨ n2 = 1 ∨ n2 = 2 ∨ n2 = 3) (r0 : 0 ≤ c0.toInt ∧ c0.toInt ≤ 255) (r1 : 0 ≤ c1.toInt ∧ c1.toInt ≤ 255) (r2 : 0 ≤ c2.toInt ∧ c2.toInt ≤ 255) (s0 : 0 ≤ d0.toInt ∧ d0.toInt ≤ 255) (s1 : 0 ≤ d1.toInt ∧ d1.toInt ≤ 255) (s2 : 0 ≤ d2.toInt ∧ d2.toInt ≤ 255) (hnI : nI ≤ h0.size) (Z0 : n0 ≤ h0.size) (N0 : Fr n0 locs) (S_c : Sta Z Z.heap "java/lang/String" "COMPACT_STRINGS" "Z" (.int z)) (hz : ¬ z = 0) (O : Old Z n0 h0) (E_a : Exa Z h0 a "com/example/wyrd/wyrd/hoa/Tokens$Token") (F_k : Fld Z h0 a "com/example/wyrd/wyrd/hoa/Tokens$Token" "kind" "Lcom/example/wyrd/wyrd/hoa/Tokens$Kind;" (.ref (kx i))) (F_t : Fld Z h0 a "com/example/wyrd/wyrd/hoa/Tokens$Token" "text" "Ljava/lang/String;" (.ref x)) (O1 : OStr Z h0 x (own_cs n1 c0 c1 c2)) (O2 : OStr Z h0 y (own_cs n2 d0 d1 d2)) (hcs : cells ≤ 10) (hss : slots ≤ 30) (hbb : (b20 = 1 ∧ (own_cs n1 c0 c1 c2) = (own_cs n2 d0 d1 d2)) ∨ (b20 = 0 ∧ ¬ (own_cs n1 c0 c1 c2) = (own_cs n2 d0 d1 d2))) :
    OFin p e below s room_1.cells room_1.slots (fun v h L => v = some (.int (1 : Int32)) ∧ Fr n0 L ∧ nI ≤ h.size) (T0.setTop (mkF m 218 #[.val (.int p1), .val (.int p2), .val (.int p3), .val (.int p4), .val (.int p5), .val (.int p6), .val (.int i), .val (.int j), .val (.int bb), .val (.int n1), .val (.int c0), .val (.int c1), .val (.int c2), .val (.int n2), .val (.int d0), .val (.int d1), .val (.int d2), .val (.ref x), .val (.ref y), .val (.ref a), .unset, .unset] [(.int b20)])) := by
  have hC0 := hC
  obtain ⟨hx, hZ, hby, hml, hown, hret, hlk, hnm⟩ := hC
  refine own_st (fun _ kS => XS.istore X0.here hx rfl (hb hby at_218) rfl (l' := #[.val (.int p1), .val (.int p2), .val (.int p3), .val (.int p4), .val (.int p5), .val (.int p6), .val (.int i), .val (.int j), .val (.int bb), .val (.int n1), .val (.int c0), .val (.int c1), .val (.int c2), .val (.int n2), .val (.int d0), .val (.int d1), .val (.int d2), .val (.ref x), .val (.ref y), .val (.ref a), .val (.int b20), .unset]) rfl kS) ?_
  show OFin p e below s _ _ _ (T0.setTop (mkF m 220 #[.val (.int p1), .val (.int p2), .val (.int p3), .val (.int p4), .val (.int p5), .val (.int p6), .val (.int i), .val (.int j), .val (.int bb), .val (.int n1), .val (.int c0), .val (.int c1), .val (.int c2), .val (.int n2), .val (.int d0), .val (.int d1), .val (.int d2), .val (.ref x), .val (.ref y), .val (.ref a), .val (.int b20), .unset] []))
  refine own_st (fun _ kS => XS.iload X0.here hx rfl (hb hby at_220) rfl kS) ?_
  show OFin p e below s _ _ _ (T0.setTop (mkF m 222 #[.val (.int p1), .val (.int p2), .val (.int p3), .val (.int p4), .val (.int p5), .val (.int p6), .val (.int i), .val (.int j), .val (.int bb), .val (.int n1), .val (.int c0), .val (.int c1), .val (.int c2), .val (.int n2), .val (.int d0), .val (.int d1), .val (.int d2), .val (.ref x), .val (.ref y), .val (.ref a), .val (.int b20), .unset] [(.int i)]))
  refine own_st (fun _ kS => XS.iload X0.here hx rfl (hb hby at_222) rfl kS) ?_
  show OFin p e below s _ _ _ (T0.setTop (mkF m 224 #[.val (.int p1), .val (.int p2), .val (.int p3), .val (.int p4), .val (.int p5), .val (.int p6), .val (.int i), .val (.int j), .val (.int bb), .val (.int n1), .val (.int c0), .val (.int c1), .val (.int c2), .val (.int n2), .val (.int d0), .val (.int d1), .val (.int d2), .val (.ref x), .val (.ref y), .val (.ref a), .val (.int b20), .unset] [(.int j), (.int i)]))
  by_cases c7 : i = j
  · refine own_st (fun _ kS => XS.icmpNo X0.here hx rfl (hb hby at_224) rfl (teq c7).2 kS) ?_
    show OFin p e below s _ _ _ (T0.setTop (mkF m 227 #[.val (.int p1), .val (.int p2), .val (.int p3), .val (.int p4), .val (.int p5), .val (.int p6), .val (.int i), .val (.int j), .val (.int bb), .val (.int n1), .val (.int c0), .val (.int c1), .val (.int c2), .val (.int n2), .val (.int d0), .val (.int d1), .val (.int d2), .val (.ref x), .val (.ref y), .val (.ref a), .val (.int b20), .unset] []))
    refine own_st (fun _ kS => XS.iload X0.here hx rfl (hb hby at_227) rfl kS) ?_
    show OFin p e below s _ _ _ (T0.setTop (mkF m 229 #[.val (.int p1), .val (.int p2), .val (.int p3), .val (.int p4), .val (.int p5), .val (.int p6), .val (.int i), .val (.int j), .val (.int bb), .val (.int n1), .val (.int c0), .val (.int c1), .val (.int c2), .val (.int n2), .val (.int d0), .val (.int d1), .val (.int d2), .val (.ref x), .val (.ref y), .val (.ref a), .val (.int b20), .unset] [(.int b20)]))
    by_cases c8 : b20 = (0 : Int32)
    · refine own_st (fun _ kS => XS.ifYes X0.here hx rfl (pc0 := 229) (pc' := 236) rfl (hb hby at_229) rfl ((if0 _ _).trans (teq c8).1) (by decide) (by decide) kS) ?_
      show OFin p e below s _ _ _ (T0.setTop (mkF m 236 #[.val (.int p1), .val (.int p2), .val (.int p3), .val (.int p4), .val (.int p5), .val (.int p6), .val (.int i), .val (.int j), .val (.int bb), .val (.int n1), .val (.int c0), .val (.int c1), .val (.int c2), .val (.int n2), .val (.int d0), .val (.int d1), .val (.int d2), .val (.ref x), .val (.ref y), .val (.ref a), .val (.int b20), .unset] []))
      refine own_st (fun _ kS => XS.iconst X0.here hx rfl (hb hby at_236) kS) ?_
      show OFin p e below s _ _ _ (T0.setTop (mkF m 237 #[.val (.int p1), .val (.int p2), .val (.int p3), .val (.int p4), .val (.int p5), .val (.int p6), .val (.int i), .val (.int j), .val (.int bb), .val (.int n1), .val (.int c0), .val (.int c1), .val (.int c2), .val (.int n2), .val (.int d0), .val (.int d1), .val (.int d2), .val (.ref x), .val (.ref y), .val (.ref a), .val (.int b20), .unset] [(.int (0 : Int32))]))
      refine own_st (fun _ kS => XS.istore X0.here hx rfl (hb hby at_237) rfl (l' := #[.val (.int p1), .val (.int p2), .val (.int p3), .val (.int p4), .val (.int p5), .val (.int p6), .val (.int i), .val (.int j), .val (.int bb), .val (.int n1), .val (.int c0), .val (.int c1), .val (.int c2), .val (.int n2), .val (.int d0), .val (.int d1), .val (.int d2), .val (.ref x), .val (.ref y), .val (.ref a), .val (.int b20), .val (.int (0 : Int32))]) rfl kS) ?_
      show OFin p e below s _ _ _ (T0.setTop (mkF m 239 #[.val (.int p1), .val (.int p2), .val (.int p3), .val (.int p4), .val (.int p5), .val (.int p6), .val (.int i), .val (.int j), .val (.int bb), .val (.int n1), .val (.int c0), .val (.int c1), .val (.int c2), .val (.int n2), .val (.int d0), .val (.int d1), .val (.int d2), .val (.ref x), .val (.ref y), .val (.ref a), .val (.int b20), .val (.int (0 : Int32))] []))
      exact own_t6 hw hC0 X0 e0 p1 p2 p3 p4 p5 p6 i j bb n1 c0 c1 c2 n2 d0 d1 d2 x y a b20 0 n0 nI z kx S_0 S_1 S_2 S_3 S_4 S_5 S_6 S_7 hO hi hj hn1 hn2 r0 r1 r2 s0 s1 s2 hnI Z0 N0 S_c hz O E_a F_k F_t O1 O2 hcs hss (Or.inr ⟨rfl, fun q => by rcases hbb with ⟨h1, h2⟩ | ⟨h1, h2⟩; exact absurd (h1.symm.trans c8) (by decide); exact h2 q.2⟩)
    · refine own_st (fun _ kS => XS.ifNo X0.here hx rfl (hb hby at_229) rfl ((if0 _ _).trans (feq c8).1) kS) ?_
      show OFin p e below s _ _ _ (T0.setTop (mkF m 232 #[.val (.int p1), .val (.int p2), .val (.int p3), .val (.int p4), .val (.int p5), .val (.int p6), .val (.int i), .val (.int j), .val (.int bb), .val (.int n1), .val (.int c0), .val (.int c1), .val (.int c2), .val (.int n2), .val (.int d0), .val (.int d1), .val (.int d2), .val (.ref x), .val (.ref y), .val (.ref a), .val (.int b20), .unset] []))
      refine own_st (fun _ kS => XS.iconst X0.here hx rfl (hb hby at_232) kS) ?_
      show OFin p e below s _ _ _ (T0.setTop (mkF m 233 #[.val (.int p1), .val (.int p2), .val (.int p3), .val (.int p4), .val (.int p5), .val (.int p6), .val (.int i), .val (.int j), .val (.int bb), .val (.int n1), .val (.int c0), .val (.int c1), .val (.int c2), .val (.int n2), .val (.int d0), .val (.int d1), .val (.int d2), .val (.ref x), .val (.ref y), .val (.ref a), .val (.int b20), .unset] [(.int (1 : Int32))]))
      refine own_st (fun _ kS => XS.goto X0.here hx rfl (pc0 := 233) (pc' := 237) rfl (hb hby at_233) (by decide) (by decide) kS) ?_
      show OFin p e below s _ _ _ (T0.setTop (mkF m 237 #[.val (.int p1), .val (.int p2), .val (.int p3), .val (.int p4), .val (.int p5), .val (.int p6), .val (.int i), .val (.int j), .val (.int bb), .val (.int n1), .val (.int c0), .val (.int c1), .val (.int c2), .val (.int n2), .val (.int d0), .val (.int d1), .val (.int d2), .val (.ref x), .val (.ref y), .val (.ref a), .val (.int b20), .unset] [(.int (1 : Int32))]))
      refine own_st (fun _ kS => XS.istore X0.here hx rfl (hb hby at_237) rfl (l' := #[.val (.int p1), .val (.int p2), .val (.int p3), .val (.int p4), .val (.int p5), .val (.int p6), .val (.int i), .val (.int j), .val (.int bb), .val (.int n1), .val (.int c0), .val (.int c1), .val (.int c2), .val (.int n2), .val (.int d0), .val (.int d1), .val (.int d2), .val (.ref x), .val (.ref y), .val (.ref a), .val (.int b20), .val (.int (1 : Int32))]) rfl kS) ?_
      show OFin p e below s _ _ _ (T0.setTop (mkF m 239 #[.val (.int p1), .val (.int p2), .val (.int p3), .val (.int p4), .val (.int p5), .val (.int p6), .val (.int i), .val (.int j), .val (.int bb), .val (.int n1), .val (.int c0), .val (.int c1), .val (.int c2), .val (.int n2), .val (.int d0), .val (.int d1), .val (.int d2), .val (.ref x), .val (.ref y), .val (.ref a), .val (.int b20), .val (.int (1 : Int32))] []))
      exact own_t6 hw hC0 X0 e0 p1 p2 p3 p4 p5 p6 i j bb n1 c0 c1 c2 n2 d0 d1 d2 x y a b20 1 n0 nI z kx S_0 S_1 S_2 S_3 S_4 S_5 S_6 S_7 hO hi hj hn1 hn2 r0 r1 r2 s0 s1 s2 hnI Z0 N0 S_c hz O E_a F_k F_t O1 O2 hcs hss (Or.inl ⟨rfl, c7, by rcases hbb with ⟨h1, h2⟩ | ⟨h1, h2⟩; exact h2; exact absurd h1 c8⟩)
  · refine own_st (fun _ kS => XS.icmpYes X0.here hx rfl (pc0 := 224) (pc' := 236) rfl (hb hby at_224) rfl (feq c7).2 (by decide) (by decide) kS) ?_
    show OFin p e below s _ _ _ (T0.setTop (mkF m 236 #[.val (.int p1), .val (.int p2), .val (.int p3), .val (.int p4), .val (.int p5), .val (.int p6), .val (.int i), .val (.int j), .val (.int bb), .val (.int n1), .val (.int c0), .val (.int c1), .val (.int c2), .val (.int n2), .val (.int d0), .val (.int d1), .val (.int d2), .val (.ref x), .val (.ref y), .val (.ref a), .val (.int b20), .unset] []))
    refine own_st (fun _ kS => XS.iconst X0.here hx rfl (hb hby at_236) kS) ?_
    show OFin p e below s _ _ _ (T0.setTop (mkF m 237 #[.val (.int p1), .val (.int p2), .val (.int p3), .val (.int p4), .val (.int p5), .val (.int p6), .val (.int i), .val (.int j), .val (.int bb), .val (.int n1), .val (.int c0), .val (.int c1), .val (.int c2), .val (.int n2), .val (.int d0), .val (.int d1), .val (.int d2), .val (.ref x), .val (.ref y), .val (.ref a), .val (.int b20), .unset] [(.int (0 : Int32))]))
    refine own_st (fun _ kS => XS.istore X0.here hx rfl (hb hby at_237) rfl (l' := #[.val (.int p1), .val (.int p2), .val (.int p3), .val (.int p4), .val (.int p5), .val (.int p6), .val (.int i), .val (.int j), .val (.int bb), .val (.int n1), .val (.int c0), .val (.int c1), .val (.int c2), .val (.int n2), .val (.int d0), .val (.int d1), .val (.int d2), .val (.ref x), .val (.ref y), .val (.ref a), .val (.int b20), .val (.int (0 : Int32))]) rfl kS) ?_
    show OFin p e below s _ _ _ (T0.setTop (mkF m 239 #[.val (.int p1), .val (.int p2), .val (.int p3), .val (.int p4), .val (.int p5), .val (.int p6), .val (.int i), .val (.int j), .val (.int bb), .val (.int n1), .val (.int c0), .val (.int c1), .val (.int c2), .val (.int n2), .val (.int d0), .val (.int d1), .val (.int d2), .val (.ref x), .val (.ref y), .val (.ref a), .val (.int b20), .val (.int (0 : Int32))] []))
    exact own_t6 hw hC0 X0 e0 p1 p2 p3 p4 p5 p6 i j bb n1 c0 c1 c2 n2 d0 d1 d2 x y a b20 0 n0 nI z kx S_0 S_1 S_2 S_3 S_4 S_5 S_6 S_7 hO hi hj hn1 hn2 r0 r1 r2 s0 s1 s2 hnI Z0 N0 S_c hz O E_a F_k F_t O1 O2 hcs hss (Or.inr ⟨rfl, fun q => c7 q.1⟩)
set_option maxRecDepth 65536 in
set_option maxHeartbeats 40000000 in
theorem own_u2 {l : Launch} {Z : State} {a0 : Array Value} (hw : ∀ d ∈ tables_1, d.before a0 Z = true) {p : Program} {e : Env} {s : State} {m : MethodId} {args : Array Value} {below : List Frame} {meth : Method} {c : Code} (hC : OCtx Z p s m meth c "com/example/wyrd/wyrd/hoa/TokenIsPinLaw" "law" code maxLocals ret) {T0 : State} {locs : List Loc} {cells slots : Nat} (X0 : Stand p l e room_1 s m args below meth c T0 locs cells slots) {h0 : Heap} (e0 : T0.heap = h0) (p1 p2 p3 p4 p5 p6 i j bb n1 c0 c1 c2 n2 d0 d1 d2 : Int32) (x y a : Addr)  (n0 nI : Nat) (z : Int32) (kx : Int32 → Addr) (S_0 : Sta Z Z.heap "com/example/wyrd/wyrd/hoa/Tokens$Kind" "HEADER" "Lcom/example/wyrd/wyrd/hoa/Tokens$Kind;" (.ref (kx 0))) (S_1 : Sta Z Z.heap "com/example/wyrd/wyrd/hoa/Tokens$Kind" "IDENTIFIER" "Lcom/example/wyrd/wyrd/hoa/Tokens$Kind;" (.ref (kx 1))) (S_2 : Sta Z Z.heap "com/example/wyrd/wyrd/hoa/Tokens$Kind" "INTEGER" "Lcom/example/wyrd/wyrd/hoa/Tokens$Kind;" (.ref (kx 2))) (S_3 : Sta Z Z.heap "com/example/wyrd/wyrd/hoa/Tokens$Kind" "STRING" "Lcom/example/wyrd/wyrd/hoa/Tokens$Kind;" (.ref (kx 3))) (S_4 : Sta Z Z.heap "com/example/wyrd/wyrd/hoa/Tokens$Kind" "ALIAS" "Lcom/example/wyrd/wyrd/hoa/Tokens$Kind;" (.ref (kx 4))) (S_5 : Sta Z Z.heap "com/example/wyrd/wyrd/hoa/Tokens$Kind" "PUNCTUATION" "Lcom/example/wyrd/wyrd/hoa/Tokens$Kind;" (.ref (kx 5))) (S_6 : Sta Z Z.heap "com/example/wyrd/wyrd/hoa/Tokens$Kind" "SEPARATOR" "Lcom/example/wyrd/wyrd/hoa/Tokens$Kind;" (.ref (kx 6))) (S_7 : Sta Z Z.heap "com/example/wyrd/wyrd/hoa/Tokens$Kind" "END_OF_TEXT" "Lcom/example/wyrd/wyrd/hoa/Tokens$Kind;" (.ref (kx 7))) (hO : ∀ k : Int32, (k = 0 ∨ k = 1 ∨ k = 2 ∨ k = 3 ∨ k = 4 ∨ k = 5 ∨ k = 6 ∨ k = 7) → Fld Z Z.heap (kx k) "java/lang/Enum" "ordinal" "I" (.int k)) (hi : i = 0 ∨ i = 1 ∨ i = 2 ∨ i = 3 ∨ i = 4 ∨ i = 5 ∨ i = 6 ∨ i = 7) (hj : j = 0 ∨ j = 1 ∨ j = 2 ∨ j = 3 ∨ j = 4 ∨ j = 5 ∨ j = 6 ∨ j = 7) (hn1 : n1 = 0 ∨ n1 = 1 ∨ n1 = 2 ∨ n1 = 3) (hn2 : n2 = 0 ∨ n2 = 1 ∨ n2 = 2 ∨ n2 = 3) (r0 : 0 ≤ c0.toInt ∧ c0.toInt ≤ 255) (r1 : 0 ≤ c1.toInt ∧ c1.toInt ≤ 255) (r2 : 0 ≤ c2.toInt ∧ c2.toInt ≤ 255) (s0 : 0 ≤ d0.toInt ∧ d0.toInt ≤ 255) (s1 : 0 ≤ d1.toInt ∧ d1.toInt ≤ 255) (s2 : 0 ≤ d2.toInt ∧ d2.toInt ≤ 255) (hnI : nI ≤ h0.size) (Z0 : n0 ≤ h0.size) (N0 : Fr n0 locs) (S_c : Sta Z Z.heap "java/lang/String" "COMPACT_STRINGS" "Z" (.int z)) (hz : ¬ z = 0) (O : Old Z n0 h0) (E_a : Exa Z h0 a "com/example/wyrd/wyrd/hoa/Tokens$Token") (F_k : Fld Z h0 a "com/example/wyrd/wyrd/hoa/Tokens$Token" "kind" "Lcom/example/wyrd/wyrd/hoa/Tokens$Kind;" (.ref (kx i))) (F_t : Fld Z h0 a "com/example/wyrd/wyrd/hoa/Tokens$Token" "text" "Ljava/lang/String;" (.ref x)) (O1 : OStr Z h0 x (own_cs n1 c0 c1 c2)) (O2 : OStr Z h0 y (own_cs n2 d0 d1 d2)) (hcs : cells ≤ 10) (hss : slots ≤ 30) (gn : n1 = n2) (g0 : n1 < 1 ∨ c0 = d0) (g1 : n1 < 2 ∨ c1 = d1) :
    OFin p e below s room_1.cells room_1.slots (fun v h L => v = some (.int (1 : Int32)) ∧ Fr n0 L ∧ nI ≤ h.size) (T0.setTop (mkF m 200 #[.val (.int p1), .val (.int p2), .val (.int p3), .val (.int p4), .val (.int p5), .val (.int p6), .val (.int i), .val (.int j), .val (.int bb), .val (.int n1), .val (.int c0), .val (.int c1), .val (.int c2), .val (.int n2), .val (.int d0), .val (.int d1), .val (.int d2), .val (.ref x), .val (.ref y), .val (.ref a), .unset, .unset] [])) := by
  have hC0 := hC
  obtain ⟨hx, hZ, hby, hml, hown, hret, hlk, hnm⟩ := hC
  refine own_st (fun _ kS => XS.iload X0.here hx rfl (hb hby at_200) rfl kS) ?_
  show OFin p e below s _ _ _ (T0.setTop (mkF m 202 #[.val (.int p1), .val (.int p2), .val (.int p3), .val (.int p4), .val (.int p5), .val (.int p6), .val (.int i), .val (.int j), .val (.int bb), .val (.int n1), .val (.int c0), .val (.int c1), .val (.int c2), .val (.int n2), .val (.int d0), .val (.int d1), .val (.int d2), .val (.ref x), .val (.ref y), .val (.ref a), .unset, .unset] [(.int n1)]))
  refine own_st (fun _ kS => XS.iconst X0.here hx rfl (hb hby at_202) kS) ?_
  show OFin p e below s _ _ _ (T0.setTop (mkF m 203 #[.val (.int p1), .val (.int p2), .val (.int p3), .val (.int p4), .val (.int p5), .val (.int p6), .val (.int i), .val (.int j), .val (.int bb), .val (.int n1), .val (.int c0), .val (.int c1), .val (.int c2), .val (.int n2), .val (.int d0), .val (.int d1), .val (.int d2), .val (.ref x), .val (.ref y), .val (.ref a), .unset, .unset] [(.int (3 : Int32)), (.int n1)]))
  by_cases e1 : n1 < (3 : Int32)
  · refine own_st (fun _ kS => XS.icmpYes X0.here hx rfl (pc0 := 203) (pc' := 213) rfl (hb hby at_203) rfl (tlt e1).1 (by decide) (by decide) kS) ?_
    show OFin p e below s _ _ _ (T0.setTop (mkF m 213 #[.val (.int p1), .val (.int p2), .val (.int p3), .val (.int p4), .val (.int p5), .val (.int p6), .val (.int i), .val (.int j), .val (.int bb), .val (.int n1), .val (.int c0), .val (.int c1), .val (.int c2), .val (.int n2), .val (.int d0), .val (.int d1), .val (.int d2), .val (.ref x), .val (.ref y), .val (.ref a), .unset, .unset] []))
    refine own_st (fun _ kS => XS.iconst X0.here hx rfl (hb hby at_213) kS) ?_
    show OFin p e below s _ _ _ (T0.setTop (mkF m 214 #[.val (.int p1), .val (.int p2), .val (.int p3), .val (.int p4), .val (.int p5), .val (.int p6), .val (.int i), .val (.int j), .val (.int bb), .val (.int n1), .val (.int c0), .val (.int c1), .val (.int c2), .val (.int n2), .val (.int d0), .val (.int d1), .val (.int d2), .val (.ref x), .val (.ref y), .val (.ref a), .unset, .unset] [(.int (1 : Int32))]))
    refine own_st (fun _ kS => XS.goto X0.here hx rfl (pc0 := 214) (pc' := 218) rfl (hb hby at_214) (by decide) (by decide) kS) ?_
    show OFin p e below s _ _ _ (T0.setTop (mkF m 218 #[.val (.int p1), .val (.int p2), .val (.int p3), .val (.int p4), .val (.int p5), .val (.int p6), .val (.int i), .val (.int j), .val (.int bb), .val (.int n1), .val (.int c0), .val (.int c1), .val (.int c2), .val (.int n2), .val (.int d0), .val (.int d1), .val (.int d2), .val (.ref x), .val (.ref y), .val (.ref a), .unset, .unset] [(.int (1 : Int32))]))
    exact own_t5 hw hC0 X0 e0 p1 p2 p3 p4 p5 p6 i j bb n1 c0 c1 c2 n2 d0 d1 d2 x y a 1 n0 nI z kx S_0 S_1 S_2 S_3 S_4 S_5 S_6 S_7 hO hi hj hn1 hn2 r0 r1 r2 s0 s1 s2 hnI Z0 N0 S_c hz O E_a F_k F_t O1 O2 hcs hss (Or.inl ⟨rfl, (own_eq hn1 hn2).2 ⟨gn, g0, g1, (Or.inl e1)⟩⟩)
  · refine own_st (fun _ kS => XS.icmpNo X0.here hx rfl (hb hby at_203) rfl (flt e1).1 kS) ?_
    show OFin p e below s _ _ _ (T0.setTop (mkF m 206 #[.val (.int p1), .val (.int p2), .val (.int p3), .val (.int p4), .val (.int p5), .val (.int p6), .val (.int i), .val (.int j), .val (.int bb), .val (.int n1), .val (.int c0), .val (.int c1), .val (.int c2), .val (.int n2), .val (.int d0), .val (.int d1), .val (.int d2), .val (.ref x), .val (.ref y), .val (.ref a), .unset, .unset] []))
    refine own_st (fun _ kS => XS.iload X0.here hx rfl (hb hby at_206) rfl kS) ?_
    show OFin p e below s _ _ _ (T0.setTop (mkF m 208 #[.val (.int p1), .val (.int p2), .val (.int p3), .val (.int p4), .val (.int p5), .val (.int p6), .val (.int i), .val (.int j), .val (.int bb), .val (.int n1), .val (.int c0), .val (.int c1), .val (.int c2), .val (.int n2), .val (.int d0), .val (.int d1), .val (.int d2), .val (.ref x), .val (.ref y), .val (.ref a), .unset, .unset] [(.int c2)]))
    refine own_st (fun _ kS => XS.iload X0.here hx rfl (hb hby at_208) rfl kS) ?_
    show OFin p e below s _ _ _ (T0.setTop (mkF m 210 #[.val (.int p1), .val (.int p2), .val (.int p3), .val (.int p4), .val (.int p5), .val (.int p6), .val (.int i), .val (.int j), .val (.int bb), .val (.int n1), .val (.int c0), .val (.int c1), .val (.int c2), .val (.int n2), .val (.int d0), .val (.int d1), .val (.int d2), .val (.ref x), .val (.ref y), .val (.ref a), .unset, .unset] [(.int d2), (.int c2)]))
    by_cases e2 : c2 = d2
    · refine own_st (fun _ kS => XS.icmpNo X0.here hx rfl (hb hby at_210) rfl (teq e2).2 kS) ?_
      show OFin p e below s _ _ _ (T0.setTop (mkF m 213 #[.val (.int p1), .val (.int p2), .val (.int p3), .val (.int p4), .val (.int p5), .val (.int p6), .val (.int i), .val (.int j), .val (.int bb), .val (.int n1), .val (.int c0), .val (.int c1), .val (.int c2), .val (.int n2), .val (.int d0), .val (.int d1), .val (.int d2), .val (.ref x), .val (.ref y), .val (.ref a), .unset, .unset] []))
      refine own_st (fun _ kS => XS.iconst X0.here hx rfl (hb hby at_213) kS) ?_
      show OFin p e below s _ _ _ (T0.setTop (mkF m 214 #[.val (.int p1), .val (.int p2), .val (.int p3), .val (.int p4), .val (.int p5), .val (.int p6), .val (.int i), .val (.int j), .val (.int bb), .val (.int n1), .val (.int c0), .val (.int c1), .val (.int c2), .val (.int n2), .val (.int d0), .val (.int d1), .val (.int d2), .val (.ref x), .val (.ref y), .val (.ref a), .unset, .unset] [(.int (1 : Int32))]))
      refine own_st (fun _ kS => XS.goto X0.here hx rfl (pc0 := 214) (pc' := 218) rfl (hb hby at_214) (by decide) (by decide) kS) ?_
      show OFin p e below s _ _ _ (T0.setTop (mkF m 218 #[.val (.int p1), .val (.int p2), .val (.int p3), .val (.int p4), .val (.int p5), .val (.int p6), .val (.int i), .val (.int j), .val (.int bb), .val (.int n1), .val (.int c0), .val (.int c1), .val (.int c2), .val (.int n2), .val (.int d0), .val (.int d1), .val (.int d2), .val (.ref x), .val (.ref y), .val (.ref a), .unset, .unset] [(.int (1 : Int32))]))
      exact own_t5 hw hC0 X0 e0 p1 p2 p3 p4 p5 p6 i j bb n1 c0 c1 c2 n2 d0 d1 d2 x y a 1 n0 nI z kx S_0 S_1 S_2 S_3 S_4 S_5 S_6 S_7 hO hi hj hn1 hn2 r0 r1 r2 s0 s1 s2 hnI Z0 N0 S_c hz O E_a F_k F_t O1 O2 hcs hss (Or.inl ⟨rfl, (own_eq hn1 hn2).2 ⟨gn, g0, g1, (Or.inr e2)⟩⟩)
    · refine own_st (fun _ kS => XS.icmpYes X0.here hx rfl (pc0 := 210) (pc' := 217) rfl (hb hby at_210) rfl (feq e2).2 (by decide) (by decide) kS) ?_
      show OFin p e below s _ _ _ (T0.setTop (mkF m 217 #[.val (.int p1), .val (.int p2), .val (.int p3), .val (.int p4), .val (.int p5), .val (.int p6), .val (.int i), .val (.int j), .val (.int bb), .val (.int n1), .val (.int c0), .val (.int c1), .val (.int c2), .val (.int n2), .val (.int d0), .val (.int d1), .val (.int d2), .val (.ref x), .val (.ref y), .val (.ref a), .unset, .unset] []))
      refine own_st (fun _ kS => XS.iconst X0.here hx rfl (hb hby at_217) kS) ?_
      show OFin p e below s _ _ _ (T0.setTop (mkF m 218 #[.val (.int p1), .val (.int p2), .val (.int p3), .val (.int p4), .val (.int p5), .val (.int p6), .val (.int i), .val (.int j), .val (.int bb), .val (.int n1), .val (.int c0), .val (.int c1), .val (.int c2), .val (.int n2), .val (.int d0), .val (.int d1), .val (.int d2), .val (.ref x), .val (.ref y), .val (.ref a), .unset, .unset] [(.int (0 : Int32))]))
      exact own_t5 hw hC0 X0 e0 p1 p2 p3 p4 p5 p6 i j bb n1 c0 c1 c2 n2 d0 d1 d2 x y a 0 n0 nI z kx S_0 S_1 S_2 S_3 S_4 S_5 S_6 S_7 hO hi hj hn1 hn2 r0 r1 r2 s0 s1 s2 hnI Z0 N0 S_c hz O E_a F_k F_t O1 O2 hcs hss (Or.inr ⟨rfl, fun q => ((own_eq hn1 hn2).1 q).2.2.2.elim e1 e2⟩)
set_option maxRecDepth 65536 in
set_option maxHeartbeats 40000000 in
theorem own_u1 {l : Launch} {Z : State} {a0 : Array Value} (hw : ∀ d ∈ tables_1, d.before a0 Z = true) {p : Program} {e : Env} {s : State} {m : MethodId} {args : Array Value} {below : List Frame} {meth : Method} {c : Code} (hC : OCtx Z p s m meth c "com/example/wyrd/wyrd/hoa/TokenIsPinLaw" "law" code maxLocals ret) {T0 : State} {locs : List Loc} {cells slots : Nat} (X0 : Stand p l e room_1 s m args below meth c T0 locs cells slots) {h0 : Heap} (e0 : T0.heap = h0) (p1 p2 p3 p4 p5 p6 i j bb n1 c0 c1 c2 n2 d0 d1 d2 : Int32) (x y a : Addr)  (n0 nI : Nat) (z : Int32) (kx : Int32 → Addr) (S_0 : Sta Z Z.heap "com/example/wyrd/wyrd/hoa/Tokens$Kind" "HEADER" "Lcom/example/wyrd/wyrd/hoa/Tokens$Kind;" (.ref (kx 0))) (S_1 : Sta Z Z.heap "com/example/wyrd/wyrd/hoa/Tokens$Kind" "IDENTIFIER" "Lcom/example/wyrd/wyrd/hoa/Tokens$Kind;" (.ref (kx 1))) (S_2 : Sta Z Z.heap "com/example/wyrd/wyrd/hoa/Tokens$Kind" "INTEGER" "Lcom/example/wyrd/wyrd/hoa/Tokens$Kind;" (.ref (kx 2))) (S_3 : Sta Z Z.heap "com/example/wyrd/wyrd/hoa/Tokens$Kind" "STRING" "Lcom/example/wyrd/wyrd/hoa/Tokens$Kind;" (.ref (kx 3))) (S_4 : Sta Z Z.heap "com/example/wyrd/wyrd/hoa/Tokens$Kind" "ALIAS" "Lcom/example/wyrd/wyrd/hoa/Tokens$Kind;" (.ref (kx 4))) (S_5 : Sta Z Z.heap "com/example/wyrd/wyrd/hoa/Tokens$Kind" "PUNCTUATION" "Lcom/example/wyrd/wyrd/hoa/Tokens$Kind;" (.ref (kx 5))) (S_6 : Sta Z Z.heap "com/example/wyrd/wyrd/hoa/Tokens$Kind" "SEPARATOR" "Lcom/example/wyrd/wyrd/hoa/Tokens$Kind;" (.ref (kx 6))) (S_7 : Sta Z Z.heap "com/example/wyrd/wyrd/hoa/Tokens$Kind" "END_OF_TEXT" "Lcom/example/wyrd/wyrd/hoa/Tokens$Kind;" (.ref (kx 7))) (hO : ∀ k : Int32, (k = 0 ∨ k = 1 ∨ k = 2 ∨ k = 3 ∨ k = 4 ∨ k = 5 ∨ k = 6 ∨ k = 7) → Fld Z Z.heap (kx k) "java/lang/Enum" "ordinal" "I" (.int k)) (hi : i = 0 ∨ i = 1 ∨ i = 2 ∨ i = 3 ∨ i = 4 ∨ i = 5 ∨ i = 6 ∨ i = 7) (hj : j = 0 ∨ j = 1 ∨ j = 2 ∨ j = 3 ∨ j = 4 ∨ j = 5 ∨ j = 6 ∨ j = 7) (hn1 : n1 = 0 ∨ n1 = 1 ∨ n1 = 2 ∨ n1 = 3) (hn2 : n2 = 0 ∨ n2 = 1 ∨ n2 = 2 ∨ n2 = 3) (r0 : 0 ≤ c0.toInt ∧ c0.toInt ≤ 255) (r1 : 0 ≤ c1.toInt ∧ c1.toInt ≤ 255) (r2 : 0 ≤ c2.toInt ∧ c2.toInt ≤ 255) (s0 : 0 ≤ d0.toInt ∧ d0.toInt ≤ 255) (s1 : 0 ≤ d1.toInt ∧ d1.toInt ≤ 255) (s2 : 0 ≤ d2.toInt ∧ d2.toInt ≤ 255) (hnI : nI ≤ h0.size) (Z0 : n0 ≤ h0.size) (N0 : Fr n0 locs) (S_c : Sta Z Z.heap "java/lang/String" "COMPACT_STRINGS" "Z" (.int z)) (hz : ¬ z = 0) (O : Old Z n0 h0) (E_a : Exa Z h0 a "com/example/wyrd/wyrd/hoa/Tokens$Token") (F_k : Fld Z h0 a "com/example/wyrd/wyrd/hoa/Tokens$Token" "kind" "Lcom/example/wyrd/wyrd/hoa/Tokens$Kind;" (.ref (kx i))) (F_t : Fld Z h0 a "com/example/wyrd/wyrd/hoa/Tokens$Token" "text" "Ljava/lang/String;" (.ref x)) (O1 : OStr Z h0 x (own_cs n1 c0 c1 c2)) (O2 : OStr Z h0 y (own_cs n2 d0 d1 d2)) (hcs : cells ≤ 10) (hss : slots ≤ 30) (gn : n1 = n2) (g0 : n1 < 1 ∨ c0 = d0) :
    OFin p e below s room_1.cells room_1.slots (fun v h L => v = some (.int (1 : Int32)) ∧ Fr n0 L ∧ nI ≤ h.size) (T0.setTop (mkF m 187 #[.val (.int p1), .val (.int p2), .val (.int p3), .val (.int p4), .val (.int p5), .val (.int p6), .val (.int i), .val (.int j), .val (.int bb), .val (.int n1), .val (.int c0), .val (.int c1), .val (.int c2), .val (.int n2), .val (.int d0), .val (.int d1), .val (.int d2), .val (.ref x), .val (.ref y), .val (.ref a), .unset, .unset] [])) := by
  have hC0 := hC
  obtain ⟨hx, hZ, hby, hml, hown, hret, hlk, hnm⟩ := hC
  refine own_st (fun _ kS => XS.iload X0.here hx rfl (hb hby at_187) rfl kS) ?_
  show OFin p e below s _ _ _ (T0.setTop (mkF m 189 #[.val (.int p1), .val (.int p2), .val (.int p3), .val (.int p4), .val (.int p5), .val (.int p6), .val (.int i), .val (.int j), .val (.int bb), .val (.int n1), .val (.int c0), .val (.int c1), .val (.int c2), .val (.int n2), .val (.int d0), .val (.int d1), .val (.int d2), .val (.ref x), .val (.ref y), .val (.ref a), .unset, .unset] [(.int n1)]))
  refine own_st (fun _ kS => XS.iconst X0.here hx rfl (hb hby at_189) kS) ?_
  show OFin p e below s _ _ _ (T0.setTop (mkF m 190 #[.val (.int p1), .val (.int p2), .val (.int p3), .val (.int p4), .val (.int p5), .val (.int p6), .val (.int i), .val (.int j), .val (.int bb), .val (.int n1), .val (.int c0), .val (.int c1), .val (.int c2), .val (.int n2), .val (.int d0), .val (.int d1), .val (.int d2), .val (.ref x), .val (.ref y), .val (.ref a), .unset, .unset] [(.int (2 : Int32)), (.int n1)]))
  by_cases e1 : n1 < (2 : Int32)
  · refine own_st (fun _ kS => XS.icmpYes X0.here hx rfl (pc0 := 190) (pc' := 200) rfl (hb hby at_190) rfl (tlt e1).1 (by decide) (by decide) kS) ?_
    show OFin p e below s _ _ _ (T0.setTop (mkF m 200 #[.val (.int p1), .val (.int p2), .val (.int p3), .val (.int p4), .val (.int p5), .val (.int p6), .val (.int i), .val (.int j), .val (.int bb), .val (.int n1), .val (.int c0), .val (.int c1), .val (.int c2), .val (.int n2), .val (.int d0), .val (.int d1), .val (.int d2), .val (.ref x), .val (.ref y), .val (.ref a), .unset, .unset] []))
    exact own_u2 hw hC0 X0 e0 p1 p2 p3 p4 p5 p6 i j bb n1 c0 c1 c2 n2 d0 d1 d2 x y a n0 nI z kx S_0 S_1 S_2 S_3 S_4 S_5 S_6 S_7 hO hi hj hn1 hn2 r0 r1 r2 s0 s1 s2 hnI Z0 N0 S_c hz O E_a F_k F_t O1 O2 hcs hss gn g0 (Or.inl e1)
  · refine own_st (fun _ kS => XS.icmpNo X0.here hx rfl (hb hby at_190) rfl (flt e1).1 kS) ?_
    show OFin p e below s _ _ _ (T0.setTop (mkF m 193 #[.val (.int p1), .val (.int p2), .val (.int p3), .val (.int p4), .val (.int p5), .val (.int p6), .val (.int i), .val (.int j), .val (.int bb), .val (.int n1), .val (.int c0), .val (.int c1), .val (.int c2), .val (.int n2), .val (.int d0), .val (.int d1), .val (.int d2), .val (.ref x), .val (.ref y), .val (.ref a), .unset, .unset] []))
    refine own_st (fun _ kS => XS.iload X0.here hx rfl (hb hby at_193) rfl kS) ?_
    show OFin p e below s _ _ _ (T0.setTop (mkF m 195 #[.val (.int p1), .val (.int p2), .val (.int p3), .val (.int p4), .val (.int p5), .val (.int p6), .val (.int i), .val (.int j), .val (.int bb), .val (.int n1), .val (.int c0), .val (.int c1), .val (.int c2), .val (.int n2), .val (.int d0), .val (.int d1), .val (.int d2), .val (.ref x), .val (.ref y), .val (.ref a), .unset, .unset] [(.int c1)]))
    refine own_st (fun _ kS => XS.iload X0.here hx rfl (hb hby at_195) rfl kS) ?_
    show OFin p e below s _ _ _ (T0.setTop (mkF m 197 #[.val (.int p1), .val (.int p2), .val (.int p3), .val (.int p4), .val (.int p5), .val (.int p6), .val (.int i), .val (.int j), .val (.int bb), .val (.int n1), .val (.int c0), .val (.int c1), .val (.int c2), .val (.int n2), .val (.int d0), .val (.int d1), .val (.int d2), .val (.ref x), .val (.ref y), .val (.ref a), .unset, .unset] [(.int d1), (.int c1)]))
    by_cases e2 : c1 = d1
    · refine own_st (fun _ kS => XS.icmpNo X0.here hx rfl (hb hby at_197) rfl (teq e2).2 kS) ?_
      show OFin p e below s _ _ _ (T0.setTop (mkF m 200 #[.val (.int p1), .val (.int p2), .val (.int p3), .val (.int p4), .val (.int p5), .val (.int p6), .val (.int i), .val (.int j), .val (.int bb), .val (.int n1), .val (.int c0), .val (.int c1), .val (.int c2), .val (.int n2), .val (.int d0), .val (.int d1), .val (.int d2), .val (.ref x), .val (.ref y), .val (.ref a), .unset, .unset] []))
      exact own_u2 hw hC0 X0 e0 p1 p2 p3 p4 p5 p6 i j bb n1 c0 c1 c2 n2 d0 d1 d2 x y a n0 nI z kx S_0 S_1 S_2 S_3 S_4 S_5 S_6 S_7 hO hi hj hn1 hn2 r0 r1 r2 s0 s1 s2 hnI Z0 N0 S_c hz O E_a F_k F_t O1 O2 hcs hss gn g0 (Or.inr e2)
    · refine own_st (fun _ kS => XS.icmpYes X0.here hx rfl (pc0 := 197) (pc' := 217) rfl (hb hby at_197) rfl (feq e2).2 (by decide) (by decide) kS) ?_
      show OFin p e below s _ _ _ (T0.setTop (mkF m 217 #[.val (.int p1), .val (.int p2), .val (.int p3), .val (.int p4), .val (.int p5), .val (.int p6), .val (.int i), .val (.int j), .val (.int bb), .val (.int n1), .val (.int c0), .val (.int c1), .val (.int c2), .val (.int n2), .val (.int d0), .val (.int d1), .val (.int d2), .val (.ref x), .val (.ref y), .val (.ref a), .unset, .unset] []))
      refine own_st (fun _ kS => XS.iconst X0.here hx rfl (hb hby at_217) kS) ?_
      show OFin p e below s _ _ _ (T0.setTop (mkF m 218 #[.val (.int p1), .val (.int p2), .val (.int p3), .val (.int p4), .val (.int p5), .val (.int p6), .val (.int i), .val (.int j), .val (.int bb), .val (.int n1), .val (.int c0), .val (.int c1), .val (.int c2), .val (.int n2), .val (.int d0), .val (.int d1), .val (.int d2), .val (.ref x), .val (.ref y), .val (.ref a), .unset, .unset] [(.int (0 : Int32))]))
      exact own_t5 hw hC0 X0 e0 p1 p2 p3 p4 p5 p6 i j bb n1 c0 c1 c2 n2 d0 d1 d2 x y a 0 n0 nI z kx S_0 S_1 S_2 S_3 S_4 S_5 S_6 S_7 hO hi hj hn1 hn2 r0 r1 r2 s0 s1 s2 hnI Z0 N0 S_c hz O E_a F_k F_t O1 O2 hcs hss (Or.inr ⟨rfl, fun q => ((own_eq hn1 hn2).1 q).2.2.1.elim e1 e2⟩)
set_option maxRecDepth 65536 in
set_option maxHeartbeats 40000000 in
theorem own_u0 {l : Launch} {Z : State} {a0 : Array Value} (hw : ∀ d ∈ tables_1, d.before a0 Z = true) {p : Program} {e : Env} {s : State} {m : MethodId} {args : Array Value} {below : List Frame} {meth : Method} {c : Code} (hC : OCtx Z p s m meth c "com/example/wyrd/wyrd/hoa/TokenIsPinLaw" "law" code maxLocals ret) {T0 : State} {locs : List Loc} {cells slots : Nat} (X0 : Stand p l e room_1 s m args below meth c T0 locs cells slots) {h0 : Heap} (e0 : T0.heap = h0) (p1 p2 p3 p4 p5 p6 i j bb n1 c0 c1 c2 n2 d0 d1 d2 : Int32) (x y a : Addr)  (n0 nI : Nat) (z : Int32) (kx : Int32 → Addr) (S_0 : Sta Z Z.heap "com/example/wyrd/wyrd/hoa/Tokens$Kind" "HEADER" "Lcom/example/wyrd/wyrd/hoa/Tokens$Kind;" (.ref (kx 0))) (S_1 : Sta Z Z.heap "com/example/wyrd/wyrd/hoa/Tokens$Kind" "IDENTIFIER" "Lcom/example/wyrd/wyrd/hoa/Tokens$Kind;" (.ref (kx 1))) (S_2 : Sta Z Z.heap "com/example/wyrd/wyrd/hoa/Tokens$Kind" "INTEGER" "Lcom/example/wyrd/wyrd/hoa/Tokens$Kind;" (.ref (kx 2))) (S_3 : Sta Z Z.heap "com/example/wyrd/wyrd/hoa/Tokens$Kind" "STRING" "Lcom/example/wyrd/wyrd/hoa/Tokens$Kind;" (.ref (kx 3))) (S_4 : Sta Z Z.heap "com/example/wyrd/wyrd/hoa/Tokens$Kind" "ALIAS" "Lcom/example/wyrd/wyrd/hoa/Tokens$Kind;" (.ref (kx 4))) (S_5 : Sta Z Z.heap "com/example/wyrd/wyrd/hoa/Tokens$Kind" "PUNCTUATION" "Lcom/example/wyrd/wyrd/hoa/Tokens$Kind;" (.ref (kx 5))) (S_6 : Sta Z Z.heap "com/example/wyrd/wyrd/hoa/Tokens$Kind" "SEPARATOR" "Lcom/example/wyrd/wyrd/hoa/Tokens$Kind;" (.ref (kx 6))) (S_7 : Sta Z Z.heap "com/example/wyrd/wyrd/hoa/Tokens$Kind" "END_OF_TEXT" "Lcom/example/wyrd/wyrd/hoa/Tokens$Kind;" (.ref (kx 7))) (hO : ∀ k : Int32, (k = 0 ∨ k = 1 ∨ k = 2 ∨ k = 3 ∨ k = 4 ∨ k = 5 ∨ k = 6 ∨ k = 7) → Fld Z Z.heap (kx k) "java/lang/Enum" "ordinal" "I" (.int k)) (hi : i = 0 ∨ i = 1 ∨ i = 2 ∨ i = 3 ∨ i = 4 ∨ i = 5 ∨ i = 6 ∨ i = 7) (hj : j = 0 ∨ j = 1 ∨ j = 2 ∨ j = 3 ∨ j = 4 ∨ j = 5 ∨ j = 6 ∨ j = 7) (hn1 : n1 = 0 ∨ n1 = 1 ∨ n1 = 2 ∨ n1 = 3) (hn2 : n2 = 0 ∨ n2 = 1 ∨ n2 = 2 ∨ n2 = 3) (r0 : 0 ≤ c0.toInt ∧ c0.toInt ≤ 255) (r1 : 0 ≤ c1.toInt ∧ c1.toInt ≤ 255) (r2 : 0 ≤ c2.toInt ∧ c2.toInt ≤ 255) (s0 : 0 ≤ d0.toInt ∧ d0.toInt ≤ 255) (s1 : 0 ≤ d1.toInt ∧ d1.toInt ≤ 255) (s2 : 0 ≤ d2.toInt ∧ d2.toInt ≤ 255) (hnI : nI ≤ h0.size) (Z0 : n0 ≤ h0.size) (N0 : Fr n0 locs) (S_c : Sta Z Z.heap "java/lang/String" "COMPACT_STRINGS" "Z" (.int z)) (hz : ¬ z = 0) (O : Old Z n0 h0) (E_a : Exa Z h0 a "com/example/wyrd/wyrd/hoa/Tokens$Token") (F_k : Fld Z h0 a "com/example/wyrd/wyrd/hoa/Tokens$Token" "kind" "Lcom/example/wyrd/wyrd/hoa/Tokens$Kind;" (.ref (kx i))) (F_t : Fld Z h0 a "com/example/wyrd/wyrd/hoa/Tokens$Token" "text" "Ljava/lang/String;" (.ref x)) (O1 : OStr Z h0 x (own_cs n1 c0 c1 c2)) (O2 : OStr Z h0 y (own_cs n2 d0 d1 d2)) (hcs : cells ≤ 10) (hss : slots ≤ 30) (gn : n1 = n2)  :
    OFin p e below s room_1.cells room_1.slots (fun v h L => v = some (.int (1 : Int32)) ∧ Fr n0 L ∧ nI ≤ h.size) (T0.setTop (mkF m 174 #[.val (.int p1), .val (.int p2), .val (.int p3), .val (.int p4), .val (.int p5), .val (.int p6), .val (.int i), .val (.int j), .val (.int bb), .val (.int n1), .val (.int c0), .val (.int c1), .val (.int c2), .val (.int n2), .val (.int d0), .val (.int d1), .val (.int d2), .val (.ref x), .val (.ref y), .val (.ref a), .unset, .unset] [])) := by
  have hC0 := hC
  obtain ⟨hx, hZ, hby, hml, hown, hret, hlk, hnm⟩ := hC
  refine own_st (fun _ kS => XS.iload X0.here hx rfl (hb hby at_174) rfl kS) ?_
  show OFin p e below s _ _ _ (T0.setTop (mkF m 176 #[.val (.int p1), .val (.int p2), .val (.int p3), .val (.int p4), .val (.int p5), .val (.int p6), .val (.int i), .val (.int j), .val (.int bb), .val (.int n1), .val (.int c0), .val (.int c1), .val (.int c2), .val (.int n2), .val (.int d0), .val (.int d1), .val (.int d2), .val (.ref x), .val (.ref y), .val (.ref a), .unset, .unset] [(.int n1)]))
  refine own_st (fun _ kS => XS.iconst X0.here hx rfl (hb hby at_176) kS) ?_
  show OFin p e below s _ _ _ (T0.setTop (mkF m 177 #[.val (.int p1), .val (.int p2), .val (.int p3), .val (.int p4), .val (.int p5), .val (.int p6), .val (.int i), .val (.int j), .val (.int bb), .val (.int n1), .val (.int c0), .val (.int c1), .val (.int c2), .val (.int n2), .val (.int d0), .val (.int d1), .val (.int d2), .val (.ref x), .val (.ref y), .val (.ref a), .unset, .unset] [(.int (1 : Int32)), (.int n1)]))
  by_cases e1 : n1 < (1 : Int32)
  · refine own_st (fun _ kS => XS.icmpYes X0.here hx rfl (pc0 := 177) (pc' := 187) rfl (hb hby at_177) rfl (tlt e1).1 (by decide) (by decide) kS) ?_
    show OFin p e below s _ _ _ (T0.setTop (mkF m 187 #[.val (.int p1), .val (.int p2), .val (.int p3), .val (.int p4), .val (.int p5), .val (.int p6), .val (.int i), .val (.int j), .val (.int bb), .val (.int n1), .val (.int c0), .val (.int c1), .val (.int c2), .val (.int n2), .val (.int d0), .val (.int d1), .val (.int d2), .val (.ref x), .val (.ref y), .val (.ref a), .unset, .unset] []))
    exact own_u1 hw hC0 X0 e0 p1 p2 p3 p4 p5 p6 i j bb n1 c0 c1 c2 n2 d0 d1 d2 x y a n0 nI z kx S_0 S_1 S_2 S_3 S_4 S_5 S_6 S_7 hO hi hj hn1 hn2 r0 r1 r2 s0 s1 s2 hnI Z0 N0 S_c hz O E_a F_k F_t O1 O2 hcs hss gn  (Or.inl e1)
  · refine own_st (fun _ kS => XS.icmpNo X0.here hx rfl (hb hby at_177) rfl (flt e1).1 kS) ?_
    show OFin p e below s _ _ _ (T0.setTop (mkF m 180 #[.val (.int p1), .val (.int p2), .val (.int p3), .val (.int p4), .val (.int p5), .val (.int p6), .val (.int i), .val (.int j), .val (.int bb), .val (.int n1), .val (.int c0), .val (.int c1), .val (.int c2), .val (.int n2), .val (.int d0), .val (.int d1), .val (.int d2), .val (.ref x), .val (.ref y), .val (.ref a), .unset, .unset] []))
    refine own_st (fun _ kS => XS.iload X0.here hx rfl (hb hby at_180) rfl kS) ?_
    show OFin p e below s _ _ _ (T0.setTop (mkF m 182 #[.val (.int p1), .val (.int p2), .val (.int p3), .val (.int p4), .val (.int p5), .val (.int p6), .val (.int i), .val (.int j), .val (.int bb), .val (.int n1), .val (.int c0), .val (.int c1), .val (.int c2), .val (.int n2), .val (.int d0), .val (.int d1), .val (.int d2), .val (.ref x), .val (.ref y), .val (.ref a), .unset, .unset] [(.int c0)]))
    refine own_st (fun _ kS => XS.iload X0.here hx rfl (hb hby at_182) rfl kS) ?_
    show OFin p e below s _ _ _ (T0.setTop (mkF m 184 #[.val (.int p1), .val (.int p2), .val (.int p3), .val (.int p4), .val (.int p5), .val (.int p6), .val (.int i), .val (.int j), .val (.int bb), .val (.int n1), .val (.int c0), .val (.int c1), .val (.int c2), .val (.int n2), .val (.int d0), .val (.int d1), .val (.int d2), .val (.ref x), .val (.ref y), .val (.ref a), .unset, .unset] [(.int d0), (.int c0)]))
    by_cases e2 : c0 = d0
    · refine own_st (fun _ kS => XS.icmpNo X0.here hx rfl (hb hby at_184) rfl (teq e2).2 kS) ?_
      show OFin p e below s _ _ _ (T0.setTop (mkF m 187 #[.val (.int p1), .val (.int p2), .val (.int p3), .val (.int p4), .val (.int p5), .val (.int p6), .val (.int i), .val (.int j), .val (.int bb), .val (.int n1), .val (.int c0), .val (.int c1), .val (.int c2), .val (.int n2), .val (.int d0), .val (.int d1), .val (.int d2), .val (.ref x), .val (.ref y), .val (.ref a), .unset, .unset] []))
      exact own_u1 hw hC0 X0 e0 p1 p2 p3 p4 p5 p6 i j bb n1 c0 c1 c2 n2 d0 d1 d2 x y a n0 nI z kx S_0 S_1 S_2 S_3 S_4 S_5 S_6 S_7 hO hi hj hn1 hn2 r0 r1 r2 s0 s1 s2 hnI Z0 N0 S_c hz O E_a F_k F_t O1 O2 hcs hss gn  (Or.inr e2)
    · refine own_st (fun _ kS => XS.icmpYes X0.here hx rfl (pc0 := 184) (pc' := 217) rfl (hb hby at_184) rfl (feq e2).2 (by decide) (by decide) kS) ?_
      show OFin p e below s _ _ _ (T0.setTop (mkF m 217 #[.val (.int p1), .val (.int p2), .val (.int p3), .val (.int p4), .val (.int p5), .val (.int p6), .val (.int i), .val (.int j), .val (.int bb), .val (.int n1), .val (.int c0), .val (.int c1), .val (.int c2), .val (.int n2), .val (.int d0), .val (.int d1), .val (.int d2), .val (.ref x), .val (.ref y), .val (.ref a), .unset, .unset] []))
      refine own_st (fun _ kS => XS.iconst X0.here hx rfl (hb hby at_217) kS) ?_
      show OFin p e below s _ _ _ (T0.setTop (mkF m 218 #[.val (.int p1), .val (.int p2), .val (.int p3), .val (.int p4), .val (.int p5), .val (.int p6), .val (.int i), .val (.int j), .val (.int bb), .val (.int n1), .val (.int c0), .val (.int c1), .val (.int c2), .val (.int n2), .val (.int d0), .val (.int d1), .val (.int d2), .val (.ref x), .val (.ref y), .val (.ref a), .unset, .unset] [(.int (0 : Int32))]))
      exact own_t5 hw hC0 X0 e0 p1 p2 p3 p4 p5 p6 i j bb n1 c0 c1 c2 n2 d0 d1 d2 x y a 0 n0 nI z kx S_0 S_1 S_2 S_3 S_4 S_5 S_6 S_7 hO hi hj hn1 hn2 r0 r1 r2 s0 s1 s2 hnI Z0 N0 S_c hz O E_a F_k F_t O1 O2 hcs hss (Or.inr ⟨rfl, fun q => ((own_eq hn1 hn2).1 q).2.1.elim e1 e2⟩)
set_option maxRecDepth 65536 in
set_option maxHeartbeats 40000000 in
theorem own_t0 {l : Launch} {Z : State} {a0 : Array Value} (hw : ∀ d ∈ tables_1, d.before a0 Z = true) {p : Program} {e : Env} {s : State} {m : MethodId} {args : Array Value} {below : List Frame} {meth : Method} {c : Code} (hC : OCtx Z p s m meth c "com/example/wyrd/wyrd/hoa/TokenIsPinLaw" "law" code maxLocals ret) {T0 : State} {locs : List Loc} {cells slots : Nat} (X0 : Stand p l e room_1 s m args below meth c T0 locs cells slots) {h0 : Heap} (e0 : T0.heap = h0) (p1 p2 p3 p4 p5 p6 i j bb n1 c0 c1 c2 n2 d0 d1 d2 : Int32) (x y a : Addr)  (n0 nI : Nat) (z : Int32) (kx : Int32 → Addr) (S_0 : Sta Z Z.heap "com/example/wyrd/wyrd/hoa/Tokens$Kind" "HEADER" "Lcom/example/wyrd/wyrd/hoa/Tokens$Kind;" (.ref (kx 0))) (S_1 : Sta Z Z.heap "com/example/wyrd/wyrd/hoa/Tokens$Kind" "IDENTIFIER" "Lcom/example/wyrd/wyrd/hoa/Tokens$Kind;" (.ref (kx 1))) (S_2 : Sta Z Z.heap "com/example/wyrd/wyrd/hoa/Tokens$Kind" "INTEGER" "Lcom/example/wyrd/wyrd/hoa/Tokens$Kind;" (.ref (kx 2))) (S_3 : Sta Z Z.heap "com/example/wyrd/wyrd/hoa/Tokens$Kind" "STRING" "Lcom/example/wyrd/wyrd/hoa/Tokens$Kind;" (.ref (kx 3))) (S_4 : Sta Z Z.heap "com/example/wyrd/wyrd/hoa/Tokens$Kind" "ALIAS" "Lcom/example/wyrd/wyrd/hoa/Tokens$Kind;" (.ref (kx 4))) (S_5 : Sta Z Z.heap "com/example/wyrd/wyrd/hoa/Tokens$Kind" "PUNCTUATION" "Lcom/example/wyrd/wyrd/hoa/Tokens$Kind;" (.ref (kx 5))) (S_6 : Sta Z Z.heap "com/example/wyrd/wyrd/hoa/Tokens$Kind" "SEPARATOR" "Lcom/example/wyrd/wyrd/hoa/Tokens$Kind;" (.ref (kx 6))) (S_7 : Sta Z Z.heap "com/example/wyrd/wyrd/hoa/Tokens$Kind" "END_OF_TEXT" "Lcom/example/wyrd/wyrd/hoa/Tokens$Kind;" (.ref (kx 7))) (hO : ∀ k : Int32, (k = 0 ∨ k = 1 ∨ k = 2 ∨ k = 3 ∨ k = 4 ∨ k = 5 ∨ k = 6 ∨ k = 7) → Fld Z Z.heap (kx k) "java/lang/Enum" "ordinal" "I" (.int k)) (hi : i = 0 ∨ i = 1 ∨ i = 2 ∨ i = 3 ∨ i = 4 ∨ i = 5 ∨ i = 6 ∨ i = 7) (hj : j = 0 ∨ j = 1 ∨ j = 2 ∨ j = 3 ∨ j = 4 ∨ j = 5 ∨ j = 6 ∨ j = 7) (hn1 : n1 = 0 ∨ n1 = 1 ∨ n1 = 2 ∨ n1 = 3) (hn2 : n2 = 0 ∨ n2 = 1 ∨ n2 = 2 ∨ n2 = 3) (r0 : 0 ≤ c0.toInt ∧ c0.toInt ≤ 255) (r1 : 0 ≤ c1.toInt ∧ c1.toInt ≤ 255) (r2 : 0 ≤ c2.toInt ∧ c2.toInt ≤ 255) (s0 : 0 ≤ d0.toInt ∧ d0.toInt ≤ 255) (s1 : 0 ≤ d1.toInt ∧ d1.toInt ≤ 255) (s2 : 0 ≤ d2.toInt ∧ d2.toInt ≤ 255) (hnI : nI ≤ h0.size) (Z0 : n0 ≤ h0.size) (N0 : Fr n0 locs) (S_c : Sta Z Z.heap "java/lang/String" "COMPACT_STRINGS" "Z" (.int z)) (hz : ¬ z = 0) (O : Old Z n0 h0) (E_a : Exa Z h0 a "com/example/wyrd/wyrd/hoa/Tokens$Token") (F_k : Fld Z h0 a "com/example/wyrd/wyrd/hoa/Tokens$Token" "kind" "Lcom/example/wyrd/wyrd/hoa/Tokens$Kind;" (.ref (kx i))) (F_t : Fld Z h0 a "com/example/wyrd/wyrd/hoa/Tokens$Token" "text" "Ljava/lang/String;" (.ref x)) (O1 : OStr Z h0 x (own_cs n1 c0 c1 c2)) (O2 : OStr Z h0 y (own_cs n2 d0 d1 d2)) (hcs : cells ≤ 10) (hss : slots ≤ 30)  :
    OFin p e below s room_1.cells room_1.slots (fun v h L => v = some (.int (1 : Int32)) ∧ Fr n0 L ∧ nI ≤ h.size) (T0.setTop (mkF m 167 #[.val (.int p1), .val (.int p2), .val (.int p3), .val (.int p4), .val (.int p5), .val (.int p6), .val (.int i), .val (.int j), .val (.int bb), .val (.int n1), .val (.int c0), .val (.int c1), .val (.int c2), .val (.int n2), .val (.int d0), .val (.int d1), .val (.int d2), .val (.ref x), .val (.ref y), .val (.ref a), .unset, .unset] [])) := by
  have hC0 := hC
  obtain ⟨hx, hZ, hby, hml, hown, hret, hlk, hnm⟩ := hC
  refine own_st (fun _ kS => XS.iload X0.here hx rfl (hb hby at_167) rfl kS) ?_
  show OFin p e below s _ _ _ (T0.setTop (mkF m 169 #[.val (.int p1), .val (.int p2), .val (.int p3), .val (.int p4), .val (.int p5), .val (.int p6), .val (.int i), .val (.int j), .val (.int bb), .val (.int n1), .val (.int c0), .val (.int c1), .val (.int c2), .val (.int n2), .val (.int d0), .val (.int d1), .val (.int d2), .val (.ref x), .val (.ref y), .val (.ref a), .unset, .unset] [(.int n1)]))
  refine own_st (fun _ kS => XS.iload X0.here hx rfl (hb hby at_169) rfl kS) ?_
  show OFin p e below s _ _ _ (T0.setTop (mkF m 171 #[.val (.int p1), .val (.int p2), .val (.int p3), .val (.int p4), .val (.int p5), .val (.int p6), .val (.int i), .val (.int j), .val (.int bb), .val (.int n1), .val (.int c0), .val (.int c1), .val (.int c2), .val (.int n2), .val (.int d0), .val (.int d1), .val (.int d2), .val (.ref x), .val (.ref y), .val (.ref a), .unset, .unset] [(.int n2), (.int n1)]))
  by_cases e1 : n1 = n2
  · refine own_st (fun _ kS => XS.icmpNo X0.here hx rfl (hb hby at_171) rfl (teq e1).2 kS) ?_
    show OFin p e below s _ _ _ (T0.setTop (mkF m 174 #[.val (.int p1), .val (.int p2), .val (.int p3), .val (.int p4), .val (.int p5), .val (.int p6), .val (.int i), .val (.int j), .val (.int bb), .val (.int n1), .val (.int c0), .val (.int c1), .val (.int c2), .val (.int n2), .val (.int d0), .val (.int d1), .val (.int d2), .val (.ref x), .val (.ref y), .val (.ref a), .unset, .unset] []))
    exact own_u0 hw hC0 X0 e0 p1 p2 p3 p4 p5 p6 i j bb n1 c0 c1 c2 n2 d0 d1 d2 x y a n0 nI z kx S_0 S_1 S_2 S_3 S_4 S_5 S_6 S_7 hO hi hj hn1 hn2 r0 r1 r2 s0 s1 s2 hnI Z0 N0 S_c hz O E_a F_k F_t O1 O2 hcs hss e1
  · refine own_st (fun _ kS => XS.icmpYes X0.here hx rfl (pc0 := 171) (pc' := 217) rfl (hb hby at_171) rfl (feq e1).2 (by decide) (by decide) kS) ?_
    show OFin p e below s _ _ _ (T0.setTop (mkF m 217 #[.val (.int p1), .val (.int p2), .val (.int p3), .val (.int p4), .val (.int p5), .val (.int p6), .val (.int i), .val (.int j), .val (.int bb), .val (.int n1), .val (.int c0), .val (.int c1), .val (.int c2), .val (.int n2), .val (.int d0), .val (.int d1), .val (.int d2), .val (.ref x), .val (.ref y), .val (.ref a), .unset, .unset] []))
    refine own_st (fun _ kS => XS.iconst X0.here hx rfl (hb hby at_217) kS) ?_
    show OFin p e below s _ _ _ (T0.setTop (mkF m 218 #[.val (.int p1), .val (.int p2), .val (.int p3), .val (.int p4), .val (.int p5), .val (.int p6), .val (.int i), .val (.int j), .val (.int bb), .val (.int n1), .val (.int c0), .val (.int c1), .val (.int c2), .val (.int n2), .val (.int d0), .val (.int d1), .val (.int d2), .val (.ref x), .val (.ref y), .val (.ref a), .unset, .unset] [(.int (0 : Int32))]))
    exact own_t5 hw hC0 X0 e0 p1 p2 p3 p4 p5 p6 i j bb n1 c0 c1 c2 n2 d0 d1 d2 x y a 0 n0 nI z kx S_0 S_1 S_2 S_3 S_4 S_5 S_6 S_7 hO hi hj hn1 hn2 r0 r1 r2 s0 s1 s2 hnI Z0 N0 S_c hz O E_a F_k F_t O1 O2 hcs hss (Or.inr ⟨rfl, fun q => e1 ((own_eq hn1 hn2).1 q).1⟩)
set_option maxRecDepth 65536 in
set_option maxHeartbeats 40000000 in
theorem own_A {l : Launch} {Z : State} {a0 : Array Value} (hw : ∀ d ∈ tables_1, d.before a0 Z = true) {p : Program} {e : Env} {s : State} {m : MethodId} {args : Array Value} {below : List Frame} {meth : Method} {c : Code} (hC : OCtx Z p s m meth c "com/example/wyrd/wyrd/hoa/TokenIsPinLaw" "law" code maxLocals ret) {T0 : State} {locs : List Loc} {cells slots : Nat} (X0 : Stand p l e room_1 s m args below meth c T0 locs cells slots) {h0 : Heap} (e0 : T0.heap = h0) (p1 p2 p3 p4 p5 p6 i j bb n1 c0 c1 c2 n2 d0 d1 d2 : Int32) (x y : Addr) (n0 nI : Nat) (z : Int32) (kx : Int32 → Addr) (S_0 : Sta Z Z.heap "com/example/wyrd/wyrd/hoa/Tokens$Kind" "HEADER" "Lcom/example/wyrd/wyrd/hoa/Tokens$Kind;" (.ref (kx 0))) (S_1 : Sta Z Z.heap "com/example/wyrd/wyrd/hoa/Tokens$Kind" "IDENTIFIER" "Lcom/example/wyrd/wyrd/hoa/Tokens$Kind;" (.ref (kx 1))) (S_2 : Sta Z Z.heap "com/example/wyrd/wyrd/hoa/Tokens$Kind" "INTEGER" "Lcom/example/wyrd/wyrd/hoa/Tokens$Kind;" (.ref (kx 2))) (S_3 : Sta Z Z.heap "com/example/wyrd/wyrd/hoa/Tokens$Kind" "STRING" "Lcom/example/wyrd/wyrd/hoa/Tokens$Kind;" (.ref (kx 3))) (S_4 : Sta Z Z.heap "com/example/wyrd/wyrd/hoa/Tokens$Kind" "ALIAS" "Lcom/example/wyrd/wyrd/hoa/Tokens$Kind;" (.ref (kx 4))) (S_5 : Sta Z Z.heap "com/example/wyrd/wyrd/hoa/Tokens$Kind" "PUNCTUATION" "Lcom/example/wyrd/wyrd/hoa/Tokens$Kind;" (.ref (kx 5))) (S_6 : Sta Z Z.heap "com/example/wyrd/wyrd/hoa/Tokens$Kind" "SEPARATOR" "Lcom/example/wyrd/wyrd/hoa/Tokens$Kind;" (.ref (kx 6))) (S_7 : Sta Z Z.heap "com/example/wyrd/wyrd/hoa/Tokens$Kind" "END_OF_TEXT" "Lcom/example/wyrd/wyrd/hoa/Tokens$Kind;" (.ref (kx 7))) (hO : ∀ k : Int32, (k = 0 ∨ k = 1 ∨ k = 2 ∨ k = 3 ∨ k = 4 ∨ k = 5 ∨ k = 6 ∨ k = 7) → Fld Z Z.heap (kx k) "java/lang/Enum" "ordinal" "I" (.int k)) (hi : i = 0 ∨ i = 1 ∨ i = 2 ∨ i = 3 ∨ i = 4 ∨ i = 5 ∨ i = 6 ∨ i = 7) (hj : j = 0 ∨ j = 1 ∨ j = 2 ∨ j = 3 ∨ j = 4 ∨ j = 5 ∨ j = 6 ∨ j = 7) (hn1 : n1 = 0 ∨ n1 = 1 ∨ n1 = 2 ∨ n1 = 3) (hn2 : n2 = 0 ∨ n2 = 1 ∨ n2 = 2 ∨ n2 = 3) (r0 : 0 ≤ c0.toInt ∧ c0.toInt ≤ 255) (r1 : 0 ≤ c1.toInt ∧ c1.toInt ≤ 255) (r2 : 0 ≤ c2.toInt ∧ c2.toInt ≤ 255) (s0 : 0 ≤ d0.toInt ∧ d0.toInt ≤ 255) (s1 : 0 ≤ d1.toInt ∧ d1.toInt ≤ 255) (s2 : 0 ≤ d2.toInt ∧ d2.toInt ≤ 255) (hnI : nI ≤ h0.size) (Z0 : n0 ≤ h0.size) (N0 : Fr n0 locs) (S_c : Sta Z Z.heap "java/lang/String" "COMPACT_STRINGS" "Z" (.int z)) (hz : ¬ z = 0) (O : Old Z n0 h0) (O1 : OStr Z h0 x (own_cs n1 c0 c1 c2)) (O2 : OStr Z h0 y (own_cs n2 d0 d1 d2)) (hcs : cells ≤ 9) (hss : slots ≤ 27) :
    OFin p e below s room_1.cells room_1.slots (fun v h L => v = some (.int (1 : Int32)) ∧ Fr n0 L ∧ nI ≤ h.size) (T0.setTop (mkF m 149 #[.val (.int p1), .val (.int p2), .val (.int p3), .val (.int p4), .val (.int p5), .val (.int p6), .val (.int i), .val (.int j), .val (.int bb), .val (.int n1), .val (.int c0), .val (.int c1), .val (.int c2), .val (.int n2), .val (.int d0), .val (.int d1), .val (.int d2), .val (.ref x), .val (.ref y), .unset, .unset, .unset] [])) := by
  have hC0 := hC
  obtain ⟨hx, hZ, hby, hml, hown, hret, hlk, hnm⟩ := hC
  replace X0 := X0.mono hcs hss
  have kp0 := Keep.refl h0 []
  obtain ⟨T129, h129, X129, e129, E129, A129, D129, -, st129⟩ := newO X0 hx hZ hown (own_w hw 34 rfl) (own_w hw 35 rfl) (own_w hw 36 rfl) e0 (g := (mkF m 149 #[.val (.int p1), .val (.int p2), .val (.int p3), .val (.int p4), .val (.int p5), .val (.int p6), .val (.int i), .val (.int j), .val (.int bb), .val (.int n1), .val (.int c0), .val (.int c1), .val (.int c2), .val (.int n2), .val (.int d0), .val (.int d1), .val (.int d2), .val (.ref x), .val (.ref y), .unset, .unset, .unset] [])) rfl (hb hby at_149) (by decide) (by decide)
  obtain ⟨a, g129⟩ : ∃ z, z = h0.size := ⟨_, rfl⟩
  rw [← g129] at A129 D129 st129
  have g_a : n0 ≤ a := Nat.le_trans Z0 (Nat.le_of_eq g129.symm)
  have od129 := O.ext E129
  have f130 : Fld Z h129 a "com/example/wyrd/wyrd/hoa/Tokens$Token" "kind" "Lcom/example/wyrd/wyrd/hoa/Tokens$Kind;" .null := D129 (Or.inr (own_w hw 53 rfl)) (ty := (.object "com/example/wyrd/wyrd/hoa/Tokens$Kind")) (by decide)
  have f131 : Fld Z h129 a "com/example/wyrd/wyrd/hoa/Tokens$Token" "text" "Ljava/lang/String;" .null := D129 (Or.inr (own_w hw 55 rfl)) (ty := (.object "java/lang/String")) (by decide)
  have f132 : Fld Z h129 a "com/example/wyrd/wyrd/hoa/Tokens$Token" "line" "I" (.int (0 : Int32)) := D129 (Or.inr (own_w hw 57 rfl)) (ty := .int) (by decide)
  have sz129 : n0 ≤ h129.size := Nat.le_trans Z0 E129.1
  have kp129 := kp0.ext E129
  have kz_a := Nat.le_trans kp0.1 (Nat.le_of_eq g129.symm)
  clear kp0
  refine own_st (st129) ?_
  clear st129 X0 e0 E129 D129 g129
  show OFin p e below s _ _ _ (T129.setTop (mkF m 152 #[.val (.int p1), .val (.int p2), .val (.int p3), .val (.int p4), .val (.int p5), .val (.int p6), .val (.int i), .val (.int j), .val (.int bb), .val (.int n1), .val (.int c0), .val (.int c1), .val (.int c2), .val (.int n2), .val (.int d0), .val (.int d1), .val (.int d2), .val (.ref x), .val (.ref y), .unset, .unset, .unset] [(.ref a)]))
  refine own_st (fun _ kS => XS.dup X129.here hx rfl (hb hby at_152) rfl rfl kS) ?_
  show OFin p e below s _ _ _ (T129.setTop (mkF m 153 #[.val (.int p1), .val (.int p2), .val (.int p3), .val (.int p4), .val (.int p5), .val (.int p6), .val (.int i), .val (.int j), .val (.int bb), .val (.int n1), .val (.int c0), .val (.int c1), .val (.int c2), .val (.int n2), .val (.int d0), .val (.int d1), .val (.int d2), .val (.ref x), .val (.ref y), .unset, .unset, .unset] [(.ref a), (.ref a)]))
  refine own_st (fun _ kS => XS.iload X129.here hx rfl (hb hby at_153) rfl kS) ?_
  show OFin p e below s _ _ _ (T129.setTop (mkF m 155 #[.val (.int p1), .val (.int p2), .val (.int p3), .val (.int p4), .val (.int p5), .val (.int p6), .val (.int i), .val (.int j), .val (.int bb), .val (.int n1), .val (.int c0), .val (.int c1), .val (.int c2), .val (.int n2), .val (.int d0), .val (.int d1), .val (.int d2), .val (.ref x), .val (.ref y), .unset, .unset, .unset] [(.int i), (.ref a), (.ref a)]))
  obtain ⟨v133, T133, L133, X133, hQ133, st133⟩ := own_static X129 hx hZ (y := (⟨"com/example/wyrd/wyrd/hoa/TokenIsPinLaw", "kind", "(I)Lcom/example/wyrd/wyrd/hoa/Tokens$Kind;"⟩ : MethodName)) (rm := ⟨0, 0, 0, 0⟩) (W := 2) (argsL := [(.int i)]) (rest := [(.ref a), (.ref a)]) hown (own_w hw 37 rfl) (own_w hw 38 rfl) (own_w hw 2 rfl) (own_w hw 39 rfl) (rmKi l Z a0 hw i h129 n0 kx S_0 S_1 S_2 S_3 S_4 S_5 S_6 S_7 od129 hi) e129 (g := (mkF m 155 #[.val (.int p1), .val (.int p2), .val (.int p3), .val (.int p4), .val (.int p5), .val (.int p6), .val (.int i), .val (.int j), .val (.int bb), .val (.int n1), .val (.int c0), .val (.int c1), .val (.int c2), .val (.int n2), .val (.int d0), .val (.int d1), .val (.int d2), .val (.ref x), .val (.ref y), .unset, .unset, .unset] [(.int i), (.ref a), (.ref a)])) rfl (by rw [hml]; rfl) (lenOf own_pd4 rfl) rfl (by show 2 * 0 + _ ≤ _; exact Nat.le_of_eq rfl) (hb hby at_155) (by decide) (by decide) (by decide) (by decide)
  obtain ⟨rfl, e133, rfl⟩ := hQ133
  rw [List.append_nil] at X133
  refine own_st (st133) ?_
  clear st133 X129 e129
  show OFin p e below s _ _ _ (T133.setTop (mkF m 158 #[.val (.int p1), .val (.int p2), .val (.int p3), .val (.int p4), .val (.int p5), .val (.int p6), .val (.int i), .val (.int j), .val (.int bb), .val (.int n1), .val (.int c0), .val (.int c1), .val (.int c2), .val (.int n2), .val (.int d0), .val (.int d1), .val (.int d2), .val (.ref x), .val (.ref y), .unset, .unset, .unset] [(.ref (kx i)), (.ref a), (.ref a)]))
  refine own_st (fun _ kS => XS.aload X133.here hx rfl (hb hby at_158) rfl rfl kS) ?_
  show OFin p e below s _ _ _ (T133.setTop (mkF m 160 #[.val (.int p1), .val (.int p2), .val (.int p3), .val (.int p4), .val (.int p5), .val (.int p6), .val (.int i), .val (.int j), .val (.int bb), .val (.int n1), .val (.int c0), .val (.int c1), .val (.int c2), .val (.int n2), .val (.int d0), .val (.int d1), .val (.int d2), .val (.ref x), .val (.ref y), .unset, .unset, .unset] [(.ref x), (.ref (kx i)), (.ref a), (.ref a)]))
  refine own_st (fun _ kS => XS.iload X133.here hx rfl (hb hby at_160) rfl kS) ?_
  show OFin p e below s _ _ _ (T133.setTop (mkF m 162 #[.val (.int p1), .val (.int p2), .val (.int p3), .val (.int p4), .val (.int p5), .val (.int p6), .val (.int i), .val (.int j), .val (.int bb), .val (.int n1), .val (.int c0), .val (.int c1), .val (.int c2), .val (.int n2), .val (.int d0), .val (.int d1), .val (.int d2), .val (.ref x), .val (.ref y), .unset, .unset, .unset] [(.int p5), (.ref x), (.ref (kx i)), (.ref a), (.ref a)]))
  obtain ⟨v134, T134, L134, X134, hQ134, st134⟩ := own_init X133 hx hZ (y := (⟨"com/example/wyrd/wyrd/hoa/Tokens$Token", "<init>", "(Lcom/example/wyrd/wyrd/hoa/Tokens$Kind;Ljava/lang/String;I)V"⟩ : MethodName)) (rm := ⟨2, 0, 0, 24⟩) (W := 1) (a := a) (argsL := [(.ref (kx i)), (.ref x), (.int p5)]) (rest := [(.ref a)]) rfl hown (own_w hw 43 rfl) (own_w hw 44 rfl) (own_w hw 36 rfl) (own_w hw 45 rfl) (rmTk l Z a0 hw a (kx i) x p5 h129 n0 A129 f130 f131 f132 g_a) e133 (g := (mkF m 162 #[.val (.int p1), .val (.int p2), .val (.int p3), .val (.int p4), .val (.int p5), .val (.int p6), .val (.int i), .val (.int j), .val (.int bb), .val (.int n1), .val (.int c0), .val (.int c1), .val (.int c2), .val (.int n2), .val (.int d0), .val (.int d1), .val (.int d2), .val (.ref x), .val (.ref y), .unset, .unset, .unset] [(.int p5), (.ref x), (.ref (kx i)), (.ref a), (.ref a)])) rfl (by rw [hml]; rfl) (lenOf own_pd6 rfl) rfl (by show 2 * 0 + _ ≤ _; exact Nat.le_of_eq rfl) (hb hby at_162) (by decide) (by decide) (by decide) (by decide)
  obtain ⟨rfl, N134, K134, EE, FK, FT⟩ := hQ134
  have fr134 := Fr.app N0 N134
  have kp134 := kp129.trans K134 (allS (Or.inr kz_a) all0)
  have od134 := od129.keep K134 (allS g_a all0)
  clear od129
  have f135 := A129.keep K134
  clear f130
  clear f131
  clear f132
  have sz134 : n0 ≤ T134.heap.size := Nat.le_trans sz129 K134.1
  clear sz129
  refine own_st (st134) ?_
  clear st134 X133 e133
  show OFin p e below s _ _ _ (T134.setTop (mkF m 165 #[.val (.int p1), .val (.int p2), .val (.int p3), .val (.int p4), .val (.int p5), .val (.int p6), .val (.int i), .val (.int j), .val (.int bb), .val (.int n1), .val (.int c0), .val (.int c1), .val (.int c2), .val (.int n2), .val (.int d0), .val (.int d1), .val (.int d2), .val (.ref x), .val (.ref y), .unset, .unset, .unset] [(.ref a)]))
  refine own_st (fun _ kS => XS.astore X134.here hx rfl (hb hby at_165) rfl rfl (l' := #[.val (.int p1), .val (.int p2), .val (.int p3), .val (.int p4), .val (.int p5), .val (.int p6), .val (.int i), .val (.int j), .val (.int bb), .val (.int n1), .val (.int c0), .val (.int c1), .val (.int c2), .val (.int n2), .val (.int d0), .val (.int d1), .val (.int d2), .val (.ref x), .val (.ref y), .val (.ref a), .unset, .unset]) rfl kS) ?_
  show OFin p e below s _ _ _ (T134.setTop (mkF m 167 #[.val (.int p1), .val (.int p2), .val (.int p3), .val (.int p4), .val (.int p5), .val (.int p6), .val (.int i), .val (.int j), .val (.int bb), .val (.int n1), .val (.int c0), .val (.int c1), .val (.int c2), .val (.int n2), .val (.int d0), .val (.int d1), .val (.int d2), .val (.ref x), .val (.ref y), .val (.ref a), .unset, .unset] []))
  exact own_t0 hw hC0 X134 rfl p1 p2 p3 p4 p5 p6 i j bb n1 c0 c1 c2 n2 d0 d1 d2 x y a n0 nI z kx S_0 S_1 S_2 S_3 S_4 S_5 S_6 S_7 hO hi hj hn1 hn2 r0 r1 r2 s0 s1 s2 (Nat.le_trans hnI kp134.1) sz134 fr134 S_c hz od134 EE FK FT (O1.keep kp134) (O2.keep kp134) (by decide) (by decide)
set_option maxRecDepth 65536 in
set_option maxHeartbeats 40000000 in
theorem own_B {l : Launch} {Z : State} {a0 : Array Value} (hw : ∀ d ∈ tables_1, d.before a0 Z = true) {p : Program} {e : Env} {s : State} {m : MethodId} {args : Array Value} {below : List Frame} {meth : Method} {c : Code} (hC : OCtx Z p s m meth c "com/example/wyrd/wyrd/hoa/TokenIsPinLaw" "law" code maxLocals ret) {T0 : State} {locs : List Loc} {cells slots : Nat} (X0 : Stand p l e room_1 s m args below meth c T0 locs cells slots) {h0 : Heap} (e0 : T0.heap = h0) (p1 p2 p3 p4 p5 p6 i j bb n1 c0 c1 c2 n2 d0 d1 d2 : Int32) (x : Addr) (n0 nI : Nat) (z : Int32) (kx : Int32 → Addr) (S_0 : Sta Z Z.heap "com/example/wyrd/wyrd/hoa/Tokens$Kind" "HEADER" "Lcom/example/wyrd/wyrd/hoa/Tokens$Kind;" (.ref (kx 0))) (S_1 : Sta Z Z.heap "com/example/wyrd/wyrd/hoa/Tokens$Kind" "IDENTIFIER" "Lcom/example/wyrd/wyrd/hoa/Tokens$Kind;" (.ref (kx 1))) (S_2 : Sta Z Z.heap "com/example/wyrd/wyrd/hoa/Tokens$Kind" "INTEGER" "Lcom/example/wyrd/wyrd/hoa/Tokens$Kind;" (.ref (kx 2))) (S_3 : Sta Z Z.heap "com/example/wyrd/wyrd/hoa/Tokens$Kind" "STRING" "Lcom/example/wyrd/wyrd/hoa/Tokens$Kind;" (.ref (kx 3))) (S_4 : Sta Z Z.heap "com/example/wyrd/wyrd/hoa/Tokens$Kind" "ALIAS" "Lcom/example/wyrd/wyrd/hoa/Tokens$Kind;" (.ref (kx 4))) (S_5 : Sta Z Z.heap "com/example/wyrd/wyrd/hoa/Tokens$Kind" "PUNCTUATION" "Lcom/example/wyrd/wyrd/hoa/Tokens$Kind;" (.ref (kx 5))) (S_6 : Sta Z Z.heap "com/example/wyrd/wyrd/hoa/Tokens$Kind" "SEPARATOR" "Lcom/example/wyrd/wyrd/hoa/Tokens$Kind;" (.ref (kx 6))) (S_7 : Sta Z Z.heap "com/example/wyrd/wyrd/hoa/Tokens$Kind" "END_OF_TEXT" "Lcom/example/wyrd/wyrd/hoa/Tokens$Kind;" (.ref (kx 7))) (hO : ∀ k : Int32, (k = 0 ∨ k = 1 ∨ k = 2 ∨ k = 3 ∨ k = 4 ∨ k = 5 ∨ k = 6 ∨ k = 7) → Fld Z Z.heap (kx k) "java/lang/Enum" "ordinal" "I" (.int k)) (hi : i = 0 ∨ i = 1 ∨ i = 2 ∨ i = 3 ∨ i = 4 ∨ i = 5 ∨ i = 6 ∨ i = 7) (hj : j = 0 ∨ j = 1 ∨ j = 2 ∨ j = 3 ∨ j = 4 ∨ j = 5 ∨ j = 6 ∨ j = 7) (hn1 : n1 = 0 ∨ n1 = 1 ∨ n1 = 2 ∨ n1 = 3) (hn2 : n2 = 0 ∨ n2 = 1 ∨ n2 = 2 ∨ n2 = 3) (r0 : 0 ≤ c0.toInt ∧ c0.toInt ≤ 255) (r1 : 0 ≤ c1.toInt ∧ c1.toInt ≤ 255) (r2 : 0 ≤ c2.toInt ∧ c2.toInt ≤ 255) (s0 : 0 ≤ d0.toInt ∧ d0.toInt ≤ 255) (s1 : 0 ≤ d1.toInt ∧ d1.toInt ≤ 255) (s2 : 0 ≤ d2.toInt ∧ d2.toInt ≤ 255) (hnI : nI ≤ h0.size) (Z0 : n0 ≤ h0.size) (N0 : Fr n0 locs) (S_c : Sta Z Z.heap "java/lang/String" "COMPACT_STRINGS" "Z" (.int z)) (hz : ¬ z = 0) (O : Old Z n0 h0) (O1 : OStr Z h0 x (own_cs n1 c0 c1 c2)) (hcs : cells ≤ 4) (hss : slots ≤ 10) (hh : Jvm.Lit.constHeld Z "java/lang/String" 7) (hcw : Jvm.Lit.compactW.before a0 Z = true) (hPv : OLit Z h0 s.vm) :
    OFinE p e below (OEnd s room_1.cells room_1.slots (fun v vm h L => v = some (.int (1 : Int32)) ∧ Fr n0 L ∧ nI ≤ h.size)) (T0.setTop (mkF m 136 #[.val (.int p1), .val (.int p2), .val (.int p3), .val (.int p4), .val (.int p5), .val (.int p6), .val (.int i), .val (.int j), .val (.int bb), .val (.int n1), .val (.int c0), .val (.int c1), .val (.int c2), .val (.int n2), .val (.int d0), .val (.int d1), .val (.int d2), .val (.ref x), .unset, .unset, .unset, .unset] [])) := by
  have hC0 := hC
  obtain ⟨hx, hZ, hby, hml, hown, hret, hlk, hnm⟩ := hC
  replace X0 := X0.mono hcs hss
  have kp0 := Keep.refl h0 []
  refine own_stE (fun _ kS => XS.iload X0.here hx rfl (hb hby at_136) rfl kS) ?_
  show OFinE p e below _ (T0.setTop (mkF m 138 #[.val (.int p1), .val (.int p2), .val (.int p3), .val (.int p4), .val (.int p5), .val (.int p6), .val (.int i), .val (.int j), .val (.int bb), .val (.int n1), .val (.int c0), .val (.int c1), .val (.int c2), .val (.int n2), .val (.int d0), .val (.int d1), .val (.int d2), .val (.ref x), .unset, .unset, .unset, .unset] [(.int n2)]))
  refine own_stE (fun _ kS => XS.iload X0.here hx rfl (hb hby at_138) rfl kS) ?_
  show OFinE p e below _ (T0.setTop (mkF m 140 #[.val (.int p1), .val (.int p2), .val (.int p3), .val (.int p4), .val (.int p5), .val (.int p6), .val (.int i), .val (.int j), .val (.int bb), .val (.int n1), .val (.int c0), .val (.int c1), .val (.int c2), .val (.int n2), .val (.int d0), .val (.int d1), .val (.int d2), .val (.ref x), .unset, .unset, .unset, .unset] [(.int d0), (.int n2)]))
  refine own_stE (fun _ kS => XS.iload X0.here hx rfl (hb hby at_140) rfl kS) ?_
  show OFinE p e below _ (T0.setTop (mkF m 142 #[.val (.int p1), .val (.int p2), .val (.int p3), .val (.int p4), .val (.int p5), .val (.int p6), .val (.int i), .val (.int j), .val (.int bb), .val (.int n1), .val (.int c0), .val (.int c1), .val (.int c2), .val (.int n2), .val (.int d0), .val (.int d1), .val (.int d2), .val (.ref x), .unset, .unset, .unset, .unset] [(.int d1), (.int d0), (.int n2)]))
  refine own_stE (fun _ kS => XS.iload X0.here hx rfl (hb hby at_142) rfl kS) ?_
  show OFinE p e below _ (T0.setTop (mkF m 144 #[.val (.int p1), .val (.int p2), .val (.int p3), .val (.int p4), .val (.int p5), .val (.int p6), .val (.int i), .val (.int j), .val (.int bb), .val (.int n1), .val (.int c0), .val (.int c1), .val (.int c2), .val (.int n2), .val (.int d0), .val (.int d1), .val (.int d2), .val (.ref x), .unset, .unset, .unset, .unset] [(.int d2), (.int d1), (.int d0), (.int n2)]))
  by_cases z2 : n2 = 0
  · obtain ⟨v139, T139, L139, X139, SS139, hZ, hown, hQ139, st139⟩ := own_staticW X0 hx hZ (y := (⟨"com/example/wyrd/wyrd/hoa/TokenIsPinLaw", "text", "(ICCC)Ljava/lang/String;"⟩ : MethodName)) (rm := ⟨3, 4, 8, 43⟩) (W := 0) (argsL := [(.int n2), (.int d0), (.int d1), (.int d2)]) (rest := []) hown (own_w hw 0 rfl) (own_w hw 1 rfl) (own_w hw 2 rfl) (own_w hw 3 rfl) (rmT0 l Z a0 hw _ _ _ _ h0 n0 Z0 z2 O hh hcw) (fun vm hW => OLit.warm hW hPv) e0 (g := (mkF m 144 #[.val (.int p1), .val (.int p2), .val (.int p3), .val (.int p4), .val (.int p5), .val (.int p6), .val (.int i), .val (.int j), .val (.int bb), .val (.int n1), .val (.int c0), .val (.int c1), .val (.int c2), .val (.int n2), .val (.int d0), .val (.int d1), .val (.int d2), .val (.ref x), .unset, .unset, .unset, .unset] [(.int d2), (.int d1), (.int d0), (.int n2)])) rfl (by rw [hml]; rfl) (lenOf own_pd7 rfl) rfl (by show 2 * 0 + _ ≤ _; exact Nat.le_of_eq rfl) (hb hby at_144) (by decide) (by decide) (by decide) (by decide)
    obtain ⟨y, rfl, N139, K139, F1, O2⟩ := hQ139
    refine own_stE (st139) ?_
    clear X0 e0
    refine own_narrow SS139 (Q' := (fun v h L => v = some (.int (1 : Int32)) ∧ Fr n0 L ∧ T139.heap.size ≤ h.size)) ?_ (fun v vm h L hW q => ⟨q.2.2, q.1, q.2.1, Nat.le_trans hnI (Nat.le_trans K139.1 q.2.2)⟩)
    show OFin p e below (s.setVm T139.vm) _ _ _ (T139.setTop (mkF m 147 #[.val (.int p1), .val (.int p2), .val (.int p3), .val (.int p4), .val (.int p5), .val (.int p6), .val (.int i), .val (.int j), .val (.int bb), .val (.int n1), .val (.int c0), .val (.int c1), .val (.int c2), .val (.int n2), .val (.int d0), .val (.int d1), .val (.int d2), .val (.ref x), .unset, .unset, .unset, .unset] [(.ref y)]))
    have O2' : OStr Z T139.heap y (own_cs n2 d0 d1 d2) := by rw [show (own_cs n2 d0 d1 d2) = [] from by simp [own_cs, z2]]; exact O2
    refine own_st (fun _ kS => XS.astore X139.here hx rfl (hb hby at_147) rfl rfl (l' := #[.val (.int p1), .val (.int p2), .val (.int p3), .val (.int p4), .val (.int p5), .val (.int p6), .val (.int i), .val (.int j), .val (.int bb), .val (.int n1), .val (.int c0), .val (.int c1), .val (.int c2), .val (.int n2), .val (.int d0), .val (.int d1), .val (.int d2), .val (.ref x), .val (.ref y), .unset, .unset, .unset]) rfl kS) ?_
    show OFin p e below (s.setVm T139.vm) _ _ _ (T139.setTop (mkF m 149 #[.val (.int p1), .val (.int p2), .val (.int p3), .val (.int p4), .val (.int p5), .val (.int p6), .val (.int i), .val (.int j), .val (.int bb), .val (.int n1), .val (.int c0), .val (.int c1), .val (.int c2), .val (.int n2), .val (.int d0), .val (.int d1), .val (.int d2), .val (.ref x), .val (.ref y), .unset, .unset, .unset] []))
    exact own_A hw ⟨hx, hZ, hby, hml, hown, hret, hlk, hnm⟩ X139 rfl p1 p2 p3 p4 p5 p6 i j bb n1 c0 c1 c2 n2 d0 d1 d2 x y n0 T139.heap.size z kx S_0 S_1 S_2 S_3 S_4 S_5 S_6 S_7 hO hi hj hn1 hn2 r0 r1 r2 s0 s1 s2 (Nat.le_refl _) (Nat.le_trans Z0 K139.1) (Fr.app N0 N139) S_c hz (O.keep K139 all0) (O1.keep K139) O2' (by decide) (by decide)
  · obtain ⟨v140, T140, L140, X140, hQ140, st140⟩ := own_static X0 hx hZ (y := (⟨"com/example/wyrd/wyrd/hoa/TokenIsPinLaw", "text", "(ICCC)Ljava/lang/String;"⟩ : MethodName)) (rm := ⟨4, 3, 10, 66⟩) (W := 0) (argsL := [(.int n2), (.int d0), (.int d1), (.int d2)]) (rest := []) hown (own_w hw 0 rfl) (own_w hw 1 rfl) (own_w hw 2 rfl) (own_w hw 3 rfl) (rmTx l Z a0 hw _ _ _ _ h0 n0 Z0 z z2 s0 s1 s2 S_c hz O) e0 (g := (mkF m 144 #[.val (.int p1), .val (.int p2), .val (.int p3), .val (.int p4), .val (.int p5), .val (.int p6), .val (.int i), .val (.int j), .val (.int bb), .val (.int n1), .val (.int c0), .val (.int c1), .val (.int c2), .val (.int n2), .val (.int d0), .val (.int d1), .val (.int d2), .val (.ref x), .unset, .unset, .unset, .unset] [(.int d2), (.int d1), (.int d0), (.int n2)])) rfl (by rw [hml]; rfl) (lenOf own_pd7 rfl) rfl (by show 2 * 0 + _ ≤ _; exact Nat.le_of_eq rfl) (hb hby at_144) (by decide) (by decide) (by decide) (by decide)
    obtain ⟨y, rfl, N140, K140, O2⟩ := hQ140
    refine own_stE (st140) ?_
    clear st140 X0 e0
    show OFinE p e below _ (T140.setTop (mkF m 147 #[.val (.int p1), .val (.int p2), .val (.int p3), .val (.int p4), .val (.int p5), .val (.int p6), .val (.int i), .val (.int j), .val (.int bb), .val (.int n1), .val (.int c0), .val (.int c1), .val (.int c2), .val (.int n2), .val (.int d0), .val (.int d1), .val (.int d2), .val (.ref x), .unset, .unset, .unset, .unset] [(.ref y)]))
    refine own_narrow0 (Q' := fun v h L => v = some (.int (1 : Int32)) ∧ Fr n0 L ∧ nI ≤ h.size) ?_ (fun _ _ _ _ _ q => q)
    show OFin p e below s _ _ _ (T140.setTop (mkF m 147 #[.val (.int p1), .val (.int p2), .val (.int p3), .val (.int p4), .val (.int p5), .val (.int p6), .val (.int i), .val (.int j), .val (.int bb), .val (.int n1), .val (.int c0), .val (.int c1), .val (.int c2), .val (.int n2), .val (.int d0), .val (.int d1), .val (.int d2), .val (.ref x), .unset, .unset, .unset, .unset] [(.ref y)]))
    refine own_st (fun _ kS => XS.astore X140.here hx rfl (hb hby at_147) rfl rfl (l' := #[.val (.int p1), .val (.int p2), .val (.int p3), .val (.int p4), .val (.int p5), .val (.int p6), .val (.int i), .val (.int j), .val (.int bb), .val (.int n1), .val (.int c0), .val (.int c1), .val (.int c2), .val (.int n2), .val (.int d0), .val (.int d1), .val (.int d2), .val (.ref x), .val (.ref y), .unset, .unset, .unset]) rfl kS) ?_
    show OFin p e below s _ _ _ (T140.setTop (mkF m 149 #[.val (.int p1), .val (.int p2), .val (.int p3), .val (.int p4), .val (.int p5), .val (.int p6), .val (.int i), .val (.int j), .val (.int bb), .val (.int n1), .val (.int c0), .val (.int c1), .val (.int c2), .val (.int n2), .val (.int d0), .val (.int d1), .val (.int d2), .val (.ref x), .val (.ref y), .unset, .unset, .unset] []))
    exact own_A hw ⟨hx, hZ, hby, hml, hown, hret, hlk, hnm⟩ X140 rfl p1 p2 p3 p4 p5 p6 i j bb n1 c0 c1 c2 n2 d0 d1 d2 x y n0 nI z kx S_0 S_1 S_2 S_3 S_4 S_5 S_6 S_7 hO hi hj hn1 hn2 r0 r1 r2 s0 s1 s2 (Nat.le_trans hnI K140.1) (Nat.le_trans Z0 K140.1) (Fr.app N0 N140) S_c hz (O.keep K140 all0) (O1.keep K140) O2 (by decide) (by decide)
set_option maxRecDepth 65536 in
set_option maxHeartbeats 40000000 in
theorem own_N {l : Launch} {Z : State} {a0 : Array Value} (hw : ∀ d ∈ tables_1, d.before a0 Z = true) {p : Program} {e : Env} {s : State} {m : MethodId} {args : Array Value} {below : List Frame} {meth : Method} {c : Code} (hC : OCtx Z p s m meth c "com/example/wyrd/wyrd/hoa/TokenIsPinLaw" "law" code maxLocals ret) {T0 : State} {locs : List Loc} {cells slots : Nat} (X0 : Stand p l e room_1 s m args below meth c T0 locs cells slots) {h0 : Heap} (e0 : T0.heap = h0) (p1 p2 p3 p4 p5 p6 i j bb n1 c0 c1 c2 n2 d0 d1 d2 : Int32) (n0 : Nat) (z : Int32) (kx : Int32 → Addr) (S_0 : Sta Z Z.heap "com/example/wyrd/wyrd/hoa/Tokens$Kind" "HEADER" "Lcom/example/wyrd/wyrd/hoa/Tokens$Kind;" (.ref (kx 0))) (S_1 : Sta Z Z.heap "com/example/wyrd/wyrd/hoa/Tokens$Kind" "IDENTIFIER" "Lcom/example/wyrd/wyrd/hoa/Tokens$Kind;" (.ref (kx 1))) (S_2 : Sta Z Z.heap "com/example/wyrd/wyrd/hoa/Tokens$Kind" "INTEGER" "Lcom/example/wyrd/wyrd/hoa/Tokens$Kind;" (.ref (kx 2))) (S_3 : Sta Z Z.heap "com/example/wyrd/wyrd/hoa/Tokens$Kind" "STRING" "Lcom/example/wyrd/wyrd/hoa/Tokens$Kind;" (.ref (kx 3))) (S_4 : Sta Z Z.heap "com/example/wyrd/wyrd/hoa/Tokens$Kind" "ALIAS" "Lcom/example/wyrd/wyrd/hoa/Tokens$Kind;" (.ref (kx 4))) (S_5 : Sta Z Z.heap "com/example/wyrd/wyrd/hoa/Tokens$Kind" "PUNCTUATION" "Lcom/example/wyrd/wyrd/hoa/Tokens$Kind;" (.ref (kx 5))) (S_6 : Sta Z Z.heap "com/example/wyrd/wyrd/hoa/Tokens$Kind" "SEPARATOR" "Lcom/example/wyrd/wyrd/hoa/Tokens$Kind;" (.ref (kx 6))) (S_7 : Sta Z Z.heap "com/example/wyrd/wyrd/hoa/Tokens$Kind" "END_OF_TEXT" "Lcom/example/wyrd/wyrd/hoa/Tokens$Kind;" (.ref (kx 7))) (hO : ∀ k : Int32, (k = 0 ∨ k = 1 ∨ k = 2 ∨ k = 3 ∨ k = 4 ∨ k = 5 ∨ k = 6 ∨ k = 7) → Fld Z Z.heap (kx k) "java/lang/Enum" "ordinal" "I" (.int k)) (hi : i = 0 ∨ i = 1 ∨ i = 2 ∨ i = 3 ∨ i = 4 ∨ i = 5 ∨ i = 6 ∨ i = 7) (hj : j = 0 ∨ j = 1 ∨ j = 2 ∨ j = 3 ∨ j = 4 ∨ j = 5 ∨ j = 6 ∨ j = 7) (hn1 : n1 = 0 ∨ n1 = 1 ∨ n1 = 2 ∨ n1 = 3) (hn2 : n2 = 0 ∨ n2 = 1 ∨ n2 = 2 ∨ n2 = 3) (r0 : 0 ≤ c0.toInt ∧ c0.toInt ≤ 255) (r1 : 0 ≤ c1.toInt ∧ c1.toInt ≤ 255) (r2 : 0 ≤ c2.toInt ∧ c2.toInt ≤ 255) (s0 : 0 ≤ d0.toInt ∧ d0.toInt ≤ 255) (s1 : 0 ≤ d1.toInt ∧ d1.toInt ≤ 255) (s2 : 0 ≤ d2.toInt ∧ d2.toInt ≤ 255) (Z0 : n0 ≤ h0.size) (N0 : Fr n0 locs) (S_c : Sta Z Z.heap "java/lang/String" "COMPACT_STRINGS" "Z" (.int z)) (hz : ¬ z = 0) (O : Old Z n0 h0) (hcs : cells = 0) (hss : slots = 0) (hh : Jvm.Lit.constHeld Z "java/lang/String" 7) (hcw : Jvm.Lit.compactW.before a0 Z = true) (hPv : OLit Z h0 s.vm) :
    OFinE p e below (OEnd s room_1.cells room_1.slots (fun v vm h L => v = some (.int (1 : Int32)) ∧ Fr n0 L)) (T0.setTop (mkF m 123 #[.val (.int p1), .val (.int p2), .val (.int p3), .val (.int p4), .val (.int p5), .val (.int p6), .val (.int i), .val (.int j), .val (.int bb), .val (.int n1), .val (.int c0), .val (.int c1), .val (.int c2), .val (.int n2), .val (.int d0), .val (.int d1), .val (.int d2), .unset, .unset, .unset, .unset, .unset] [])) := by
  have hC0 := hC
  obtain ⟨hx, hZ, hby, hml, hown, hret, hlk, hnm⟩ := hC
  subst hcs hss
  refine own_stE (fun _ kS => XS.iload X0.here hx rfl (hb hby at_123) rfl kS) ?_
  show OFinE p e below _ (T0.setTop (mkF m 125 #[.val (.int p1), .val (.int p2), .val (.int p3), .val (.int p4), .val (.int p5), .val (.int p6), .val (.int i), .val (.int j), .val (.int bb), .val (.int n1), .val (.int c0), .val (.int c1), .val (.int c2), .val (.int n2), .val (.int d0), .val (.int d1), .val (.int d2), .unset, .unset, .unset, .unset, .unset] [(.int n1)]))
  refine own_stE (fun _ kS => XS.iload X0.here hx rfl (hb hby at_125) rfl kS) ?_
  show OFinE p e below _ (T0.setTop (mkF m 127 #[.val (.int p1), .val (.int p2), .val (.int p3), .val (.int p4), .val (.int p5), .val (.int p6), .val (.int i), .val (.int j), .val (.int bb), .val (.int n1), .val (.int c0), .val (.int c1), .val (.int c2), .val (.int n2), .val (.int d0), .val (.int d1), .val (.int d2), .unset, .unset, .unset, .unset, .unset] [(.int c0), (.int n1)]))
  refine own_stE (fun _ kS => XS.iload X0.here hx rfl (hb hby at_127) rfl kS) ?_
  show OFinE p e below _ (T0.setTop (mkF m 129 #[.val (.int p1), .val (.int p2), .val (.int p3), .val (.int p4), .val (.int p5), .val (.int p6), .val (.int i), .val (.int j), .val (.int bb), .val (.int n1), .val (.int c0), .val (.int c1), .val (.int c2), .val (.int n2), .val (.int d0), .val (.int d1), .val (.int d2), .unset, .unset, .unset, .unset, .unset] [(.int c1), (.int c0), (.int n1)]))
  refine own_stE (fun _ kS => XS.iload X0.here hx rfl (hb hby at_129) rfl kS) ?_
  show OFinE p e below _ (T0.setTop (mkF m 131 #[.val (.int p1), .val (.int p2), .val (.int p3), .val (.int p4), .val (.int p5), .val (.int p6), .val (.int i), .val (.int j), .val (.int bb), .val (.int n1), .val (.int c0), .val (.int c1), .val (.int c2), .val (.int n2), .val (.int d0), .val (.int d1), .val (.int d2), .unset, .unset, .unset, .unset, .unset] [(.int c2), (.int c1), (.int c0), (.int n1)]))
  by_cases z1 : n1 = 0
  · obtain ⟨v141, T141, L141, X141, SS141, hZ, hown, hQ141, st141⟩ := own_staticW X0 hx hZ (y := (⟨"com/example/wyrd/wyrd/hoa/TokenIsPinLaw", "text", "(ICCC)Ljava/lang/String;"⟩ : MethodName)) (rm := ⟨3, 4, 8, 43⟩) (W := 0) (argsL := [(.int n1), (.int c0), (.int c1), (.int c2)]) (rest := []) hown (own_w hw 0 rfl) (own_w hw 1 rfl) (own_w hw 2 rfl) (own_w hw 3 rfl) (rmT0 l Z a0 hw _ _ _ _ h0 n0 Z0 z1 O hh hcw) (fun vm hW => OLit.warm hW hPv) e0 (g := (mkF m 131 #[.val (.int p1), .val (.int p2), .val (.int p3), .val (.int p4), .val (.int p5), .val (.int p6), .val (.int i), .val (.int j), .val (.int bb), .val (.int n1), .val (.int c0), .val (.int c1), .val (.int c2), .val (.int n2), .val (.int d0), .val (.int d1), .val (.int d2), .unset, .unset, .unset, .unset, .unset] [(.int c2), (.int c1), (.int c0), (.int n1)])) rfl (by rw [hml]; rfl) (lenOf own_pd7 rfl) rfl (by show 2 * 0 + _ ≤ _; exact Nat.le_of_eq rfl) (hb hby at_131) (by decide) (by decide) (by decide) (by decide)
    obtain ⟨x, rfl, N141, K141, F1, O1⟩ := hQ141
    refine own_stE (st141) ?_
    show OFinE p e below _ (T141.setTop (mkF m 134 #[.val (.int p1), .val (.int p2), .val (.int p3), .val (.int p4), .val (.int p5), .val (.int p6), .val (.int i), .val (.int j), .val (.int bb), .val (.int n1), .val (.int c0), .val (.int c1), .val (.int c2), .val (.int n2), .val (.int d0), .val (.int d1), .val (.int d2), .unset, .unset, .unset, .unset, .unset] [(.ref x)]))
    have O1' : OStr Z T141.heap x (own_cs n1 c0 c1 c2) := by rw [show (own_cs n1 c0 c1 c2) = [] from by simp [own_cs, z1]]; exact O1
    refine own_stE (fun _ kS => XS.astore X141.here hx rfl (hb hby at_134) rfl rfl (l' := #[.val (.int p1), .val (.int p2), .val (.int p3), .val (.int p4), .val (.int p5), .val (.int p6), .val (.int i), .val (.int j), .val (.int bb), .val (.int n1), .val (.int c0), .val (.int c1), .val (.int c2), .val (.int n2), .val (.int d0), .val (.int d1), .val (.int d2), .val (.ref x), .unset, .unset, .unset, .unset]) rfl kS) ?_
    show OFinE p e below _ (T141.setTop (mkF m 136 #[.val (.int p1), .val (.int p2), .val (.int p3), .val (.int p4), .val (.int p5), .val (.int p6), .val (.int i), .val (.int j), .val (.int bb), .val (.int n1), .val (.int c0), .val (.int c1), .val (.int c2), .val (.int n2), .val (.int d0), .val (.int d1), .val (.int d2), .val (.ref x), .unset, .unset, .unset, .unset] []))
    exact own_rebase SS141 (own_B hw ⟨hx, hZ, hby, hml, hown, hret, hlk, hnm⟩ X141 rfl p1 p2 p3 p4 p5 p6 i j bb n1 c0 c1 c2 n2 d0 d1 d2 x n0 T141.heap.size z kx S_0 S_1 S_2 S_3 S_4 S_5 S_6 S_7 hO hi hj hn1 hn2 r0 r1 r2 s0 s1 s2 (Nat.le_refl _) (Nat.le_trans Z0 K141.1) (Fr.app N0 N141) S_c hz (O.keep K141 all0) O1' (by decide) (by decide) hh hcw F1) (fun v vm h L q => ⟨q.2.2, q.1, q.2.1⟩)
  · obtain ⟨v142, T142, L142, X142, hQ142, st142⟩ := own_static X0 hx hZ (y := (⟨"com/example/wyrd/wyrd/hoa/TokenIsPinLaw", "text", "(ICCC)Ljava/lang/String;"⟩ : MethodName)) (rm := ⟨4, 3, 10, 66⟩) (W := 0) (argsL := [(.int n1), (.int c0), (.int c1), (.int c2)]) (rest := []) hown (own_w hw 0 rfl) (own_w hw 1 rfl) (own_w hw 2 rfl) (own_w hw 3 rfl) (rmTx l Z a0 hw _ _ _ _ h0 n0 Z0 z z1 r0 r1 r2 S_c hz O) e0 (g := (mkF m 131 #[.val (.int p1), .val (.int p2), .val (.int p3), .val (.int p4), .val (.int p5), .val (.int p6), .val (.int i), .val (.int j), .val (.int bb), .val (.int n1), .val (.int c0), .val (.int c1), .val (.int c2), .val (.int n2), .val (.int d0), .val (.int d1), .val (.int d2), .unset, .unset, .unset, .unset, .unset] [(.int c2), (.int c1), (.int c0), (.int n1)])) rfl (by rw [hml]; rfl) (lenOf own_pd7 rfl) rfl (by show 2 * 0 + _ ≤ _; exact Nat.le_of_eq rfl) (hb hby at_131) (by decide) (by decide) (by decide) (by decide)
    obtain ⟨x, rfl, N142, K142, O1⟩ := hQ142
    refine own_stE (st142) ?_
    clear st142 X0 e0
    show OFinE p e below _ (T142.setTop (mkF m 134 #[.val (.int p1), .val (.int p2), .val (.int p3), .val (.int p4), .val (.int p5), .val (.int p6), .val (.int i), .val (.int j), .val (.int bb), .val (.int n1), .val (.int c0), .val (.int c1), .val (.int c2), .val (.int n2), .val (.int d0), .val (.int d1), .val (.int d2), .unset, .unset, .unset, .unset, .unset] [(.ref x)]))
    have hPv' := hPv.keep K142
    refine own_stE (fun _ kS => XS.astore X142.here hx rfl (hb hby at_134) rfl rfl (l' := #[.val (.int p1), .val (.int p2), .val (.int p3), .val (.int p4), .val (.int p5), .val (.int p6), .val (.int i), .val (.int j), .val (.int bb), .val (.int n1), .val (.int c0), .val (.int c1), .val (.int c2), .val (.int n2), .val (.int d0), .val (.int d1), .val (.int d2), .val (.ref x), .unset, .unset, .unset, .unset]) rfl kS) ?_
    show OFinE p e below _ (T142.setTop (mkF m 136 #[.val (.int p1), .val (.int p2), .val (.int p3), .val (.int p4), .val (.int p5), .val (.int p6), .val (.int i), .val (.int j), .val (.int bb), .val (.int n1), .val (.int c0), .val (.int c1), .val (.int c2), .val (.int n2), .val (.int d0), .val (.int d1), .val (.int d2), .val (.ref x), .unset, .unset, .unset, .unset] []))
    obtain ⟨s₂, o, u1, u2, u3, v, L, u4, u5, u6⟩ := own_B hw ⟨hx, hZ, hby, hml, hown, hret, hlk, hnm⟩ X142 rfl p1 p2 p3 p4 p5 p6 i j bb n1 c0 c1 c2 n2 d0 d1 d2 x n0 0 z kx S_0 S_1 S_2 S_3 S_4 S_5 S_6 S_7 hO hi hj hn1 hn2 r0 r1 r2 s0 s1 s2 (Nat.zero_le _) (Nat.le_trans Z0 K142.1) (Fr.app N0 N142) S_c hz (O.keep K142 all0) O1 (by decide) (by decide) hh hcw hPv'
    exact ⟨s₂, o, u1, u2, u3, v, L, u4, ⟨u5.1, u5.2.1⟩, u6⟩
set_option maxRecDepth 65536 in
set_option maxHeartbeats 40000000 in
theorem own_M {l : Launch} {Z : State} {a0 : Array Value} (hw : ∀ d ∈ tables_1, d.before a0 Z = true) {p : Program} {e : Env} {s : State} {m : MethodId} {args : Array Value} {below : List Frame} {meth : Method} {c : Code} (hC : OCtx Z p s m meth c "com/example/wyrd/wyrd/hoa/TokenIsPinLaw" "law" code maxLocals ret) {T0 : State} {locs : List Loc} {cells slots : Nat} (X0 : Stand p l e room_1 s m args below meth c T0 locs cells slots) {h0 : Heap} (e0 : T0.heap = h0) (p1 p2 p3 p4 p5 p6 i j : Int32) (bb : Int32) (n0 : Nat) (z : Int32) (kx : Int32 → Addr) (S_0 : Sta Z Z.heap "com/example/wyrd/wyrd/hoa/Tokens$Kind" "HEADER" "Lcom/example/wyrd/wyrd/hoa/Tokens$Kind;" (.ref (kx 0))) (S_1 : Sta Z Z.heap "com/example/wyrd/wyrd/hoa/Tokens$Kind" "IDENTIFIER" "Lcom/example/wyrd/wyrd/hoa/Tokens$Kind;" (.ref (kx 1))) (S_2 : Sta Z Z.heap "com/example/wyrd/wyrd/hoa/Tokens$Kind" "INTEGER" "Lcom/example/wyrd/wyrd/hoa/Tokens$Kind;" (.ref (kx 2))) (S_3 : Sta Z Z.heap "com/example/wyrd/wyrd/hoa/Tokens$Kind" "STRING" "Lcom/example/wyrd/wyrd/hoa/Tokens$Kind;" (.ref (kx 3))) (S_4 : Sta Z Z.heap "com/example/wyrd/wyrd/hoa/Tokens$Kind" "ALIAS" "Lcom/example/wyrd/wyrd/hoa/Tokens$Kind;" (.ref (kx 4))) (S_5 : Sta Z Z.heap "com/example/wyrd/wyrd/hoa/Tokens$Kind" "PUNCTUATION" "Lcom/example/wyrd/wyrd/hoa/Tokens$Kind;" (.ref (kx 5))) (S_6 : Sta Z Z.heap "com/example/wyrd/wyrd/hoa/Tokens$Kind" "SEPARATOR" "Lcom/example/wyrd/wyrd/hoa/Tokens$Kind;" (.ref (kx 6))) (S_7 : Sta Z Z.heap "com/example/wyrd/wyrd/hoa/Tokens$Kind" "END_OF_TEXT" "Lcom/example/wyrd/wyrd/hoa/Tokens$Kind;" (.ref (kx 7))) (hO : ∀ k : Int32, (k = 0 ∨ k = 1 ∨ k = 2 ∨ k = 3 ∨ k = 4 ∨ k = 5 ∨ k = 6 ∨ k = 7) → Fld Z Z.heap (kx k) "java/lang/Enum" "ordinal" "I" (.int k)) (hi : i = 0 ∨ i = 1 ∨ i = 2 ∨ i = 3 ∨ i = 4 ∨ i = 5 ∨ i = 6 ∨ i = 7) (hj : j = 0 ∨ j = 1 ∨ j = 2 ∨ j = 3 ∨ j = 4 ∨ j = 5 ∨ j = 6 ∨ j = 7) (Z0 : n0 ≤ h0.size) (N0 : Fr n0 locs) (S_c : Sta Z Z.heap "java/lang/String" "COMPACT_STRINGS" "Z" (.int z)) (hz : ¬ z = 0) (O : Old Z n0 h0) (hcs : cells = 0) (hss : slots = 0) (hh : Jvm.Lit.constHeld Z "java/lang/String" 7) (hcw : Jvm.Lit.compactW.before a0 Z = true) (hPv : OLit Z h0 s.vm) :
    OFinE p e below (OEnd s room_1.cells room_1.slots (fun v vm h L => v = some (.int (1 : Int32)) ∧ Fr n0 L)) (T0.setTop (mkF m 45 #[.val (.int p1), .val (.int p2), .val (.int p3), .val (.int p4), .val (.int p5), .val (.int p6), .val (.int i), .val (.int j), .val (.int bb), .unset, .unset, .unset, .unset, .unset, .unset, .unset, .unset, .unset, .unset, .unset, .unset, .unset] [])) := by
  have hC0 := hC
  obtain ⟨hx, hZ, hby, hml, hown, hret, hlk, hnm⟩ := hC
  refine own_stE (fun _ kS => XS.iloadN X0.here hx rfl (hb hby at_45) rfl kS) ?_
  show OFinE p e below _ (T0.setTop (mkF m 46 #[.val (.int p1), .val (.int p2), .val (.int p3), .val (.int p4), .val (.int p5), .val (.int p6), .val (.int i), .val (.int j), .val (.int bb), .unset, .unset, .unset, .unset, .unset, .unset, .unset, .unset, .unset, .unset, .unset, .unset, .unset] [(.int p3)]))
  refine own_stE (fun _ kS => XS.iconst X0.here hx rfl (hb hby at_46) kS) ?_
  show OFinE p e below _ (T0.setTop (mkF m 47 #[.val (.int p1), .val (.int p2), .val (.int p3), .val (.int p4), .val (.int p5), .val (.int p6), .val (.int i), .val (.int j), .val (.int bb), .unset, .unset, .unset, .unset, .unset, .unset, .unset, .unset, .unset, .unset, .unset, .unset, .unset] [(.int (3 : Int32)), (.int p3)]))
  refine own_stE (fun _ kS => XS.iand X0.here hx rfl (hb hby at_47) rfl kS) ?_
  show OFinE p e below _ (T0.setTop (mkF m 48 #[.val (.int p1), .val (.int p2), .val (.int p3), .val (.int p4), .val (.int p5), .val (.int p6), .val (.int i), .val (.int j), .val (.int bb), .unset, .unset, .unset, .unset, .unset, .unset, .unset, .unset, .unset, .unset, .unset, .unset, .unset] [(.int (p3 &&& (3 : Int32)))]))
  refine own_stE (fun _ kS => XS.istore X0.here hx rfl (hb hby at_48) rfl (l' := #[.val (.int p1), .val (.int p2), .val (.int p3), .val (.int p4), .val (.int p5), .val (.int p6), .val (.int i), .val (.int j), .val (.int bb), .val (.int (p3 &&& (3 : Int32))), .unset, .unset, .unset, .unset, .unset, .unset, .unset, .unset, .unset, .unset, .unset, .unset]) rfl kS) ?_
  show OFinE p e below _ (T0.setTop (mkF m 50 #[.val (.int p1), .val (.int p2), .val (.int p3), .val (.int p4), .val (.int p5), .val (.int p6), .val (.int i), .val (.int j), .val (.int bb), .val (.int (p3 &&& (3 : Int32))), .unset, .unset, .unset, .unset, .unset, .unset, .unset, .unset, .unset, .unset, .unset, .unset] []))
  refine own_stE (fun _ kS => XS.iloadN X0.here hx rfl (hb hby at_50) rfl kS) ?_
  show OFinE p e below _ (T0.setTop (mkF m 51 #[.val (.int p1), .val (.int p2), .val (.int p3), .val (.int p4), .val (.int p5), .val (.int p6), .val (.int i), .val (.int j), .val (.int bb), .val (.int (p3 &&& (3 : Int32))), .unset, .unset, .unset, .unset, .unset, .unset, .unset, .unset, .unset, .unset, .unset, .unset] [(.int p3)]))
  refine own_stE (fun _ kS => XS.iconst X0.here hx rfl (hb hby at_51) kS) ?_
  show OFinE p e below _ (T0.setTop (mkF m 52 #[.val (.int p1), .val (.int p2), .val (.int p3), .val (.int p4), .val (.int p5), .val (.int p6), .val (.int i), .val (.int j), .val (.int bb), .val (.int (p3 &&& (3 : Int32))), .unset, .unset, .unset, .unset, .unset, .unset, .unset, .unset, .unset, .unset, .unset, .unset] [(.int (2 : Int32)), (.int p3)]))
  refine own_stE (fun _ kS => XS.iushr X0.here hx rfl (hb hby at_52) rfl kS) ?_
  show OFinE p e below _ (T0.setTop (mkF m 53 #[.val (.int p1), .val (.int p2), .val (.int p3), .val (.int p4), .val (.int p5), .val (.int p6), .val (.int i), .val (.int j), .val (.int bb), .val (.int (p3 &&& (3 : Int32))), .unset, .unset, .unset, .unset, .unset, .unset, .unset, .unset, .unset, .unset, .unset, .unset] [(.int ((p3.toUInt32 >>> ((2 : Int32) &&& 31).toUInt32).toInt32))]))
  refine own_stE (fun _ kS => XS.sipush X0.here hx rfl (hb hby at_53) kS) ?_
  show OFinE p e below _ (T0.setTop (mkF m 56 #[.val (.int p1), .val (.int p2), .val (.int p3), .val (.int p4), .val (.int p5), .val (.int p6), .val (.int i), .val (.int j), .val (.int bb), .val (.int (p3 &&& (3 : Int32))), .unset, .unset, .unset, .unset, .unset, .unset, .unset, .unset, .unset, .unset, .unset, .unset] [(.int (255 : Int32)), (.int ((p3.toUInt32 >>> ((2 : Int32) &&& 31).toUInt32).toInt32))]))
  refine own_stE (fun _ kS => XS.iand X0.here hx rfl (hb hby at_56) rfl kS) ?_
  show OFinE p e below _ (T0.setTop (mkF m 57 #[.val (.int p1), .val (.int p2), .val (.int p3), .val (.int p4), .val (.int p5), .val (.int p6), .val (.int i), .val (.int j), .val (.int bb), .val (.int (p3 &&& (3 : Int32))), .unset, .unset, .unset, .unset, .unset, .unset, .unset, .unset, .unset, .unset, .unset, .unset] [(.int (((p3.toUInt32 >>> ((2 : Int32) &&& 31).toUInt32).toInt32) &&& (255 : Int32)))]))
  refine own_stE (fun _ kS => XS.i2c X0.here hx rfl (hb hby at_57) rfl kS) ?_
  show OFinE p e below _ (T0.setTop (mkF m 58 #[.val (.int p1), .val (.int p2), .val (.int p3), .val (.int p4), .val (.int p5), .val (.int p6), .val (.int i), .val (.int j), .val (.int bb), .val (.int (p3 &&& (3 : Int32))), .unset, .unset, .unset, .unset, .unset, .unset, .unset, .unset, .unset, .unset, .unset, .unset] [(.int ((((p3.toUInt32 >>> ((2 : Int32) &&& 31).toUInt32).toInt32) &&& (255 : Int32)).toUInt32.toUInt16.toUInt32.toInt32))]))
  refine own_stE (fun _ kS => XS.istore X0.here hx rfl (hb hby at_58) rfl (l' := #[.val (.int p1), .val (.int p2), .val (.int p3), .val (.int p4), .val (.int p5), .val (.int p6), .val (.int i), .val (.int j), .val (.int bb), .val (.int (p3 &&& (3 : Int32))), .val (.int ((((p3.toUInt32 >>> ((2 : Int32) &&& 31).toUInt32).toInt32) &&& (255 : Int32)).toUInt32.toUInt16.toUInt32.toInt32)), .unset, .unset, .unset, .unset, .unset, .unset, .unset, .unset, .unset, .unset, .unset]) rfl kS) ?_
  show OFinE p e below _ (T0.setTop (mkF m 60 #[.val (.int p1), .val (.int p2), .val (.int p3), .val (.int p4), .val (.int p5), .val (.int p6), .val (.int i), .val (.int j), .val (.int bb), .val (.int (p3 &&& (3 : Int32))), .val (.int ((((p3.toUInt32 >>> ((2 : Int32) &&& 31).toUInt32).toInt32) &&& (255 : Int32)).toUInt32.toUInt16.toUInt32.toInt32)), .unset, .unset, .unset, .unset, .unset, .unset, .unset, .unset, .unset, .unset, .unset] []))
  refine own_stE (fun _ kS => XS.iloadN X0.here hx rfl (hb hby at_60) rfl kS) ?_
  show OFinE p e below _ (T0.setTop (mkF m 61 #[.val (.int p1), .val (.int p2), .val (.int p3), .val (.int p4), .val (.int p5), .val (.int p6), .val (.int i), .val (.int j), .val (.int bb), .val (.int (p3 &&& (3 : Int32))), .val (.int ((((p3.toUInt32 >>> ((2 : Int32) &&& 31).toUInt32).toInt32) &&& (255 : Int32)).toUInt32.toUInt16.toUInt32.toInt32)), .unset, .unset, .unset, .unset, .unset, .unset, .unset, .unset, .unset, .unset, .unset] [(.int p3)]))
  refine own_stE (fun _ kS => XS.bipush X0.here hx rfl (hb hby at_61) kS) ?_
  show OFinE p e below _ (T0.setTop (mkF m 63 #[.val (.int p1), .val (.int p2), .val (.int p3), .val (.int p4), .val (.int p5), .val (.int p6), .val (.int i), .val (.int j), .val (.int bb), .val (.int (p3 &&& (3 : Int32))), .val (.int ((((p3.toUInt32 >>> ((2 : Int32) &&& 31).toUInt32).toInt32) &&& (255 : Int32)).toUInt32.toUInt16.toUInt32.toInt32)), .unset, .unset, .unset, .unset, .unset, .unset, .unset, .unset, .unset, .unset, .unset] [(.int (10 : Int32)), (.int p3)]))
  refine own_stE (fun _ kS => XS.iushr X0.here hx rfl (hb hby at_63) rfl kS) ?_
  show OFinE p e below _ (T0.setTop (mkF m 64 #[.val (.int p1), .val (.int p2), .val (.int p3), .val (.int p4), .val (.int p5), .val (.int p6), .val (.int i), .val (.int j), .val (.int bb), .val (.int (p3 &&& (3 : Int32))), .val (.int ((((p3.toUInt32 >>> ((2 : Int32) &&& 31).toUInt32).toInt32) &&& (255 : Int32)).toUInt32.toUInt16.toUInt32.toInt32)), .unset, .unset, .unset, .unset, .unset, .unset, .unset, .unset, .unset, .unset, .unset] [(.int ((p3.toUInt32 >>> ((10 : Int32) &&& 31).toUInt32).toInt32))]))
  refine own_stE (fun _ kS => XS.sipush X0.here hx rfl (hb hby at_64) kS) ?_
  show OFinE p e below _ (T0.setTop (mkF m 67 #[.val (.int p1), .val (.int p2), .val (.int p3), .val (.int p4), .val (.int p5), .val (.int p6), .val (.int i), .val (.int j), .val (.int bb), .val (.int (p3 &&& (3 : Int32))), .val (.int ((((p3.toUInt32 >>> ((2 : Int32) &&& 31).toUInt32).toInt32) &&& (255 : Int32)).toUInt32.toUInt16.toUInt32.toInt32)), .unset, .unset, .unset, .unset, .unset, .unset, .unset, .unset, .unset, .unset, .unset] [(.int (255 : Int32)), (.int ((p3.toUInt32 >>> ((10 : Int32) &&& 31).toUInt32).toInt32))]))
  refine own_stE (fun _ kS => XS.iand X0.here hx rfl (hb hby at_67) rfl kS) ?_
  show OFinE p e below _ (T0.setTop (mkF m 68 #[.val (.int p1), .val (.int p2), .val (.int p3), .val (.int p4), .val (.int p5), .val (.int p6), .val (.int i), .val (.int j), .val (.int bb), .val (.int (p3 &&& (3 : Int32))), .val (.int ((((p3.toUInt32 >>> ((2 : Int32) &&& 31).toUInt32).toInt32) &&& (255 : Int32)).toUInt32.toUInt16.toUInt32.toInt32)), .unset, .unset, .unset, .unset, .unset, .unset, .unset, .unset, .unset, .unset, .unset] [(.int (((p3.toUInt32 >>> ((10 : Int32) &&& 31).toUInt32).toInt32) &&& (255 : Int32)))]))
  refine own_stE (fun _ kS => XS.i2c X0.here hx rfl (hb hby at_68) rfl kS) ?_
  show OFinE p e below _ (T0.setTop (mkF m 69 #[.val (.int p1), .val (.int p2), .val (.int p3), .val (.int p4), .val (.int p5), .val (.int p6), .val (.int i), .val (.int j), .val (.int bb), .val (.int (p3 &&& (3 : Int32))), .val (.int ((((p3.toUInt32 >>> ((2 : Int32) &&& 31).toUInt32).toInt32) &&& (255 : Int32)).toUInt32.toUInt16.toUInt32.toInt32)), .unset, .unset, .unset, .unset, .unset, .unset, .unset, .unset, .unset, .unset, .unset] [(.int ((((p3.toUInt32 >>> ((10 : Int32) &&& 31).toUInt32).toInt32) &&& (255 : Int32)).toUInt32.toUInt16.toUInt32.toInt32))]))
  refine own_stE (fun _ kS => XS.istore X0.here hx rfl (hb hby at_69) rfl (l' := #[.val (.int p1), .val (.int p2), .val (.int p3), .val (.int p4), .val (.int p5), .val (.int p6), .val (.int i), .val (.int j), .val (.int bb), .val (.int (p3 &&& (3 : Int32))), .val (.int ((((p3.toUInt32 >>> ((2 : Int32) &&& 31).toUInt32).toInt32) &&& (255 : Int32)).toUInt32.toUInt16.toUInt32.toInt32)), .val (.int ((((p3.toUInt32 >>> ((10 : Int32) &&& 31).toUInt32).toInt32) &&& (255 : Int32)).toUInt32.toUInt16.toUInt32.toInt32)), .unset, .unset, .unset, .unset, .unset, .unset, .unset, .unset, .unset, .unset]) rfl kS) ?_
  show OFinE p e below _ (T0.setTop (mkF m 71 #[.val (.int p1), .val (.int p2), .val (.int p3), .val (.int p4), .val (.int p5), .val (.int p6), .val (.int i), .val (.int j), .val (.int bb), .val (.int (p3 &&& (3 : Int32))), .val (.int ((((p3.toUInt32 >>> ((2 : Int32) &&& 31).toUInt32).toInt32) &&& (255 : Int32)).toUInt32.toUInt16.toUInt32.toInt32)), .val (.int ((((p3.toUInt32 >>> ((10 : Int32) &&& 31).toUInt32).toInt32) &&& (255 : Int32)).toUInt32.toUInt16.toUInt32.toInt32)), .unset, .unset, .unset, .unset, .unset, .unset, .unset, .unset, .unset, .unset] []))
  refine own_stE (fun _ kS => XS.iloadN X0.here hx rfl (hb hby at_71) rfl kS) ?_
  show OFinE p e below _ (T0.setTop (mkF m 72 #[.val (.int p1), .val (.int p2), .val (.int p3), .val (.int p4), .val (.int p5), .val (.int p6), .val (.int i), .val (.int j), .val (.int bb), .val (.int (p3 &&& (3 : Int32))), .val (.int ((((p3.toUInt32 >>> ((2 : Int32) &&& 31).toUInt32).toInt32) &&& (255 : Int32)).toUInt32.toUInt16.toUInt32.toInt32)), .val (.int ((((p3.toUInt32 >>> ((10 : Int32) &&& 31).toUInt32).toInt32) &&& (255 : Int32)).toUInt32.toUInt16.toUInt32.toInt32)), .unset, .unset, .unset, .unset, .unset, .unset, .unset, .unset, .unset, .unset] [(.int p3)]))
  refine own_stE (fun _ kS => XS.bipush X0.here hx rfl (hb hby at_72) kS) ?_
  show OFinE p e below _ (T0.setTop (mkF m 74 #[.val (.int p1), .val (.int p2), .val (.int p3), .val (.int p4), .val (.int p5), .val (.int p6), .val (.int i), .val (.int j), .val (.int bb), .val (.int (p3 &&& (3 : Int32))), .val (.int ((((p3.toUInt32 >>> ((2 : Int32) &&& 31).toUInt32).toInt32) &&& (255 : Int32)).toUInt32.toUInt16.toUInt32.toInt32)), .val (.int ((((p3.toUInt32 >>> ((10 : Int32) &&& 31).toUInt32).toInt32) &&& (255 : Int32)).toUInt32.toUInt16.toUInt32.toInt32)), .unset, .unset, .unset, .unset, .unset, .unset, .unset, .unset, .unset, .unset] [(.int (18 : Int32)), (.int p3)]))
  refine own_stE (fun _ kS => XS.iushr X0.here hx rfl (hb hby at_74) rfl kS) ?_
  show OFinE p e below _ (T0.setTop (mkF m 75 #[.val (.int p1), .val (.int p2), .val (.int p3), .val (.int p4), .val (.int p5), .val (.int p6), .val (.int i), .val (.int j), .val (.int bb), .val (.int (p3 &&& (3 : Int32))), .val (.int ((((p3.toUInt32 >>> ((2 : Int32) &&& 31).toUInt32).toInt32) &&& (255 : Int32)).toUInt32.toUInt16.toUInt32.toInt32)), .val (.int ((((p3.toUInt32 >>> ((10 : Int32) &&& 31).toUInt32).toInt32) &&& (255 : Int32)).toUInt32.toUInt16.toUInt32.toInt32)), .unset, .unset, .unset, .unset, .unset, .unset, .unset, .unset, .unset, .unset] [(.int ((p3.toUInt32 >>> ((18 : Int32) &&& 31).toUInt32).toInt32))]))
  refine own_stE (fun _ kS => XS.sipush X0.here hx rfl (hb hby at_75) kS) ?_
  show OFinE p e below _ (T0.setTop (mkF m 78 #[.val (.int p1), .val (.int p2), .val (.int p3), .val (.int p4), .val (.int p5), .val (.int p6), .val (.int i), .val (.int j), .val (.int bb), .val (.int (p3 &&& (3 : Int32))), .val (.int ((((p3.toUInt32 >>> ((2 : Int32) &&& 31).toUInt32).toInt32) &&& (255 : Int32)).toUInt32.toUInt16.toUInt32.toInt32)), .val (.int ((((p3.toUInt32 >>> ((10 : Int32) &&& 31).toUInt32).toInt32) &&& (255 : Int32)).toUInt32.toUInt16.toUInt32.toInt32)), .unset, .unset, .unset, .unset, .unset, .unset, .unset, .unset, .unset, .unset] [(.int (255 : Int32)), (.int ((p3.toUInt32 >>> ((18 : Int32) &&& 31).toUInt32).toInt32))]))
  refine own_stE (fun _ kS => XS.iand X0.here hx rfl (hb hby at_78) rfl kS) ?_
  show OFinE p e below _ (T0.setTop (mkF m 79 #[.val (.int p1), .val (.int p2), .val (.int p3), .val (.int p4), .val (.int p5), .val (.int p6), .val (.int i), .val (.int j), .val (.int bb), .val (.int (p3 &&& (3 : Int32))), .val (.int ((((p3.toUInt32 >>> ((2 : Int32) &&& 31).toUInt32).toInt32) &&& (255 : Int32)).toUInt32.toUInt16.toUInt32.toInt32)), .val (.int ((((p3.toUInt32 >>> ((10 : Int32) &&& 31).toUInt32).toInt32) &&& (255 : Int32)).toUInt32.toUInt16.toUInt32.toInt32)), .unset, .unset, .unset, .unset, .unset, .unset, .unset, .unset, .unset, .unset] [(.int (((p3.toUInt32 >>> ((18 : Int32) &&& 31).toUInt32).toInt32) &&& (255 : Int32)))]))
  refine own_stE (fun _ kS => XS.i2c X0.here hx rfl (hb hby at_79) rfl kS) ?_
  show OFinE p e below _ (T0.setTop (mkF m 80 #[.val (.int p1), .val (.int p2), .val (.int p3), .val (.int p4), .val (.int p5), .val (.int p6), .val (.int i), .val (.int j), .val (.int bb), .val (.int (p3 &&& (3 : Int32))), .val (.int ((((p3.toUInt32 >>> ((2 : Int32) &&& 31).toUInt32).toInt32) &&& (255 : Int32)).toUInt32.toUInt16.toUInt32.toInt32)), .val (.int ((((p3.toUInt32 >>> ((10 : Int32) &&& 31).toUInt32).toInt32) &&& (255 : Int32)).toUInt32.toUInt16.toUInt32.toInt32)), .unset, .unset, .unset, .unset, .unset, .unset, .unset, .unset, .unset, .unset] [(.int ((((p3.toUInt32 >>> ((18 : Int32) &&& 31).toUInt32).toInt32) &&& (255 : Int32)).toUInt32.toUInt16.toUInt32.toInt32))]))
  refine own_stE (fun _ kS => XS.istore X0.here hx rfl (hb hby at_80) rfl (l' := #[.val (.int p1), .val (.int p2), .val (.int p3), .val (.int p4), .val (.int p5), .val (.int p6), .val (.int i), .val (.int j), .val (.int bb), .val (.int (p3 &&& (3 : Int32))), .val (.int ((((p3.toUInt32 >>> ((2 : Int32) &&& 31).toUInt32).toInt32) &&& (255 : Int32)).toUInt32.toUInt16.toUInt32.toInt32)), .val (.int ((((p3.toUInt32 >>> ((10 : Int32) &&& 31).toUInt32).toInt32) &&& (255 : Int32)).toUInt32.toUInt16.toUInt32.toInt32)), .val (.int ((((p3.toUInt32 >>> ((18 : Int32) &&& 31).toUInt32).toInt32) &&& (255 : Int32)).toUInt32.toUInt16.toUInt32.toInt32)), .unset, .unset, .unset, .unset, .unset, .unset, .unset, .unset, .unset]) rfl kS) ?_
  show OFinE p e below _ (T0.setTop (mkF m 82 #[.val (.int p1), .val (.int p2), .val (.int p3), .val (.int p4), .val (.int p5), .val (.int p6), .val (.int i), .val (.int j), .val (.int bb), .val (.int (p3 &&& (3 : Int32))), .val (.int ((((p3.toUInt32 >>> ((2 : Int32) &&& 31).toUInt32).toInt32) &&& (255 : Int32)).toUInt32.toUInt16.toUInt32.toInt32)), .val (.int ((((p3.toUInt32 >>> ((10 : Int32) &&& 31).toUInt32).toInt32) &&& (255 : Int32)).toUInt32.toUInt16.toUInt32.toInt32)), .val (.int ((((p3.toUInt32 >>> ((18 : Int32) &&& 31).toUInt32).toInt32) &&& (255 : Int32)).toUInt32.toUInt16.toUInt32.toInt32)), .unset, .unset, .unset, .unset, .unset, .unset, .unset, .unset, .unset] []))
  refine own_stE (fun _ kS => XS.iload X0.here hx rfl (hb hby at_82) rfl kS) ?_
  show OFinE p e below _ (T0.setTop (mkF m 84 #[.val (.int p1), .val (.int p2), .val (.int p3), .val (.int p4), .val (.int p5), .val (.int p6), .val (.int i), .val (.int j), .val (.int bb), .val (.int (p3 &&& (3 : Int32))), .val (.int ((((p3.toUInt32 >>> ((2 : Int32) &&& 31).toUInt32).toInt32) &&& (255 : Int32)).toUInt32.toUInt16.toUInt32.toInt32)), .val (.int ((((p3.toUInt32 >>> ((10 : Int32) &&& 31).toUInt32).toInt32) &&& (255 : Int32)).toUInt32.toUInt16.toUInt32.toInt32)), .val (.int ((((p3.toUInt32 >>> ((18 : Int32) &&& 31).toUInt32).toInt32) &&& (255 : Int32)).toUInt32.toUInt16.toUInt32.toInt32)), .unset, .unset, .unset, .unset, .unset, .unset, .unset, .unset, .unset] [(.int bb)]))
  refine own_stE (fun _ kS => XS.iconst X0.here hx rfl (hb hby at_84) kS) ?_
  show OFinE p e below _ (T0.setTop (mkF m 85 #[.val (.int p1), .val (.int p2), .val (.int p3), .val (.int p4), .val (.int p5), .val (.int p6), .val (.int i), .val (.int j), .val (.int bb), .val (.int (p3 &&& (3 : Int32))), .val (.int ((((p3.toUInt32 >>> ((2 : Int32) &&& 31).toUInt32).toInt32) &&& (255 : Int32)).toUInt32.toUInt16.toUInt32.toInt32)), .val (.int ((((p3.toUInt32 >>> ((10 : Int32) &&& 31).toUInt32).toInt32) &&& (255 : Int32)).toUInt32.toUInt16.toUInt32.toInt32)), .val (.int ((((p3.toUInt32 >>> ((18 : Int32) &&& 31).toUInt32).toInt32) &&& (255 : Int32)).toUInt32.toUInt16.toUInt32.toInt32)), .unset, .unset, .unset, .unset, .unset, .unset, .unset, .unset, .unset] [(.int (3 : Int32)), (.int bb)]))
  refine own_stE (fun _ kS => XS.iand X0.here hx rfl (hb hby at_85) rfl kS) ?_
  show OFinE p e below _ (T0.setTop (mkF m 86 #[.val (.int p1), .val (.int p2), .val (.int p3), .val (.int p4), .val (.int p5), .val (.int p6), .val (.int i), .val (.int j), .val (.int bb), .val (.int (p3 &&& (3 : Int32))), .val (.int ((((p3.toUInt32 >>> ((2 : Int32) &&& 31).toUInt32).toInt32) &&& (255 : Int32)).toUInt32.toUInt16.toUInt32.toInt32)), .val (.int ((((p3.toUInt32 >>> ((10 : Int32) &&& 31).toUInt32).toInt32) &&& (255 : Int32)).toUInt32.toUInt16.toUInt32.toInt32)), .val (.int ((((p3.toUInt32 >>> ((18 : Int32) &&& 31).toUInt32).toInt32) &&& (255 : Int32)).toUInt32.toUInt16.toUInt32.toInt32)), .unset, .unset, .unset, .unset, .unset, .unset, .unset, .unset, .unset] [(.int (bb &&& (3 : Int32)))]))
  refine own_stE (fun _ kS => XS.istore X0.here hx rfl (hb hby at_86) rfl (l' := #[.val (.int p1), .val (.int p2), .val (.int p3), .val (.int p4), .val (.int p5), .val (.int p6), .val (.int i), .val (.int j), .val (.int bb), .val (.int (p3 &&& (3 : Int32))), .val (.int ((((p3.toUInt32 >>> ((2 : Int32) &&& 31).toUInt32).toInt32) &&& (255 : Int32)).toUInt32.toUInt16.toUInt32.toInt32)), .val (.int ((((p3.toUInt32 >>> ((10 : Int32) &&& 31).toUInt32).toInt32) &&& (255 : Int32)).toUInt32.toUInt16.toUInt32.toInt32)), .val (.int ((((p3.toUInt32 >>> ((18 : Int32) &&& 31).toUInt32).toInt32) &&& (255 : Int32)).toUInt32.toUInt16.toUInt32.toInt32)), .val (.int (bb &&& (3 : Int32))), .unset, .unset, .unset, .unset, .unset, .unset, .unset, .unset]) rfl kS) ?_
  show OFinE p e below _ (T0.setTop (mkF m 88 #[.val (.int p1), .val (.int p2), .val (.int p3), .val (.int p4), .val (.int p5), .val (.int p6), .val (.int i), .val (.int j), .val (.int bb), .val (.int (p3 &&& (3 : Int32))), .val (.int ((((p3.toUInt32 >>> ((2 : Int32) &&& 31).toUInt32).toInt32) &&& (255 : Int32)).toUInt32.toUInt16.toUInt32.toInt32)), .val (.int ((((p3.toUInt32 >>> ((10 : Int32) &&& 31).toUInt32).toInt32) &&& (255 : Int32)).toUInt32.toUInt16.toUInt32.toInt32)), .val (.int ((((p3.toUInt32 >>> ((18 : Int32) &&& 31).toUInt32).toInt32) &&& (255 : Int32)).toUInt32.toUInt16.toUInt32.toInt32)), .val (.int (bb &&& (3 : Int32))), .unset, .unset, .unset, .unset, .unset, .unset, .unset, .unset] []))
  refine own_stE (fun _ kS => XS.iload X0.here hx rfl (hb hby at_88) rfl kS) ?_
  show OFinE p e below _ (T0.setTop (mkF m 90 #[.val (.int p1), .val (.int p2), .val (.int p3), .val (.int p4), .val (.int p5), .val (.int p6), .val (.int i), .val (.int j), .val (.int bb), .val (.int (p3 &&& (3 : Int32))), .val (.int ((((p3.toUInt32 >>> ((2 : Int32) &&& 31).toUInt32).toInt32) &&& (255 : Int32)).toUInt32.toUInt16.toUInt32.toInt32)), .val (.int ((((p3.toUInt32 >>> ((10 : Int32) &&& 31).toUInt32).toInt32) &&& (255 : Int32)).toUInt32.toUInt16.toUInt32.toInt32)), .val (.int ((((p3.toUInt32 >>> ((18 : Int32) &&& 31).toUInt32).toInt32) &&& (255 : Int32)).toUInt32.toUInt16.toUInt32.toInt32)), .val (.int (bb &&& (3 : Int32))), .unset, .unset, .unset, .unset, .unset, .unset, .unset, .unset] [(.int bb)]))
  refine own_stE (fun _ kS => XS.iconst X0.here hx rfl (hb hby at_90) kS) ?_
  show OFinE p e below _ (T0.setTop (mkF m 91 #[.val (.int p1), .val (.int p2), .val (.int p3), .val (.int p4), .val (.int p5), .val (.int p6), .val (.int i), .val (.int j), .val (.int bb), .val (.int (p3 &&& (3 : Int32))), .val (.int ((((p3.toUInt32 >>> ((2 : Int32) &&& 31).toUInt32).toInt32) &&& (255 : Int32)).toUInt32.toUInt16.toUInt32.toInt32)), .val (.int ((((p3.toUInt32 >>> ((10 : Int32) &&& 31).toUInt32).toInt32) &&& (255 : Int32)).toUInt32.toUInt16.toUInt32.toInt32)), .val (.int ((((p3.toUInt32 >>> ((18 : Int32) &&& 31).toUInt32).toInt32) &&& (255 : Int32)).toUInt32.toUInt16.toUInt32.toInt32)), .val (.int (bb &&& (3 : Int32))), .unset, .unset, .unset, .unset, .unset, .unset, .unset, .unset] [(.int (2 : Int32)), (.int bb)]))
  refine own_stE (fun _ kS => XS.iushr X0.here hx rfl (hb hby at_91) rfl kS) ?_
  show OFinE p e below _ (T0.setTop (mkF m 92 #[.val (.int p1), .val (.int p2), .val (.int p3), .val (.int p4), .val (.int p5), .val (.int p6), .val (.int i), .val (.int j), .val (.int bb), .val (.int (p3 &&& (3 : Int32))), .val (.int ((((p3.toUInt32 >>> ((2 : Int32) &&& 31).toUInt32).toInt32) &&& (255 : Int32)).toUInt32.toUInt16.toUInt32.toInt32)), .val (.int ((((p3.toUInt32 >>> ((10 : Int32) &&& 31).toUInt32).toInt32) &&& (255 : Int32)).toUInt32.toUInt16.toUInt32.toInt32)), .val (.int ((((p3.toUInt32 >>> ((18 : Int32) &&& 31).toUInt32).toInt32) &&& (255 : Int32)).toUInt32.toUInt16.toUInt32.toInt32)), .val (.int (bb &&& (3 : Int32))), .unset, .unset, .unset, .unset, .unset, .unset, .unset, .unset] [(.int ((bb.toUInt32 >>> ((2 : Int32) &&& 31).toUInt32).toInt32))]))
  refine own_stE (fun _ kS => XS.sipush X0.here hx rfl (hb hby at_92) kS) ?_
  show OFinE p e below _ (T0.setTop (mkF m 95 #[.val (.int p1), .val (.int p2), .val (.int p3), .val (.int p4), .val (.int p5), .val (.int p6), .val (.int i), .val (.int j), .val (.int bb), .val (.int (p3 &&& (3 : Int32))), .val (.int ((((p3.toUInt32 >>> ((2 : Int32) &&& 31).toUInt32).toInt32) &&& (255 : Int32)).toUInt32.toUInt16.toUInt32.toInt32)), .val (.int ((((p3.toUInt32 >>> ((10 : Int32) &&& 31).toUInt32).toInt32) &&& (255 : Int32)).toUInt32.toUInt16.toUInt32.toInt32)), .val (.int ((((p3.toUInt32 >>> ((18 : Int32) &&& 31).toUInt32).toInt32) &&& (255 : Int32)).toUInt32.toUInt16.toUInt32.toInt32)), .val (.int (bb &&& (3 : Int32))), .unset, .unset, .unset, .unset, .unset, .unset, .unset, .unset] [(.int (255 : Int32)), (.int ((bb.toUInt32 >>> ((2 : Int32) &&& 31).toUInt32).toInt32))]))
  refine own_stE (fun _ kS => XS.iand X0.here hx rfl (hb hby at_95) rfl kS) ?_
  show OFinE p e below _ (T0.setTop (mkF m 96 #[.val (.int p1), .val (.int p2), .val (.int p3), .val (.int p4), .val (.int p5), .val (.int p6), .val (.int i), .val (.int j), .val (.int bb), .val (.int (p3 &&& (3 : Int32))), .val (.int ((((p3.toUInt32 >>> ((2 : Int32) &&& 31).toUInt32).toInt32) &&& (255 : Int32)).toUInt32.toUInt16.toUInt32.toInt32)), .val (.int ((((p3.toUInt32 >>> ((10 : Int32) &&& 31).toUInt32).toInt32) &&& (255 : Int32)).toUInt32.toUInt16.toUInt32.toInt32)), .val (.int ((((p3.toUInt32 >>> ((18 : Int32) &&& 31).toUInt32).toInt32) &&& (255 : Int32)).toUInt32.toUInt16.toUInt32.toInt32)), .val (.int (bb &&& (3 : Int32))), .unset, .unset, .unset, .unset, .unset, .unset, .unset, .unset] [(.int (((bb.toUInt32 >>> ((2 : Int32) &&& 31).toUInt32).toInt32) &&& (255 : Int32)))]))
  refine own_stE (fun _ kS => XS.i2c X0.here hx rfl (hb hby at_96) rfl kS) ?_
  show OFinE p e below _ (T0.setTop (mkF m 97 #[.val (.int p1), .val (.int p2), .val (.int p3), .val (.int p4), .val (.int p5), .val (.int p6), .val (.int i), .val (.int j), .val (.int bb), .val (.int (p3 &&& (3 : Int32))), .val (.int ((((p3.toUInt32 >>> ((2 : Int32) &&& 31).toUInt32).toInt32) &&& (255 : Int32)).toUInt32.toUInt16.toUInt32.toInt32)), .val (.int ((((p3.toUInt32 >>> ((10 : Int32) &&& 31).toUInt32).toInt32) &&& (255 : Int32)).toUInt32.toUInt16.toUInt32.toInt32)), .val (.int ((((p3.toUInt32 >>> ((18 : Int32) &&& 31).toUInt32).toInt32) &&& (255 : Int32)).toUInt32.toUInt16.toUInt32.toInt32)), .val (.int (bb &&& (3 : Int32))), .unset, .unset, .unset, .unset, .unset, .unset, .unset, .unset] [(.int ((((bb.toUInt32 >>> ((2 : Int32) &&& 31).toUInt32).toInt32) &&& (255 : Int32)).toUInt32.toUInt16.toUInt32.toInt32))]))
  refine own_stE (fun _ kS => XS.istore X0.here hx rfl (hb hby at_97) rfl (l' := #[.val (.int p1), .val (.int p2), .val (.int p3), .val (.int p4), .val (.int p5), .val (.int p6), .val (.int i), .val (.int j), .val (.int bb), .val (.int (p3 &&& (3 : Int32))), .val (.int ((((p3.toUInt32 >>> ((2 : Int32) &&& 31).toUInt32).toInt32) &&& (255 : Int32)).toUInt32.toUInt16.toUInt32.toInt32)), .val (.int ((((p3.toUInt32 >>> ((10 : Int32) &&& 31).toUInt32).toInt32) &&& (255 : Int32)).toUInt32.toUInt16.toUInt32.toInt32)), .val (.int ((((p3.toUInt32 >>> ((18 : Int32) &&& 31).toUInt32).toInt32) &&& (255 : Int32)).toUInt32.toUInt16.toUInt32.toInt32)), .val (.int (bb &&& (3 : Int32))), .val (.int ((((bb.toUInt32 >>> ((2 : Int32) &&& 31).toUInt32).toInt32) &&& (255 : Int32)).toUInt32.toUInt16.toUInt32.toInt32)), .unset, .unset, .unset, .unset, .unset, .unset, .unset]) rfl kS) ?_
  show OFinE p e below _ (T0.setTop (mkF m 99 #[.val (.int p1), .val (.int p2), .val (.int p3), .val (.int p4), .val (.int p5), .val (.int p6), .val (.int i), .val (.int j), .val (.int bb), .val (.int (p3 &&& (3 : Int32))), .val (.int ((((p3.toUInt32 >>> ((2 : Int32) &&& 31).toUInt32).toInt32) &&& (255 : Int32)).toUInt32.toUInt16.toUInt32.toInt32)), .val (.int ((((p3.toUInt32 >>> ((10 : Int32) &&& 31).toUInt32).toInt32) &&& (255 : Int32)).toUInt32.toUInt16.toUInt32.toInt32)), .val (.int ((((p3.toUInt32 >>> ((18 : Int32) &&& 31).toUInt32).toInt32) &&& (255 : Int32)).toUInt32.toUInt16.toUInt32.toInt32)), .val (.int (bb &&& (3 : Int32))), .val (.int ((((bb.toUInt32 >>> ((2 : Int32) &&& 31).toUInt32).toInt32) &&& (255 : Int32)).toUInt32.toUInt16.toUInt32.toInt32)), .unset, .unset, .unset, .unset, .unset, .unset, .unset] []))
  refine own_stE (fun _ kS => XS.iload X0.here hx rfl (hb hby at_99) rfl kS) ?_
  show OFinE p e below _ (T0.setTop (mkF m 101 #[.val (.int p1), .val (.int p2), .val (.int p3), .val (.int p4), .val (.int p5), .val (.int p6), .val (.int i), .val (.int j), .val (.int bb), .val (.int (p3 &&& (3 : Int32))), .val (.int ((((p3.toUInt32 >>> ((2 : Int32) &&& 31).toUInt32).toInt32) &&& (255 : Int32)).toUInt32.toUInt16.toUInt32.toInt32)), .val (.int ((((p3.toUInt32 >>> ((10 : Int32) &&& 31).toUInt32).toInt32) &&& (255 : Int32)).toUInt32.toUInt16.toUInt32.toInt32)), .val (.int ((((p3.toUInt32 >>> ((18 : Int32) &&& 31).toUInt32).toInt32) &&& (255 : Int32)).toUInt32.toUInt16.toUInt32.toInt32)), .val (.int (bb &&& (3 : Int32))), .val (.int ((((bb.toUInt32 >>> ((2 : Int32) &&& 31).toUInt32).toInt32) &&& (255 : Int32)).toUInt32.toUInt16.toUInt32.toInt32)), .unset, .unset, .unset, .unset, .unset, .unset, .unset] [(.int bb)]))
  refine own_stE (fun _ kS => XS.bipush X0.here hx rfl (hb hby at_101) kS) ?_
  show OFinE p e below _ (T0.setTop (mkF m 103 #[.val (.int p1), .val (.int p2), .val (.int p3), .val (.int p4), .val (.int p5), .val (.int p6), .val (.int i), .val (.int j), .val (.int bb), .val (.int (p3 &&& (3 : Int32))), .val (.int ((((p3.toUInt32 >>> ((2 : Int32) &&& 31).toUInt32).toInt32) &&& (255 : Int32)).toUInt32.toUInt16.toUInt32.toInt32)), .val (.int ((((p3.toUInt32 >>> ((10 : Int32) &&& 31).toUInt32).toInt32) &&& (255 : Int32)).toUInt32.toUInt16.toUInt32.toInt32)), .val (.int ((((p3.toUInt32 >>> ((18 : Int32) &&& 31).toUInt32).toInt32) &&& (255 : Int32)).toUInt32.toUInt16.toUInt32.toInt32)), .val (.int (bb &&& (3 : Int32))), .val (.int ((((bb.toUInt32 >>> ((2 : Int32) &&& 31).toUInt32).toInt32) &&& (255 : Int32)).toUInt32.toUInt16.toUInt32.toInt32)), .unset, .unset, .unset, .unset, .unset, .unset, .unset] [(.int (10 : Int32)), (.int bb)]))
  refine own_stE (fun _ kS => XS.iushr X0.here hx rfl (hb hby at_103) rfl kS) ?_
  show OFinE p e below _ (T0.setTop (mkF m 104 #[.val (.int p1), .val (.int p2), .val (.int p3), .val (.int p4), .val (.int p5), .val (.int p6), .val (.int i), .val (.int j), .val (.int bb), .val (.int (p3 &&& (3 : Int32))), .val (.int ((((p3.toUInt32 >>> ((2 : Int32) &&& 31).toUInt32).toInt32) &&& (255 : Int32)).toUInt32.toUInt16.toUInt32.toInt32)), .val (.int ((((p3.toUInt32 >>> ((10 : Int32) &&& 31).toUInt32).toInt32) &&& (255 : Int32)).toUInt32.toUInt16.toUInt32.toInt32)), .val (.int ((((p3.toUInt32 >>> ((18 : Int32) &&& 31).toUInt32).toInt32) &&& (255 : Int32)).toUInt32.toUInt16.toUInt32.toInt32)), .val (.int (bb &&& (3 : Int32))), .val (.int ((((bb.toUInt32 >>> ((2 : Int32) &&& 31).toUInt32).toInt32) &&& (255 : Int32)).toUInt32.toUInt16.toUInt32.toInt32)), .unset, .unset, .unset, .unset, .unset, .unset, .unset] [(.int ((bb.toUInt32 >>> ((10 : Int32) &&& 31).toUInt32).toInt32))]))
  refine own_stE (fun _ kS => XS.sipush X0.here hx rfl (hb hby at_104) kS) ?_
  show OFinE p e below _ (T0.setTop (mkF m 107 #[.val (.int p1), .val (.int p2), .val (.int p3), .val (.int p4), .val (.int p5), .val (.int p6), .val (.int i), .val (.int j), .val (.int bb), .val (.int (p3 &&& (3 : Int32))), .val (.int ((((p3.toUInt32 >>> ((2 : Int32) &&& 31).toUInt32).toInt32) &&& (255 : Int32)).toUInt32.toUInt16.toUInt32.toInt32)), .val (.int ((((p3.toUInt32 >>> ((10 : Int32) &&& 31).toUInt32).toInt32) &&& (255 : Int32)).toUInt32.toUInt16.toUInt32.toInt32)), .val (.int ((((p3.toUInt32 >>> ((18 : Int32) &&& 31).toUInt32).toInt32) &&& (255 : Int32)).toUInt32.toUInt16.toUInt32.toInt32)), .val (.int (bb &&& (3 : Int32))), .val (.int ((((bb.toUInt32 >>> ((2 : Int32) &&& 31).toUInt32).toInt32) &&& (255 : Int32)).toUInt32.toUInt16.toUInt32.toInt32)), .unset, .unset, .unset, .unset, .unset, .unset, .unset] [(.int (255 : Int32)), (.int ((bb.toUInt32 >>> ((10 : Int32) &&& 31).toUInt32).toInt32))]))
  refine own_stE (fun _ kS => XS.iand X0.here hx rfl (hb hby at_107) rfl kS) ?_
  show OFinE p e below _ (T0.setTop (mkF m 108 #[.val (.int p1), .val (.int p2), .val (.int p3), .val (.int p4), .val (.int p5), .val (.int p6), .val (.int i), .val (.int j), .val (.int bb), .val (.int (p3 &&& (3 : Int32))), .val (.int ((((p3.toUInt32 >>> ((2 : Int32) &&& 31).toUInt32).toInt32) &&& (255 : Int32)).toUInt32.toUInt16.toUInt32.toInt32)), .val (.int ((((p3.toUInt32 >>> ((10 : Int32) &&& 31).toUInt32).toInt32) &&& (255 : Int32)).toUInt32.toUInt16.toUInt32.toInt32)), .val (.int ((((p3.toUInt32 >>> ((18 : Int32) &&& 31).toUInt32).toInt32) &&& (255 : Int32)).toUInt32.toUInt16.toUInt32.toInt32)), .val (.int (bb &&& (3 : Int32))), .val (.int ((((bb.toUInt32 >>> ((2 : Int32) &&& 31).toUInt32).toInt32) &&& (255 : Int32)).toUInt32.toUInt16.toUInt32.toInt32)), .unset, .unset, .unset, .unset, .unset, .unset, .unset] [(.int (((bb.toUInt32 >>> ((10 : Int32) &&& 31).toUInt32).toInt32) &&& (255 : Int32)))]))
  refine own_stE (fun _ kS => XS.i2c X0.here hx rfl (hb hby at_108) rfl kS) ?_
  show OFinE p e below _ (T0.setTop (mkF m 109 #[.val (.int p1), .val (.int p2), .val (.int p3), .val (.int p4), .val (.int p5), .val (.int p6), .val (.int i), .val (.int j), .val (.int bb), .val (.int (p3 &&& (3 : Int32))), .val (.int ((((p3.toUInt32 >>> ((2 : Int32) &&& 31).toUInt32).toInt32) &&& (255 : Int32)).toUInt32.toUInt16.toUInt32.toInt32)), .val (.int ((((p3.toUInt32 >>> ((10 : Int32) &&& 31).toUInt32).toInt32) &&& (255 : Int32)).toUInt32.toUInt16.toUInt32.toInt32)), .val (.int ((((p3.toUInt32 >>> ((18 : Int32) &&& 31).toUInt32).toInt32) &&& (255 : Int32)).toUInt32.toUInt16.toUInt32.toInt32)), .val (.int (bb &&& (3 : Int32))), .val (.int ((((bb.toUInt32 >>> ((2 : Int32) &&& 31).toUInt32).toInt32) &&& (255 : Int32)).toUInt32.toUInt16.toUInt32.toInt32)), .unset, .unset, .unset, .unset, .unset, .unset, .unset] [(.int ((((bb.toUInt32 >>> ((10 : Int32) &&& 31).toUInt32).toInt32) &&& (255 : Int32)).toUInt32.toUInt16.toUInt32.toInt32))]))
  refine own_stE (fun _ kS => XS.istore X0.here hx rfl (hb hby at_109) rfl (l' := #[.val (.int p1), .val (.int p2), .val (.int p3), .val (.int p4), .val (.int p5), .val (.int p6), .val (.int i), .val (.int j), .val (.int bb), .val (.int (p3 &&& (3 : Int32))), .val (.int ((((p3.toUInt32 >>> ((2 : Int32) &&& 31).toUInt32).toInt32) &&& (255 : Int32)).toUInt32.toUInt16.toUInt32.toInt32)), .val (.int ((((p3.toUInt32 >>> ((10 : Int32) &&& 31).toUInt32).toInt32) &&& (255 : Int32)).toUInt32.toUInt16.toUInt32.toInt32)), .val (.int ((((p3.toUInt32 >>> ((18 : Int32) &&& 31).toUInt32).toInt32) &&& (255 : Int32)).toUInt32.toUInt16.toUInt32.toInt32)), .val (.int (bb &&& (3 : Int32))), .val (.int ((((bb.toUInt32 >>> ((2 : Int32) &&& 31).toUInt32).toInt32) &&& (255 : Int32)).toUInt32.toUInt16.toUInt32.toInt32)), .val (.int ((((bb.toUInt32 >>> ((10 : Int32) &&& 31).toUInt32).toInt32) &&& (255 : Int32)).toUInt32.toUInt16.toUInt32.toInt32)), .unset, .unset, .unset, .unset, .unset, .unset]) rfl kS) ?_
  show OFinE p e below _ (T0.setTop (mkF m 111 #[.val (.int p1), .val (.int p2), .val (.int p3), .val (.int p4), .val (.int p5), .val (.int p6), .val (.int i), .val (.int j), .val (.int bb), .val (.int (p3 &&& (3 : Int32))), .val (.int ((((p3.toUInt32 >>> ((2 : Int32) &&& 31).toUInt32).toInt32) &&& (255 : Int32)).toUInt32.toUInt16.toUInt32.toInt32)), .val (.int ((((p3.toUInt32 >>> ((10 : Int32) &&& 31).toUInt32).toInt32) &&& (255 : Int32)).toUInt32.toUInt16.toUInt32.toInt32)), .val (.int ((((p3.toUInt32 >>> ((18 : Int32) &&& 31).toUInt32).toInt32) &&& (255 : Int32)).toUInt32.toUInt16.toUInt32.toInt32)), .val (.int (bb &&& (3 : Int32))), .val (.int ((((bb.toUInt32 >>> ((2 : Int32) &&& 31).toUInt32).toInt32) &&& (255 : Int32)).toUInt32.toUInt16.toUInt32.toInt32)), .val (.int ((((bb.toUInt32 >>> ((10 : Int32) &&& 31).toUInt32).toInt32) &&& (255 : Int32)).toUInt32.toUInt16.toUInt32.toInt32)), .unset, .unset, .unset, .unset, .unset, .unset] []))
  refine own_stE (fun _ kS => XS.iload X0.here hx rfl (hb hby at_111) rfl kS) ?_
  show OFinE p e below _ (T0.setTop (mkF m 113 #[.val (.int p1), .val (.int p2), .val (.int p3), .val (.int p4), .val (.int p5), .val (.int p6), .val (.int i), .val (.int j), .val (.int bb), .val (.int (p3 &&& (3 : Int32))), .val (.int ((((p3.toUInt32 >>> ((2 : Int32) &&& 31).toUInt32).toInt32) &&& (255 : Int32)).toUInt32.toUInt16.toUInt32.toInt32)), .val (.int ((((p3.toUInt32 >>> ((10 : Int32) &&& 31).toUInt32).toInt32) &&& (255 : Int32)).toUInt32.toUInt16.toUInt32.toInt32)), .val (.int ((((p3.toUInt32 >>> ((18 : Int32) &&& 31).toUInt32).toInt32) &&& (255 : Int32)).toUInt32.toUInt16.toUInt32.toInt32)), .val (.int (bb &&& (3 : Int32))), .val (.int ((((bb.toUInt32 >>> ((2 : Int32) &&& 31).toUInt32).toInt32) &&& (255 : Int32)).toUInt32.toUInt16.toUInt32.toInt32)), .val (.int ((((bb.toUInt32 >>> ((10 : Int32) &&& 31).toUInt32).toInt32) &&& (255 : Int32)).toUInt32.toUInt16.toUInt32.toInt32)), .unset, .unset, .unset, .unset, .unset, .unset] [(.int bb)]))
  refine own_stE (fun _ kS => XS.bipush X0.here hx rfl (hb hby at_113) kS) ?_
  show OFinE p e below _ (T0.setTop (mkF m 115 #[.val (.int p1), .val (.int p2), .val (.int p3), .val (.int p4), .val (.int p5), .val (.int p6), .val (.int i), .val (.int j), .val (.int bb), .val (.int (p3 &&& (3 : Int32))), .val (.int ((((p3.toUInt32 >>> ((2 : Int32) &&& 31).toUInt32).toInt32) &&& (255 : Int32)).toUInt32.toUInt16.toUInt32.toInt32)), .val (.int ((((p3.toUInt32 >>> ((10 : Int32) &&& 31).toUInt32).toInt32) &&& (255 : Int32)).toUInt32.toUInt16.toUInt32.toInt32)), .val (.int ((((p3.toUInt32 >>> ((18 : Int32) &&& 31).toUInt32).toInt32) &&& (255 : Int32)).toUInt32.toUInt16.toUInt32.toInt32)), .val (.int (bb &&& (3 : Int32))), .val (.int ((((bb.toUInt32 >>> ((2 : Int32) &&& 31).toUInt32).toInt32) &&& (255 : Int32)).toUInt32.toUInt16.toUInt32.toInt32)), .val (.int ((((bb.toUInt32 >>> ((10 : Int32) &&& 31).toUInt32).toInt32) &&& (255 : Int32)).toUInt32.toUInt16.toUInt32.toInt32)), .unset, .unset, .unset, .unset, .unset, .unset] [(.int (18 : Int32)), (.int bb)]))
  refine own_stE (fun _ kS => XS.iushr X0.here hx rfl (hb hby at_115) rfl kS) ?_
  show OFinE p e below _ (T0.setTop (mkF m 116 #[.val (.int p1), .val (.int p2), .val (.int p3), .val (.int p4), .val (.int p5), .val (.int p6), .val (.int i), .val (.int j), .val (.int bb), .val (.int (p3 &&& (3 : Int32))), .val (.int ((((p3.toUInt32 >>> ((2 : Int32) &&& 31).toUInt32).toInt32) &&& (255 : Int32)).toUInt32.toUInt16.toUInt32.toInt32)), .val (.int ((((p3.toUInt32 >>> ((10 : Int32) &&& 31).toUInt32).toInt32) &&& (255 : Int32)).toUInt32.toUInt16.toUInt32.toInt32)), .val (.int ((((p3.toUInt32 >>> ((18 : Int32) &&& 31).toUInt32).toInt32) &&& (255 : Int32)).toUInt32.toUInt16.toUInt32.toInt32)), .val (.int (bb &&& (3 : Int32))), .val (.int ((((bb.toUInt32 >>> ((2 : Int32) &&& 31).toUInt32).toInt32) &&& (255 : Int32)).toUInt32.toUInt16.toUInt32.toInt32)), .val (.int ((((bb.toUInt32 >>> ((10 : Int32) &&& 31).toUInt32).toInt32) &&& (255 : Int32)).toUInt32.toUInt16.toUInt32.toInt32)), .unset, .unset, .unset, .unset, .unset, .unset] [(.int ((bb.toUInt32 >>> ((18 : Int32) &&& 31).toUInt32).toInt32))]))
  refine own_stE (fun _ kS => XS.sipush X0.here hx rfl (hb hby at_116) kS) ?_
  show OFinE p e below _ (T0.setTop (mkF m 119 #[.val (.int p1), .val (.int p2), .val (.int p3), .val (.int p4), .val (.int p5), .val (.int p6), .val (.int i), .val (.int j), .val (.int bb), .val (.int (p3 &&& (3 : Int32))), .val (.int ((((p3.toUInt32 >>> ((2 : Int32) &&& 31).toUInt32).toInt32) &&& (255 : Int32)).toUInt32.toUInt16.toUInt32.toInt32)), .val (.int ((((p3.toUInt32 >>> ((10 : Int32) &&& 31).toUInt32).toInt32) &&& (255 : Int32)).toUInt32.toUInt16.toUInt32.toInt32)), .val (.int ((((p3.toUInt32 >>> ((18 : Int32) &&& 31).toUInt32).toInt32) &&& (255 : Int32)).toUInt32.toUInt16.toUInt32.toInt32)), .val (.int (bb &&& (3 : Int32))), .val (.int ((((bb.toUInt32 >>> ((2 : Int32) &&& 31).toUInt32).toInt32) &&& (255 : Int32)).toUInt32.toUInt16.toUInt32.toInt32)), .val (.int ((((bb.toUInt32 >>> ((10 : Int32) &&& 31).toUInt32).toInt32) &&& (255 : Int32)).toUInt32.toUInt16.toUInt32.toInt32)), .unset, .unset, .unset, .unset, .unset, .unset] [(.int (255 : Int32)), (.int ((bb.toUInt32 >>> ((18 : Int32) &&& 31).toUInt32).toInt32))]))
  refine own_stE (fun _ kS => XS.iand X0.here hx rfl (hb hby at_119) rfl kS) ?_
  show OFinE p e below _ (T0.setTop (mkF m 120 #[.val (.int p1), .val (.int p2), .val (.int p3), .val (.int p4), .val (.int p5), .val (.int p6), .val (.int i), .val (.int j), .val (.int bb), .val (.int (p3 &&& (3 : Int32))), .val (.int ((((p3.toUInt32 >>> ((2 : Int32) &&& 31).toUInt32).toInt32) &&& (255 : Int32)).toUInt32.toUInt16.toUInt32.toInt32)), .val (.int ((((p3.toUInt32 >>> ((10 : Int32) &&& 31).toUInt32).toInt32) &&& (255 : Int32)).toUInt32.toUInt16.toUInt32.toInt32)), .val (.int ((((p3.toUInt32 >>> ((18 : Int32) &&& 31).toUInt32).toInt32) &&& (255 : Int32)).toUInt32.toUInt16.toUInt32.toInt32)), .val (.int (bb &&& (3 : Int32))), .val (.int ((((bb.toUInt32 >>> ((2 : Int32) &&& 31).toUInt32).toInt32) &&& (255 : Int32)).toUInt32.toUInt16.toUInt32.toInt32)), .val (.int ((((bb.toUInt32 >>> ((10 : Int32) &&& 31).toUInt32).toInt32) &&& (255 : Int32)).toUInt32.toUInt16.toUInt32.toInt32)), .unset, .unset, .unset, .unset, .unset, .unset] [(.int (((bb.toUInt32 >>> ((18 : Int32) &&& 31).toUInt32).toInt32) &&& (255 : Int32)))]))
  refine own_stE (fun _ kS => XS.i2c X0.here hx rfl (hb hby at_120) rfl kS) ?_
  show OFinE p e below _ (T0.setTop (mkF m 121 #[.val (.int p1), .val (.int p2), .val (.int p3), .val (.int p4), .val (.int p5), .val (.int p6), .val (.int i), .val (.int j), .val (.int bb), .val (.int (p3 &&& (3 : Int32))), .val (.int ((((p3.toUInt32 >>> ((2 : Int32) &&& 31).toUInt32).toInt32) &&& (255 : Int32)).toUInt32.toUInt16.toUInt32.toInt32)), .val (.int ((((p3.toUInt32 >>> ((10 : Int32) &&& 31).toUInt32).toInt32) &&& (255 : Int32)).toUInt32.toUInt16.toUInt32.toInt32)), .val (.int ((((p3.toUInt32 >>> ((18 : Int32) &&& 31).toUInt32).toInt32) &&& (255 : Int32)).toUInt32.toUInt16.toUInt32.toInt32)), .val (.int (bb &&& (3 : Int32))), .val (.int ((((bb.toUInt32 >>> ((2 : Int32) &&& 31).toUInt32).toInt32) &&& (255 : Int32)).toUInt32.toUInt16.toUInt32.toInt32)), .val (.int ((((bb.toUInt32 >>> ((10 : Int32) &&& 31).toUInt32).toInt32) &&& (255 : Int32)).toUInt32.toUInt16.toUInt32.toInt32)), .unset, .unset, .unset, .unset, .unset, .unset] [(.int ((((bb.toUInt32 >>> ((18 : Int32) &&& 31).toUInt32).toInt32) &&& (255 : Int32)).toUInt32.toUInt16.toUInt32.toInt32))]))
  refine own_stE (fun _ kS => XS.istore X0.here hx rfl (hb hby at_121) rfl (l' := #[.val (.int p1), .val (.int p2), .val (.int p3), .val (.int p4), .val (.int p5), .val (.int p6), .val (.int i), .val (.int j), .val (.int bb), .val (.int (p3 &&& (3 : Int32))), .val (.int ((((p3.toUInt32 >>> ((2 : Int32) &&& 31).toUInt32).toInt32) &&& (255 : Int32)).toUInt32.toUInt16.toUInt32.toInt32)), .val (.int ((((p3.toUInt32 >>> ((10 : Int32) &&& 31).toUInt32).toInt32) &&& (255 : Int32)).toUInt32.toUInt16.toUInt32.toInt32)), .val (.int ((((p3.toUInt32 >>> ((18 : Int32) &&& 31).toUInt32).toInt32) &&& (255 : Int32)).toUInt32.toUInt16.toUInt32.toInt32)), .val (.int (bb &&& (3 : Int32))), .val (.int ((((bb.toUInt32 >>> ((2 : Int32) &&& 31).toUInt32).toInt32) &&& (255 : Int32)).toUInt32.toUInt16.toUInt32.toInt32)), .val (.int ((((bb.toUInt32 >>> ((10 : Int32) &&& 31).toUInt32).toInt32) &&& (255 : Int32)).toUInt32.toUInt16.toUInt32.toInt32)), .val (.int ((((bb.toUInt32 >>> ((18 : Int32) &&& 31).toUInt32).toInt32) &&& (255 : Int32)).toUInt32.toUInt16.toUInt32.toInt32)), .unset, .unset, .unset, .unset, .unset]) rfl kS) ?_
  show OFinE p e below _ (T0.setTop (mkF m 123 #[.val (.int p1), .val (.int p2), .val (.int p3), .val (.int p4), .val (.int p5), .val (.int p6), .val (.int i), .val (.int j), .val (.int bb), .val (.int (p3 &&& (3 : Int32))), .val (.int ((((p3.toUInt32 >>> ((2 : Int32) &&& 31).toUInt32).toInt32) &&& (255 : Int32)).toUInt32.toUInt16.toUInt32.toInt32)), .val (.int ((((p3.toUInt32 >>> ((10 : Int32) &&& 31).toUInt32).toInt32) &&& (255 : Int32)).toUInt32.toUInt16.toUInt32.toInt32)), .val (.int ((((p3.toUInt32 >>> ((18 : Int32) &&& 31).toUInt32).toInt32) &&& (255 : Int32)).toUInt32.toUInt16.toUInt32.toInt32)), .val (.int (bb &&& (3 : Int32))), .val (.int ((((bb.toUInt32 >>> ((2 : Int32) &&& 31).toUInt32).toInt32) &&& (255 : Int32)).toUInt32.toUInt16.toUInt32.toInt32)), .val (.int ((((bb.toUInt32 >>> ((10 : Int32) &&& 31).toUInt32).toInt32) &&& (255 : Int32)).toUInt32.toUInt16.toUInt32.toInt32)), .val (.int ((((bb.toUInt32 >>> ((18 : Int32) &&& 31).toUInt32).toInt32) &&& (255 : Int32)).toUInt32.toUInt16.toUInt32.toInt32)), .unset, .unset, .unset, .unset, .unset] []))
  exact own_N hw hC0 X0 e0 p1 p2 p3 p4 p5 p6 i j bb (p3 &&& (3 : Int32)) ((((p3.toUInt32 >>> ((2 : Int32) &&& 31).toUInt32).toInt32) &&& (255 : Int32)).toUInt32.toUInt16.toUInt32.toInt32) ((((p3.toUInt32 >>> ((10 : Int32) &&& 31).toUInt32).toInt32) &&& (255 : Int32)).toUInt32.toUInt16.toUInt32.toInt32) ((((p3.toUInt32 >>> ((18 : Int32) &&& 31).toUInt32).toInt32) &&& (255 : Int32)).toUInt32.toUInt16.toUInt32.toInt32) (bb &&& (3 : Int32)) ((((bb.toUInt32 >>> ((2 : Int32) &&& 31).toUInt32).toInt32) &&& (255 : Int32)).toUInt32.toUInt16.toUInt32.toInt32) ((((bb.toUInt32 >>> ((10 : Int32) &&& 31).toUInt32).toInt32) &&& (255 : Int32)).toUInt32.toUInt16.toUInt32.toInt32) ((((bb.toUInt32 >>> ((18 : Int32) &&& 31).toUInt32).toInt32) &&& (255 : Int32)).toUInt32.toUInt16.toUInt32.toInt32) n0 z kx S_0 S_1 S_2 S_3 S_4 S_5 S_6 S_7 hO hi hj (own_k4 _) (own_k4 _) (own_c8 _) (own_c8 _) (own_c8 _) (own_c8 _) (own_c8 _) (own_c8 _) Z0 N0 S_c hz O hcs hss hh hcw hPv
set_option maxRecDepth 65536 in
set_option maxHeartbeats 40000000 in
theorem own_J {l : Launch} {Z : State} {a0 : Array Value} (hw : ∀ d ∈ tables_1, d.before a0 Z = true) {p : Program} {e : Env} {s : State} {m : MethodId} {args : Array Value} {below : List Frame} {meth : Method} {c : Code} (hC : OCtx Z p s m meth c "com/example/wyrd/wyrd/hoa/TokenIsPinLaw" "law" code maxLocals ret) {T0 : State} {locs : List Loc} {cells slots : Nat} (X0 : Stand p l e room_1 s m args below meth c T0 locs cells slots) {h0 : Heap} (e0 : T0.heap = h0) (p1 p2 p3 p4 p5 p6 i j : Int32) (n0 : Nat) (z : Int32) (kx : Int32 → Addr) (S_0 : Sta Z Z.heap "com/example/wyrd/wyrd/hoa/Tokens$Kind" "HEADER" "Lcom/example/wyrd/wyrd/hoa/Tokens$Kind;" (.ref (kx 0))) (S_1 : Sta Z Z.heap "com/example/wyrd/wyrd/hoa/Tokens$Kind" "IDENTIFIER" "Lcom/example/wyrd/wyrd/hoa/Tokens$Kind;" (.ref (kx 1))) (S_2 : Sta Z Z.heap "com/example/wyrd/wyrd/hoa/Tokens$Kind" "INTEGER" "Lcom/example/wyrd/wyrd/hoa/Tokens$Kind;" (.ref (kx 2))) (S_3 : Sta Z Z.heap "com/example/wyrd/wyrd/hoa/Tokens$Kind" "STRING" "Lcom/example/wyrd/wyrd/hoa/Tokens$Kind;" (.ref (kx 3))) (S_4 : Sta Z Z.heap "com/example/wyrd/wyrd/hoa/Tokens$Kind" "ALIAS" "Lcom/example/wyrd/wyrd/hoa/Tokens$Kind;" (.ref (kx 4))) (S_5 : Sta Z Z.heap "com/example/wyrd/wyrd/hoa/Tokens$Kind" "PUNCTUATION" "Lcom/example/wyrd/wyrd/hoa/Tokens$Kind;" (.ref (kx 5))) (S_6 : Sta Z Z.heap "com/example/wyrd/wyrd/hoa/Tokens$Kind" "SEPARATOR" "Lcom/example/wyrd/wyrd/hoa/Tokens$Kind;" (.ref (kx 6))) (S_7 : Sta Z Z.heap "com/example/wyrd/wyrd/hoa/Tokens$Kind" "END_OF_TEXT" "Lcom/example/wyrd/wyrd/hoa/Tokens$Kind;" (.ref (kx 7))) (hO : ∀ k : Int32, (k = 0 ∨ k = 1 ∨ k = 2 ∨ k = 3 ∨ k = 4 ∨ k = 5 ∨ k = 6 ∨ k = 7) → Fld Z Z.heap (kx k) "java/lang/Enum" "ordinal" "I" (.int k)) (hi : i = 0 ∨ i = 1 ∨ i = 2 ∨ i = 3 ∨ i = 4 ∨ i = 5 ∨ i = 6 ∨ i = 7) (hj : j = 0 ∨ j = 1 ∨ j = 2 ∨ j = 3 ∨ j = 4 ∨ j = 5 ∨ j = 6 ∨ j = 7) (Z0 : n0 ≤ h0.size) (N0 : Fr n0 locs) (S_c : Sta Z Z.heap "java/lang/String" "COMPACT_STRINGS" "Z" (.int z)) (hz : ¬ z = 0) (O : Old Z n0 h0) (hcs : cells = 0) (hss : slots = 0) (hh : Jvm.Lit.constHeld Z "java/lang/String" 7) (hcw : Jvm.Lit.compactW.before a0 Z = true) (hPv : OLit Z h0 s.vm) :
    OFinE p e below (OEnd s room_1.cells room_1.slots (fun v vm h L => v = some (.int (1 : Int32)) ∧ Fr n0 L)) (T0.setTop (mkF m 24 #[.val (.int p1), .val (.int p2), .val (.int p3), .val (.int p4), .val (.int p5), .val (.int p6), .val (.int i), .val (.int j), .unset, .unset, .unset, .unset, .unset, .unset, .unset, .unset, .unset, .unset, .unset, .unset, .unset, .unset] [])) := by
  have hC0 := hC
  obtain ⟨hx, hZ, hby, hml, hown, hret, hlk, hnm⟩ := hC
  refine own_stE (fun _ kS => XS.iload X0.here hx rfl (hb hby at_24) rfl kS) ?_
  show OFinE p e below _ (T0.setTop (mkF m 26 #[.val (.int p1), .val (.int p2), .val (.int p3), .val (.int p4), .val (.int p5), .val (.int p6), .val (.int i), .val (.int j), .unset, .unset, .unset, .unset, .unset, .unset, .unset, .unset, .unset, .unset, .unset, .unset, .unset, .unset] [(.int p6)]))
  refine own_stE (fun _ kS => XS.iconst X0.here hx rfl (hb hby at_26) kS) ?_
  show OFinE p e below _ (T0.setTop (mkF m 27 #[.val (.int p1), .val (.int p2), .val (.int p3), .val (.int p4), .val (.int p5), .val (.int p6), .val (.int i), .val (.int j), .unset, .unset, .unset, .unset, .unset, .unset, .unset, .unset, .unset, .unset, .unset, .unset, .unset, .unset] [(.int (2 : Int32)), (.int p6)]))
  refine own_stE (fun _ kS => XS.iand X0.here hx rfl (hb hby at_27) rfl kS) ?_
  show OFinE p e below _ (T0.setTop (mkF m 28 #[.val (.int p1), .val (.int p2), .val (.int p3), .val (.int p4), .val (.int p5), .val (.int p6), .val (.int i), .val (.int j), .unset, .unset, .unset, .unset, .unset, .unset, .unset, .unset, .unset, .unset, .unset, .unset, .unset, .unset] [(.int (p6 &&& (2 : Int32)))]))
  by_cases e1 : (p6 &&& (2 : Int32)) = (0 : Int32)
  · refine own_stE (fun _ kS => XS.ifYes X0.here hx rfl (pc0 := 28) (pc' := 42) rfl (hb hby at_28) rfl ((if0 _ _).trans (teq e1).1) (by decide) (by decide) kS) ?_
    show OFinE p e below _ (T0.setTop (mkF m 42 #[.val (.int p1), .val (.int p2), .val (.int p3), .val (.int p4), .val (.int p5), .val (.int p6), .val (.int i), .val (.int j), .unset, .unset, .unset, .unset, .unset, .unset, .unset, .unset, .unset, .unset, .unset, .unset, .unset, .unset] []))
    refine own_stE (fun _ kS => XS.iloadN X0.here hx rfl (hb hby at_42) rfl kS) ?_
    show OFinE p e below _ (T0.setTop (mkF m 43 #[.val (.int p1), .val (.int p2), .val (.int p3), .val (.int p4), .val (.int p5), .val (.int p6), .val (.int i), .val (.int j), .unset, .unset, .unset, .unset, .unset, .unset, .unset, .unset, .unset, .unset, .unset, .unset, .unset, .unset] [(.int p4)]))
    refine own_stE (fun _ kS => XS.istore X0.here hx rfl (hb hby at_43) rfl (l' := #[.val (.int p1), .val (.int p2), .val (.int p3), .val (.int p4), .val (.int p5), .val (.int p6), .val (.int i), .val (.int j), .val (.int p4), .unset, .unset, .unset, .unset, .unset, .unset, .unset, .unset, .unset, .unset, .unset, .unset, .unset]) rfl kS) ?_
    show OFinE p e below _ (T0.setTop (mkF m 45 #[.val (.int p1), .val (.int p2), .val (.int p3), .val (.int p4), .val (.int p5), .val (.int p6), .val (.int i), .val (.int j), .val (.int p4), .unset, .unset, .unset, .unset, .unset, .unset, .unset, .unset, .unset, .unset, .unset, .unset, .unset] []))
    exact own_M hw hC0 X0 e0 p1 p2 p3 p4 p5 p6 i j _ n0 z kx S_0 S_1 S_2 S_3 S_4 S_5 S_6 S_7 hO hi hj Z0 N0 S_c hz O hcs hss hh hcw hPv
  · refine own_stE (fun _ kS => XS.ifNo X0.here hx rfl (hb hby at_28) rfl ((if0 _ _).trans (feq e1).1) kS) ?_
    show OFinE p e below _ (T0.setTop (mkF m 31 #[.val (.int p1), .val (.int p2), .val (.int p3), .val (.int p4), .val (.int p5), .val (.int p6), .val (.int i), .val (.int j), .unset, .unset, .unset, .unset, .unset, .unset, .unset, .unset, .unset, .unset, .unset, .unset, .unset, .unset] []))
    refine own_stE (fun _ kS => XS.iloadN X0.here hx rfl (hb hby at_31) rfl kS) ?_
    show OFinE p e below _ (T0.setTop (mkF m 32 #[.val (.int p1), .val (.int p2), .val (.int p3), .val (.int p4), .val (.int p5), .val (.int p6), .val (.int i), .val (.int j), .unset, .unset, .unset, .unset, .unset, .unset, .unset, .unset, .unset, .unset, .unset, .unset, .unset, .unset] [(.int p3)]))
    refine own_stE (fun _ kS => XS.iloadN X0.here hx rfl (hb hby at_32) rfl kS) ?_
    show OFinE p e below _ (T0.setTop (mkF m 33 #[.val (.int p1), .val (.int p2), .val (.int p3), .val (.int p4), .val (.int p5), .val (.int p6), .val (.int i), .val (.int j), .unset, .unset, .unset, .unset, .unset, .unset, .unset, .unset, .unset, .unset, .unset, .unset, .unset, .unset] [(.int p4), (.int p3)]))
    refine own_stE (fun _ kS => XS.iload X0.here hx rfl (hb hby at_33) rfl kS) ?_
    show OFinE p e below _ (T0.setTop (mkF m 35 #[.val (.int p1), .val (.int p2), .val (.int p3), .val (.int p4), .val (.int p5), .val (.int p6), .val (.int i), .val (.int j), .unset, .unset, .unset, .unset, .unset, .unset, .unset, .unset, .unset, .unset, .unset, .unset, .unset, .unset] [(.int p6), (.int p4), (.int p3)]))
    refine own_stE (fun _ kS => XS.iconst X0.here hx rfl (hb hby at_35) kS) ?_
    show OFinE p e below _ (T0.setTop (mkF m 36 #[.val (.int p1), .val (.int p2), .val (.int p3), .val (.int p4), .val (.int p5), .val (.int p6), .val (.int i), .val (.int j), .unset, .unset, .unset, .unset, .unset, .unset, .unset, .unset, .unset, .unset, .unset, .unset, .unset, .unset] [(.int (2 : Int32)), (.int p6), (.int p4), (.int p3)]))
    refine own_stE (fun _ kS => XS.iushr X0.here hx rfl (hb hby at_36) rfl kS) ?_
    show OFinE p e below _ (T0.setTop (mkF m 37 #[.val (.int p1), .val (.int p2), .val (.int p3), .val (.int p4), .val (.int p5), .val (.int p6), .val (.int i), .val (.int j), .unset, .unset, .unset, .unset, .unset, .unset, .unset, .unset, .unset, .unset, .unset, .unset, .unset, .unset] [(.int ((p6.toUInt32 >>> ((2 : Int32) &&& 31).toUInt32).toInt32)), (.int p4), (.int p3)]))
    refine own_stE (fun _ kS => XS.iand X0.here hx rfl (hb hby at_37) rfl kS) ?_
    show OFinE p e below _ (T0.setTop (mkF m 38 #[.val (.int p1), .val (.int p2), .val (.int p3), .val (.int p4), .val (.int p5), .val (.int p6), .val (.int i), .val (.int j), .unset, .unset, .unset, .unset, .unset, .unset, .unset, .unset, .unset, .unset, .unset, .unset, .unset, .unset] [(.int (p4 &&& ((p6.toUInt32 >>> ((2 : Int32) &&& 31).toUInt32).toInt32))), (.int p3)]))
    refine own_stE (fun _ kS => XS.ixor X0.here hx rfl (hb hby at_38) rfl kS) ?_
    show OFinE p e below _ (T0.setTop (mkF m 39 #[.val (.int p1), .val (.int p2), .val (.int p3), .val (.int p4), .val (.int p5), .val (.int p6), .val (.int i), .val (.int j), .unset, .unset, .unset, .unset, .unset, .unset, .unset, .unset, .unset, .unset, .unset, .unset, .unset, .unset] [(.int (p3 ^^^ (p4 &&& ((p6.toUInt32 >>> ((2 : Int32) &&& 31).toUInt32).toInt32))))]))
    refine own_stE (fun _ kS => XS.goto X0.here hx rfl (pc0 := 39) (pc' := 43) rfl (hb hby at_39) (by decide) (by decide) kS) ?_
    show OFinE p e below _ (T0.setTop (mkF m 43 #[.val (.int p1), .val (.int p2), .val (.int p3), .val (.int p4), .val (.int p5), .val (.int p6), .val (.int i), .val (.int j), .unset, .unset, .unset, .unset, .unset, .unset, .unset, .unset, .unset, .unset, .unset, .unset, .unset, .unset] [(.int (p3 ^^^ (p4 &&& ((p6.toUInt32 >>> ((2 : Int32) &&& 31).toUInt32).toInt32))))]))
    refine own_stE (fun _ kS => XS.istore X0.here hx rfl (hb hby at_43) rfl (l' := #[.val (.int p1), .val (.int p2), .val (.int p3), .val (.int p4), .val (.int p5), .val (.int p6), .val (.int i), .val (.int j), .val (.int (p3 ^^^ (p4 &&& ((p6.toUInt32 >>> ((2 : Int32) &&& 31).toUInt32).toInt32)))), .unset, .unset, .unset, .unset, .unset, .unset, .unset, .unset, .unset, .unset, .unset, .unset, .unset]) rfl kS) ?_
    show OFinE p e below _ (T0.setTop (mkF m 45 #[.val (.int p1), .val (.int p2), .val (.int p3), .val (.int p4), .val (.int p5), .val (.int p6), .val (.int i), .val (.int j), .val (.int (p3 ^^^ (p4 &&& ((p6.toUInt32 >>> ((2 : Int32) &&& 31).toUInt32).toInt32)))), .unset, .unset, .unset, .unset, .unset, .unset, .unset, .unset, .unset, .unset, .unset, .unset, .unset] []))
    exact own_M hw hC0 X0 e0 p1 p2 p3 p4 p5 p6 i j _ n0 z kx S_0 S_1 S_2 S_3 S_4 S_5 S_6 S_7 hO hi hj Z0 N0 S_c hz O hcs hss hh hcw hPv
set_option maxRecDepth 65536 in
set_option maxHeartbeats 40000000 in
theorem rm0 (l : Launch) (Z : State) (a0 : Array Value) (hw : ∀ d ∈ tables_1, d.before a0 Z = true) (p1 : Int32) (p2 : Int32) (p3 : Int32) (p4 : Int32) (p5 : Int32) (p6 : Int32) (h0 : Heap) (n0 : Nat) (Z0 : n0 ≤ h0.size) (z : Int32) (kx : Int32 → Addr) (S_0 : Sta Z Z.heap "com/example/wyrd/wyrd/hoa/Tokens$Kind" "HEADER" "Lcom/example/wyrd/wyrd/hoa/Tokens$Kind;" (.ref (kx 0))) (S_1 : Sta Z Z.heap "com/example/wyrd/wyrd/hoa/Tokens$Kind" "IDENTIFIER" "Lcom/example/wyrd/wyrd/hoa/Tokens$Kind;" (.ref (kx 1))) (S_2 : Sta Z Z.heap "com/example/wyrd/wyrd/hoa/Tokens$Kind" "INTEGER" "Lcom/example/wyrd/wyrd/hoa/Tokens$Kind;" (.ref (kx 2))) (S_3 : Sta Z Z.heap "com/example/wyrd/wyrd/hoa/Tokens$Kind" "STRING" "Lcom/example/wyrd/wyrd/hoa/Tokens$Kind;" (.ref (kx 3))) (S_4 : Sta Z Z.heap "com/example/wyrd/wyrd/hoa/Tokens$Kind" "ALIAS" "Lcom/example/wyrd/wyrd/hoa/Tokens$Kind;" (.ref (kx 4))) (S_5 : Sta Z Z.heap "com/example/wyrd/wyrd/hoa/Tokens$Kind" "PUNCTUATION" "Lcom/example/wyrd/wyrd/hoa/Tokens$Kind;" (.ref (kx 5))) (S_6 : Sta Z Z.heap "com/example/wyrd/wyrd/hoa/Tokens$Kind" "SEPARATOR" "Lcom/example/wyrd/wyrd/hoa/Tokens$Kind;" (.ref (kx 6))) (S_7 : Sta Z Z.heap "com/example/wyrd/wyrd/hoa/Tokens$Kind" "END_OF_TEXT" "Lcom/example/wyrd/wyrd/hoa/Tokens$Kind;" (.ref (kx 7))) (hO : ∀ k : Int32, (k = 0 ∨ k = 1 ∨ k = 2 ∨ k = 3 ∨ k = 4 ∨ k = 5 ∨ k = 6 ∨ k = 7) → Fld Z Z.heap (kx k) "java/lang/Enum" "ordinal" "I" (.int k)) (S_c : Sta Z Z.heap "java/lang/String" "COMPACT_STRINGS" "Z" (.int z)) (hz : ¬ z = 0) (O : Old Z n0 h0) (hh : Jvm.Lit.constHeld Z "java/lang/String" 7) (hcw : Jvm.Lit.compactW.before a0 Z = true) :
    OMetW l Z (OLit Z h0) x code maxLocals ret room_1 #[(.int p1), (.int p2), (.int p3), (.int p4), (.int p5), (.int p6)] h0 (fun v vm h L => v = some (.int (1 : Int32)) ∧ Fr n0 L) := by
  refine own_enterW own_pn0 ?_
  intro p e s m below meth c T0 X0 hC e0 eS hPv
  have hC0 := hC
  obtain ⟨hx, hZ, hby, hml, hown, hret, hlk, hnm⟩ := hC
  have hown : s.vm.findClass "com/example/wyrd/wyrd/hoa/TokenIsPinLaw" = some m.cls := hown
  refine own_atE (own_ef0_IIIIII m p1 p2 p3 p4 p5 p6) ?_
  show OFinE p e below _ (T0.setTop (mkF m 0 #[.val (.int p1), .val (.int p2), .val (.int p3), .val (.int p4), .val (.int p5), .val (.int p6), .unset, .unset, .unset, .unset, .unset, .unset, .unset, .unset, .unset, .unset, .unset, .unset, .unset, .unset, .unset, .unset] []))
  refine own_stE (fun _ kS => XS.iloadN X0.here hx rfl (hb hby at_0) rfl kS) ?_
  show OFinE p e below _ (T0.setTop (mkF m 1 #[.val (.int p1), .val (.int p2), .val (.int p3), .val (.int p4), .val (.int p5), .val (.int p6), .unset, .unset, .unset, .unset, .unset, .unset, .unset, .unset, .unset, .unset, .unset, .unset, .unset, .unset, .unset, .unset] [(.int p1)]))
  refine own_stE (fun _ kS => XS.bipush X0.here hx rfl (hb hby at_1) kS) ?_
  show OFinE p e below _ (T0.setTop (mkF m 3 #[.val (.int p1), .val (.int p2), .val (.int p3), .val (.int p4), .val (.int p5), .val (.int p6), .unset, .unset, .unset, .unset, .unset, .unset, .unset, .unset, .unset, .unset, .unset, .unset, .unset, .unset, .unset, .unset] [(.int (7 : Int32)), (.int p1)]))
  refine own_stE (fun _ kS => XS.iand X0.here hx rfl (hb hby at_3) rfl kS) ?_
  show OFinE p e below _ (T0.setTop (mkF m 4 #[.val (.int p1), .val (.int p2), .val (.int p3), .val (.int p4), .val (.int p5), .val (.int p6), .unset, .unset, .unset, .unset, .unset, .unset, .unset, .unset, .unset, .unset, .unset, .unset, .unset, .unset, .unset, .unset] [(.int (p1 &&& (7 : Int32)))]))
  refine own_stE (fun _ kS => XS.istore X0.here hx rfl (hb hby at_4) rfl (l' := #[.val (.int p1), .val (.int p2), .val (.int p3), .val (.int p4), .val (.int p5), .val (.int p6), .val (.int (p1 &&& (7 : Int32))), .unset, .unset, .unset, .unset, .unset, .unset, .unset, .unset, .unset, .unset, .unset, .unset, .unset, .unset, .unset]) rfl kS) ?_
  show OFinE p e below _ (T0.setTop (mkF m 6 #[.val (.int p1), .val (.int p2), .val (.int p3), .val (.int p4), .val (.int p5), .val (.int p6), .val (.int (p1 &&& (7 : Int32))), .unset, .unset, .unset, .unset, .unset, .unset, .unset, .unset, .unset, .unset, .unset, .unset, .unset, .unset, .unset] []))
  refine own_stE (fun _ kS => XS.iload X0.here hx rfl (hb hby at_6) rfl kS) ?_
  show OFinE p e below _ (T0.setTop (mkF m 8 #[.val (.int p1), .val (.int p2), .val (.int p3), .val (.int p4), .val (.int p5), .val (.int p6), .val (.int (p1 &&& (7 : Int32))), .unset, .unset, .unset, .unset, .unset, .unset, .unset, .unset, .unset, .unset, .unset, .unset, .unset, .unset, .unset] [(.int p6)]))
  refine own_stE (fun _ kS => XS.iconst X0.here hx rfl (hb hby at_8) kS) ?_
  show OFinE p e below _ (T0.setTop (mkF m 9 #[.val (.int p1), .val (.int p2), .val (.int p3), .val (.int p4), .val (.int p5), .val (.int p6), .val (.int (p1 &&& (7 : Int32))), .unset, .unset, .unset, .unset, .unset, .unset, .unset, .unset, .unset, .unset, .unset, .unset, .unset, .unset, .unset] [(.int (1 : Int32)), (.int p6)]))
  refine own_stE (fun _ kS => XS.iand X0.here hx rfl (hb hby at_9) rfl kS) ?_
  show OFinE p e below _ (T0.setTop (mkF m 10 #[.val (.int p1), .val (.int p2), .val (.int p3), .val (.int p4), .val (.int p5), .val (.int p6), .val (.int (p1 &&& (7 : Int32))), .unset, .unset, .unset, .unset, .unset, .unset, .unset, .unset, .unset, .unset, .unset, .unset, .unset, .unset, .unset] [(.int (p6 &&& (1 : Int32)))]))
  by_cases e1 : (p6 &&& (1 : Int32)) = (0 : Int32)
  · refine own_stE (fun _ kS => XS.ifYes X0.here hx rfl (pc0 := 10) (pc' := 18) rfl (hb hby at_10) rfl ((if0 _ _).trans (teq e1).1) (by decide) (by decide) kS) ?_
    show OFinE p e below _ (T0.setTop (mkF m 18 #[.val (.int p1), .val (.int p2), .val (.int p3), .val (.int p4), .val (.int p5), .val (.int p6), .val (.int (p1 &&& (7 : Int32))), .unset, .unset, .unset, .unset, .unset, .unset, .unset, .unset, .unset, .unset, .unset, .unset, .unset, .unset, .unset] []))
    refine own_stE (fun _ kS => XS.iloadN X0.here hx rfl (hb hby at_18) rfl kS) ?_
    show OFinE p e below _ (T0.setTop (mkF m 19 #[.val (.int p1), .val (.int p2), .val (.int p3), .val (.int p4), .val (.int p5), .val (.int p6), .val (.int (p1 &&& (7 : Int32))), .unset, .unset, .unset, .unset, .unset, .unset, .unset, .unset, .unset, .unset, .unset, .unset, .unset, .unset, .unset] [(.int p2)]))
    refine own_stE (fun _ kS => XS.bipush X0.here hx rfl (hb hby at_19) kS) ?_
    show OFinE p e below _ (T0.setTop (mkF m 21 #[.val (.int p1), .val (.int p2), .val (.int p3), .val (.int p4), .val (.int p5), .val (.int p6), .val (.int (p1 &&& (7 : Int32))), .unset, .unset, .unset, .unset, .unset, .unset, .unset, .unset, .unset, .unset, .unset, .unset, .unset, .unset, .unset] [(.int (7 : Int32)), (.int p2)]))
    refine own_stE (fun _ kS => XS.iand X0.here hx rfl (hb hby at_21) rfl kS) ?_
    show OFinE p e below _ (T0.setTop (mkF m 22 #[.val (.int p1), .val (.int p2), .val (.int p3), .val (.int p4), .val (.int p5), .val (.int p6), .val (.int (p1 &&& (7 : Int32))), .unset, .unset, .unset, .unset, .unset, .unset, .unset, .unset, .unset, .unset, .unset, .unset, .unset, .unset, .unset] [(.int (p2 &&& (7 : Int32)))]))
    refine own_stE (fun _ kS => XS.istore X0.here hx rfl (hb hby at_22) rfl (l' := #[.val (.int p1), .val (.int p2), .val (.int p3), .val (.int p4), .val (.int p5), .val (.int p6), .val (.int (p1 &&& (7 : Int32))), .val (.int (p2 &&& (7 : Int32))), .unset, .unset, .unset, .unset, .unset, .unset, .unset, .unset, .unset, .unset, .unset, .unset, .unset, .unset]) rfl kS) ?_
    show OFinE p e below _ (T0.setTop (mkF m 24 #[.val (.int p1), .val (.int p2), .val (.int p3), .val (.int p4), .val (.int p5), .val (.int p6), .val (.int (p1 &&& (7 : Int32))), .val (.int (p2 &&& (7 : Int32))), .unset, .unset, .unset, .unset, .unset, .unset, .unset, .unset, .unset, .unset, .unset, .unset, .unset, .unset] []))
    exact own_J hw hC0 X0 e0 p1 p2 p3 p4 p5 p6 _ _ n0 z kx S_0 S_1 S_2 S_3 S_4 S_5 S_6 S_7 hO (own_k8 _) (own_k8 _) Z0 (Fr.nil n0) S_c hz O rfl rfl hh hcw hPv
  · refine own_stE (fun _ kS => XS.ifNo X0.here hx rfl (hb hby at_10) rfl ((if0 _ _).trans (feq e1).1) kS) ?_
    show OFinE p e below _ (T0.setTop (mkF m 13 #[.val (.int p1), .val (.int p2), .val (.int p3), .val (.int p4), .val (.int p5), .val (.int p6), .val (.int (p1 &&& (7 : Int32))), .unset, .unset, .unset, .unset, .unset, .unset, .unset, .unset, .unset, .unset, .unset, .unset, .unset, .unset, .unset] []))
    refine own_stE (fun _ kS => XS.iload X0.here hx rfl (hb hby at_13) rfl kS) ?_
    show OFinE p e below _ (T0.setTop (mkF m 15 #[.val (.int p1), .val (.int p2), .val (.int p3), .val (.int p4), .val (.int p5), .val (.int p6), .val (.int (p1 &&& (7 : Int32))), .unset, .unset, .unset, .unset, .unset, .unset, .unset, .unset, .unset, .unset, .unset, .unset, .unset, .unset, .unset] [(.int (p1 &&& (7 : Int32)))]))
    refine own_stE (fun _ kS => XS.goto X0.here hx rfl (pc0 := 15) (pc' := 22) rfl (hb hby at_15) (by decide) (by decide) kS) ?_
    show OFinE p e below _ (T0.setTop (mkF m 22 #[.val (.int p1), .val (.int p2), .val (.int p3), .val (.int p4), .val (.int p5), .val (.int p6), .val (.int (p1 &&& (7 : Int32))), .unset, .unset, .unset, .unset, .unset, .unset, .unset, .unset, .unset, .unset, .unset, .unset, .unset, .unset, .unset] [(.int (p1 &&& (7 : Int32)))]))
    refine own_stE (fun _ kS => XS.istore X0.here hx rfl (hb hby at_22) rfl (l' := #[.val (.int p1), .val (.int p2), .val (.int p3), .val (.int p4), .val (.int p5), .val (.int p6), .val (.int (p1 &&& (7 : Int32))), .val (.int (p1 &&& (7 : Int32))), .unset, .unset, .unset, .unset, .unset, .unset, .unset, .unset, .unset, .unset, .unset, .unset, .unset, .unset]) rfl kS) ?_
    show OFinE p e below _ (T0.setTop (mkF m 24 #[.val (.int p1), .val (.int p2), .val (.int p3), .val (.int p4), .val (.int p5), .val (.int p6), .val (.int (p1 &&& (7 : Int32))), .val (.int (p1 &&& (7 : Int32))), .unset, .unset, .unset, .unset, .unset, .unset, .unset, .unset, .unset, .unset, .unset, .unset, .unset, .unset] []))
    exact own_J hw hC0 X0 e0 p1 p2 p3 p4 p5 p6 _ _ n0 z kx S_0 S_1 S_2 S_3 S_4 S_5 S_6 S_7 hO (own_k8 _) (own_k8 _) Z0 (Fr.nil n0) S_c hz O rfl rfl hh hcw hPv
def own_kx (x0 x1 x2 x3 x4 x5 x6 x7 : Addr) (k : Int32) : Addr := if k = 0 then x0 else if k = 1 then x1 else if k = 2 then x2 else if k = 3 then x3 else if k = 4 then x4 else if k = 5 then x5 else if k = 6 then x6 else x7
theorem own_fst {Z : State} {args : Array Value} {x : Addr} {t : Term} {C n d : String} {v : Value} (ev : t.eval args Z none [] Z = some (.ref x)) (e : (Term.field t C n d).eval args Z none [] Z = some v) : Z.fieldOf? x C n d = some v := by
  simpa [Term.eval, ev] using e
set_option maxRecDepth 65536 in
set_option maxHeartbeats 40000000 in
theorem comes_1 {Post : Tables → Env → Array Value → State → Outcome → State → Prop} (hpost : ∀ tb e args s v u, (limb_1_1.after args s (.returned v) u = true ∧ limb_1_2.after args s (.returned v) u = true ∧ True) → ReturnedEndW s (.returned v) u (Jvm.fieldLocs frame_1_writes args s ++ Jvm.arrayLocs frame_1_arrays args s ++ Jvm.staticLocs frame_1_statics s) 24 1152 → Post tb e args s (.returned v) u) :
    ArmFor flags0 classFile x code maxLocals ret World_1 tables_1 room_1 Calls_1 rest_1 Pre_1 Post := by
  intro l hfl _ _ p e ha hc hk s m args below hf hA hF happ hP
  obtain ⟨hcalls, hrest, hpre⟩ := hP
  obtain ⟨-, -, -, hnamed, -, -, -, hat⟩ := (Spec.applies_iff hf).mp happ
  obtain ⟨hg, hn⟩ := and_e (Cond.before_iff.mp (show (Jvm.Cond.and given_1 narrow_1).before args s = true from hpre))
  obtain ⟨gc, hg0⟩ := and_e hg
  obtain ⟨ga0, hg1⟩ := and_e hg0
  obtain ⟨ga1, hg2⟩ := and_e hg1
  obtain ⟨ga2, hg3⟩ := and_e hg2
  obtain ⟨ga3, hg4⟩ := and_e hg3
  obtain ⟨ga4, hg5⟩ := and_e hg4
  obtain ⟨w0, w1, w2, w3, w4, w5, rfl⟩ : ∃ w0 w1 w2 w3 w4 w5 : Value, args = #[w0, w1, w2, w3, w4, w5] := by
    have hs : args.size = 6 := by simpa [Cond.value, given_1] using gc
    obtain ⟨L⟩ := args
    match L, hs with
    | [w0, w1, w2, w3, w4, w5], _ => exact ⟨w0, w1, w2, w3, w4, w5, rfl⟩
  have hw := fun d (hd : d ∈ tables_1) => atoms_spec (ws := Jvm.Cond.code x code maxLocals ret :: tables_1) hat d (List.mem_cons_of_mem _ hd)
  have hfit : Fit s := fun {y c} hc i hi => by
    obtain ⟨ha, rfl⟩ := Array.getElem?_eq_some_iff.mp hc
    have q := List.all_eq_true.mp ((Array.all_eq_true_iff_forall_mem.mp hF) _ (Array.getElem_mem ha)) i (List.mem_range.mpr hi)
    simpa [Array.getElem?_eq_getElem hi] using q
  obtain ⟨i0, ei0⟩ := is_v ga0
  obtain rfl : w0 = (.int i0) := Option.some.inj ei0
  obtain ⟨i1, ei1⟩ := is_v ga1
  obtain rfl : w1 = (.int i1) := Option.some.inj ei1
  obtain ⟨i2, ei2⟩ := is_v ga2
  obtain rfl : w2 = (.int i2) := Option.some.inj ei2
  obtain ⟨i3, ei3⟩ := is_v ga3
  obtain rfl : w3 = (.int i3) := Option.some.inj ei3
  obtain ⟨i4, ei4⟩ := is_v ga4
  obtain rfl : w4 = (.int i4) := Option.some.inj ei4
  obtain ⟨i5, ei5⟩ := is_v hg5
  obtain rfl : w5 = (.int i5) := Option.some.inj ei5
  obtain ⟨hsets, hown0⟩ := atoms_of _ (rest_1_c_eq ▸ (show rest_1_c.before _ s = true from hrest))
  have hcw := hsets _ (List.mem_of_getElem? (i := 2) rfl)
  have n5 := not_v (Cond.before_iff.mp hcw)
  obtain ⟨zz, e10⟩ := is_v (Cond.before_iff.mp (hsets _ (List.mem_of_getElem? (i := 1) rfl)))
  have S12 : Sta s s.heap "java/lang/String" "COMPACT_STRINGS" "Z" (.int zz) := Sta.start e10 (Or.inl (hsets _ (List.mem_of_getElem? (i := 0) rfl)))
  have c17 : ¬ (zz = (0 : Int32)) := gotF (Cond.eq_ints e10 (Term.int_eval (0))) n5
  have hh : Jvm.Lit.constHeld s "java/lang/String" 7 := hcalls.1 ("java/lang/String", 7) (List.mem_of_getElem? (i := 0) rfl)
  obtain ⟨nn0, nr0⟩ := and_e hn
  obtain ⟨nn1, nr1⟩ := and_e nr0
  obtain ⟨nn2, nr2⟩ := and_e nr1
  obtain ⟨nn3, nr3⟩ := and_e nr2
  obtain ⟨nn4, nr4⟩ := and_e nr3
  obtain ⟨nn5, nr5⟩ := and_e nr4
  obtain ⟨nn6, nr6⟩ := and_e nr5
  obtain ⟨nn7, nr7⟩ := and_e nr6
  obtain ⟨nn8, nr8⟩ := and_e nr7
  obtain ⟨nn9, nr9⟩ := and_e nr8
  obtain ⟨nn10, nr10⟩ := and_e nr9
  obtain ⟨nn11, nr11⟩ := and_e nr10
  obtain ⟨nn12, nr12⟩ := and_e nr11
  obtain ⟨nn13, nr13⟩ := and_e nr12
  obtain ⟨nn14, nr14⟩ := and_e nr13
  obtain ⟨x0, ev0⟩ := exa_v nn0
  have F_0 : Fld s s.heap x0 "java/lang/Enum" "ordinal" "I" (.int (0 : Int32)) := Fld.start (own_fst ev0 (eqv_i (Term.int_eval (0)) nn10))
  obtain ⟨x1, ev1⟩ := exa_v nn13
  have F_1 : Fld s s.heap x1 "java/lang/Enum" "ordinal" "I" (.int (1 : Int32)) := Fld.start (own_fst ev1 (eqv_i (Term.int_eval (1)) nn14))
  obtain ⟨x2, ev2⟩ := exa_v nn2
  have F_2 : Fld s s.heap x2 "java/lang/Enum" "ordinal" "I" (.int (2 : Int32)) := Fld.start (own_fst ev2 (eqv_i (Term.int_eval (2)) nn4))
  obtain ⟨x3, ev3⟩ := exa_v nn9
  have F_3 : Fld s s.heap x3 "java/lang/Enum" "ordinal" "I" (.int (3 : Int32)) := Fld.start (own_fst ev3 (eqv_i (Term.int_eval (3)) nn12))
  obtain ⟨x4, ev4⟩ := exa_v nn1
  have F_4 : Fld s s.heap x4 "java/lang/Enum" "ordinal" "I" (.int (4 : Int32)) := Fld.start (own_fst ev4 (eqv_i (Term.int_eval (4)) nn3))
  obtain ⟨x5, ev5⟩ := exa_v nn5
  have F_5 : Fld s s.heap x5 "java/lang/Enum" "ordinal" "I" (.int (5 : Int32)) := Fld.start (own_fst ev5 (eqv_i (Term.int_eval (5)) nn11))
  obtain ⟨x6, ev6⟩ := exa_v nn8
  have F_6 : Fld s s.heap x6 "java/lang/Enum" "ordinal" "I" (.int (6 : Int32)) := Fld.start (own_fst ev6 (eqv_i (Term.int_eval (6)) nr14))
  obtain ⟨x7, ev7⟩ := exa_v nn6
  have F_7 : Fld s s.heap x7 "java/lang/Enum" "ordinal" "I" (.int (7 : Int32)) := Fld.start (own_fst ev7 (eqv_i (Term.int_eval (7)) nn7))
  have S_0 : Sta s s.heap "com/example/wyrd/wyrd/hoa/Tokens$Kind" "HEADER" "Lcom/example/wyrd/wyrd/hoa/Tokens$Kind;" (.ref ((own_kx x0 x1 x2 x3 x4 x5 x6 x7) 0)) := by
    rw [show (own_kx x0 x1 x2 x3 x4 x5 x6 x7) 0 = x0 from by simp [own_kx]]; exact Sta.start ev0 (Or.inr ⟨own_w hw 41 rfl, own_w hw 42 rfl⟩)
  have S_1 : Sta s s.heap "com/example/wyrd/wyrd/hoa/Tokens$Kind" "IDENTIFIER" "Lcom/example/wyrd/wyrd/hoa/Tokens$Kind;" (.ref ((own_kx x0 x1 x2 x3 x4 x5 x6 x7) 1)) := by
    rw [show (own_kx x0 x1 x2 x3 x4 x5 x6 x7) 1 = x1 from by simp [own_kx]]; exact Sta.start ev1 (Or.inr ⟨own_w hw 41 rfl, own_w hw 89 rfl⟩)
  have S_2 : Sta s s.heap "com/example/wyrd/wyrd/hoa/Tokens$Kind" "INTEGER" "Lcom/example/wyrd/wyrd/hoa/Tokens$Kind;" (.ref ((own_kx x0 x1 x2 x3 x4 x5 x6 x7) 2)) := by
    rw [show (own_kx x0 x1 x2 x3 x4 x5 x6 x7) 2 = x2 from by simp [own_kx]]; exact Sta.start ev2 (Or.inr ⟨own_w hw 41 rfl, own_w hw 76 rfl⟩)
  have S_3 : Sta s s.heap "com/example/wyrd/wyrd/hoa/Tokens$Kind" "STRING" "Lcom/example/wyrd/wyrd/hoa/Tokens$Kind;" (.ref ((own_kx x0 x1 x2 x3 x4 x5 x6 x7) 3)) := by
    rw [show (own_kx x0 x1 x2 x3 x4 x5 x6 x7) 3 = x3 from by simp [own_kx]]; exact Sta.start ev3 (Or.inr ⟨own_w hw 41 rfl, own_w hw 87 rfl⟩)
  have S_4 : Sta s s.heap "com/example/wyrd/wyrd/hoa/Tokens$Kind" "ALIAS" "Lcom/example/wyrd/wyrd/hoa/Tokens$Kind;" (.ref ((own_kx x0 x1 x2 x3 x4 x5 x6 x7) 4)) := by
    rw [show (own_kx x0 x1 x2 x3 x4 x5 x6 x7) 4 = x4 from by simp [own_kx]]; exact Sta.start ev4 (Or.inr ⟨own_w hw 41 rfl, own_w hw 74 rfl⟩)
  have S_5 : Sta s s.heap "com/example/wyrd/wyrd/hoa/Tokens$Kind" "PUNCTUATION" "Lcom/example/wyrd/wyrd/hoa/Tokens$Kind;" (.ref ((own_kx x0 x1 x2 x3 x4 x5 x6 x7) 5)) := by
    rw [show (own_kx x0 x1 x2 x3 x4 x5 x6 x7) 5 = x5 from by simp [own_kx]]; exact Sta.start ev5 (Or.inr ⟨own_w hw 41 rfl, own_w hw 81 rfl⟩)
  have S_6 : Sta s s.heap "com/example/wyrd/wyrd/hoa/Tokens$Kind" "SEPARATOR" "Lcom/example/wyrd/wyrd/hoa/Tokens$Kind;" (.ref ((own_kx x0 x1 x2 x3 x4 x5 x6 x7) 6)) := by
    rw [show (own_kx x0 x1 x2 x3 x4 x5 x6 x7) 6 = x6 from by simp [own_kx]]; exact Sta.start ev6 (Or.inr ⟨own_w hw 41 rfl, own_w hw 85 rfl⟩)
  have S_7 : Sta s s.heap "com/example/wyrd/wyrd/hoa/Tokens$Kind" "END_OF_TEXT" "Lcom/example/wyrd/wyrd/hoa/Tokens$Kind;" (.ref ((own_kx x0 x1 x2 x3 x4 x5 x6 x7) 7)) := by
    rw [show (own_kx x0 x1 x2 x3 x4 x5 x6 x7) 7 = x7 from by simp [own_kx]]; exact Sta.start ev7 (Or.inr ⟨own_w hw 41 rfl, own_w hw 83 rfl⟩)
  have hO : ∀ k : Int32, (k = 0 ∨ k = 1 ∨ k = 2 ∨ k = 3 ∨ k = 4 ∨ k = 5 ∨ k = 6 ∨ k = 7) → Fld s s.heap ((own_kx x0 x1 x2 x3 x4 x5 x6 x7) k) "java/lang/Enum" "ordinal" "I" (.int k) := by
    intro k hk
    rcases hk with rfl | rfl | rfl | rfl | rfl | rfl | rfl | rfl
    · rw [show (own_kx x0 x1 x2 x3 x4 x5 x6 x7) 0 = x0 from by simp [own_kx]]; exact F_0
    · rw [show (own_kx x0 x1 x2 x3 x4 x5 x6 x7) 1 = x1 from by simp [own_kx]]; exact F_1
    · rw [show (own_kx x0 x1 x2 x3 x4 x5 x6 x7) 2 = x2 from by simp [own_kx]]; exact F_2
    · rw [show (own_kx x0 x1 x2 x3 x4 x5 x6 x7) 3 = x3 from by simp [own_kx]]; exact F_3
    · rw [show (own_kx x0 x1 x2 x3 x4 x5 x6 x7) 4 = x4 from by simp [own_kx]]; exact F_4
    · rw [show (own_kx x0 x1 x2 x3 x4 x5 x6 x7) 5 = x5 from by simp [own_kx]]; exact F_5
    · rw [show (own_kx x0 x1 x2 x3 x4 x5 x6 x7) 6 = x6 from by simp [own_kx]]; exact F_6
    · rw [show (own_kx x0 x1 x2 x3 x4 x5 x6 x7) 7 = x7 from by simp [own_kx]]; exact F_7
  obtain ⟨n, o, h1, h2, h3, _, L, rfl, ⟨rfl, N⟩, hq⟩ := rm0 l s _ hw i0 i1 i2 i3 i4 i5 s.heap s.heap.size (Nat.le_refl _) zz (own_kx x0 x1 x2 x3 x4 x5 x6 x7) S_0 S_1 S_2 S_3 S_4 S_5 S_6 S_7 hO S12 c17 (Old.start s) hh hcw tables_1 p e ha hc hk s m _ below hf ((Spec.applies_iff_loose hf).mp happ).1 ⟨rfl, State.Warmed39.refl s, rfl, OLit.start⟩ trivial
  refine ⟨n, _, h1, h2, h3, hpost _ _ _ _ _ _ ⟨Cond.after_iff.mpr rfl, Cond.after_iff.mpr (eq_i res_at (Term.int_eval (1)) rfl), trivial⟩ ⟨hq.1, hq.2.1, hq.2.2.1, (hq.2.2.2.sift fun y hy => Or.inr (N y hy)).mono (by decide) (by decide)⟩⟩
theorem main_1_1 : Claimed_1_1 := comes_1 fun _ _ _ _ _ _ h hF => ⟨h.1, hF⟩
theorem main_1_2 : Claimed_1_2 := comes_1 fun _ _ _ _ _ _ h hF => ⟨h.2.1, hF⟩
end Jvm.Pilot.@@N@@
namespace Jvm.Pilot.@@N@@
open Jvm Jvm.ClassFile Sem Op Lib Jvm.Free Jvm.Stand Jvm.Pilot.@@N@@.Jvm.D
/-! MADE BY PROGRAM (witnessworld.py) out of the Statement's table words and the real class files: 23 classes; the members and pool entries that the words name. The judged class is class 1, her method 3. -/
namespace start1
open Jvm.ClassFile
def u (s : String) : CpInfo := .utf8 (stringToUtf16 s)
/-- a pool by its gaps: so many unusable entries, then the entry; so many at the end -/
def gap : Nat → List CpInfo → List CpInfo
  | 0, r => r
  | n + 1, r => .unusable :: gap n r
def poolList (es : List (Nat × CpInfo)) (last : Nat) : List CpInfo := es.foldr (fun e r => gap e.1 (e.2 :: r)) (gap last [])
def pool (es : List (Nat × CpInfo)) (last : Nat) : Array CpInfo := ⟨poolList es last⟩
def fileOf (pool : Array CpInfo) (this : Nat) (attrs : Array Attribute := #[]) (ms : Array MethodInfo := #[]) (fl : Nat := 33) (sup : Nat := 0) (ifs : Array Nat := #[]) (fds : Array FieldInfo := #[]) : ClassFile where
  minorVersion := 0
  majorVersion := 65
  constantPool := pool
  accessFlags := fl
  thisClass := this
  superClass := sup
  interfaces := ifs
  fields := fds
  methods := ms
  attributes := attrs
def plain (name : String) (sup : Option ClassId) : Class where
  name := name
  kind := .ordinary
  loader := none
  accessFlags := 33
  super := sup
  interfaces := #[]
  cf := none
  fields := #[]
  methods := #[]
  instanceTypes := #[]
  staticTypes := #[]
  resolved := #[]
  callSites := []
  init := .initialized
  statics := none
  mirror := none

def pool0 : Array CpInfo := pool [(5, u "<init>"), (0, u "()V"), (1, .class_ 10), (1, u "java/lang/Object")] 113

def k0c0 : Code := { maxStack := 0, maxLocals := 1, code := object_method_1_code, exceptionTable := #[], attributes := #[] }
def k0m0 : Method := { name := "<init>", desc := "()V", sig := { parameters := [], returnType := none }, accessFlags := 1, code := some k0c0 }
/-- java/lang/Object -/
def k0 : Class := { plain "java/lang/Object" none with
  accessFlags := 33
  interfaces := #[]
  cf := some (fileOf pool0 8 #[] #[{ accessFlags := 1, nameIndex := 5, descriptorIndex := 6, attributes := #[] }] 33 0 #[] #[])
  fields := #[]
  methods := #[k0m0]
  instanceTypes := #[]
  staticTypes := #[]
  resolved := Array.replicate 124 none
  statics := none }

def pool1 : Array CpInfo := pool [(2, .class_ 4), (1, u "java/lang/Object"), (0, u "<init>"), (0, u "()V"), (0, .fieldref 8 9), (0, .class_ 10), (0, .nameAndType 11 12), (0, u "com/example/wyrd/wyrd/hoa/Tokens$Kind"), (0, u "HEADER"), (0, u "Lcom/example/wyrd/wyrd/hoa/Tokens$Kind;"), (0, .fieldref 8 14), (0, .nameAndType 15 12), (0, u "IDENTIFIER"), (0, .fieldref 8 17), (0, .nameAndType 18 12), (0, u "INTEGER"), (0, .fieldref 8 20), (0, .nameAndType 21 12), (0, u "STRING"), (0, .fieldref 8 23), (0, .nameAndType 24 12), (0, u "ALIAS"), (0, .fieldref 8 26), (0, .nameAndType 27 12), (0, u "PUNCTUATION"), (0, .fieldref 8 29), (0, .nameAndType 30 12), (0, u "SEPARATOR"), (0, .fieldref 8 32), (0, .nameAndType 33 12), (0, u "END_OF_TEXT"), (0, .class_ 35), (0, u "java/lang/String"), (0, .methodref 34 37), (0, .nameAndType 5 38), (0, u "([C)V"), (0, .methodref 40 41), (0, .class_ 42), (0, .nameAndType 43 44), (0, u "com/example/wyrd/wyrd/hoa/TokenIsPinLaw"), (0, u "text"), (0, u "(ICCC)Ljava/lang/String;"), (0, .class_ 46), (0, u "com/example/wyrd/wyrd/hoa/Tokens$Token"), (0, .methodref 40 48), (0, .nameAndType 49 50), (0, u "kind"), (0, u "(I)Lcom/example/wyrd/wyrd/hoa/Tokens$Kind;"), (0, .methodref 45 52), (0, .nameAndType 5 53), (0, u "(Lcom/example/wyrd/wyrd/hoa/Tokens$Kind;Ljava/lang/String;I)V"), (0, .methodref 45 55), (0, .nameAndType 56 57), (0, u "is"), (0, u "(Lcom/example/wyrd/wyrd/hoa/Tokens$Kind;Ljava/lang/String;)Z"), (3, u "law"), (0, u "(IIIIII)Z")] 7

def k1m0 : Method := { name := "<init>", desc := "()V", sig := { parameters := [], returnType := none }, accessFlags := 1, code := none }
def k1c1 : Code := { maxStack := 2, maxLocals := 1, code := method_2_code, exceptionTable := #[], attributes := #[] }
def k1m1 : Method := { name := "kind", desc := "(I)Lcom/example/wyrd/wyrd/hoa/Tokens$Kind;", sig := { parameters := [.int], returnType := some (.object "com/example/wyrd/wyrd/hoa/Tokens$Kind") }, accessFlags := 10, code := some k1c1 }
def k1c2 : Code := { maxStack := 6, maxLocals := 4, code := method_3_code, exceptionTable := #[], attributes := #[] }
def k1m2 : Method := { name := "text", desc := "(ICCC)Ljava/lang/String;", sig := { parameters := [.int, .char, .char, .char], returnType := some (.object "java/lang/String") }, accessFlags := 10, code := some k1c2 }
def k1c3 : Code := { maxStack := 5, maxLocals := 22, code := code, exceptionTable := #[], attributes := #[] }
def k1m3 : Method := { name := "law", desc := "(IIIIII)Z", sig := { parameters := [.int, .int, .int, .int, .int, .int], returnType := some .boolean }, accessFlags := 9, code := some k1c3 }
/-- com/example/wyrd/wyrd/hoa/TokenIsPinLaw -/
def k1 : Class := { plain "com/example/wyrd/wyrd/hoa/TokenIsPinLaw" (some 0) with
  accessFlags := 49
  interfaces := #[]
  cf := some (fileOf pool1 40 #[] #[{ accessFlags := 1, nameIndex := 5, descriptorIndex := 6, attributes := #[] }, { accessFlags := 10, nameIndex := 49, descriptorIndex := 50, attributes := #[] }, { accessFlags := 10, nameIndex := 43, descriptorIndex := 44, attributes := #[] }, { accessFlags := 9, nameIndex := 61, descriptorIndex := 62, attributes := #[] }] 49 2 #[] #[])
  fields := #[]
  methods := #[k1m0, k1m1, k1m2, k1m3]
  instanceTypes := #[]
  staticTypes := #[]
  resolved := Array.replicate 70 none
  statics := none }

def pool2 : Array CpInfo := pool [(1, .class_ 2), (0, u "java/io/Serializable"), (0, .class_ 4), (0, u "java/lang/Object")] 2

/-- java/io/Serializable -/
def k2 : Class := { plain "java/io/Serializable" (some 0) with
  accessFlags := 1537
  interfaces := #[]
  cf := some (fileOf pool2 1 #[] #[] 1537 3 #[] #[])
  fields := #[]
  methods := #[]
  instanceTypes := #[]
  staticTypes := #[]
  resolved := Array.replicate 7 none
  statics := none }

def pool3 : Array CpInfo := pool [(1, .class_ 2), (0, u "java/lang/Comparable"), (0, .class_ 4), (0, u "java/lang/Object")] 7

/-- java/lang/Comparable -/
def k3 : Class := { plain "java/lang/Comparable" (some 0) with
  accessFlags := 1537
  interfaces := #[]
  cf := some (fileOf pool3 1 #[] #[] 1537 3 #[] #[])
  fields := #[]
  methods := #[]
  instanceTypes := #[]
  staticTypes := #[]
  resolved := Array.replicate 12 none
  statics := none }

def pool4 : Array CpInfo := pool [(2, .class_ 4), (1, u "java/lang/CharSequence"), (42, .class_ 48), (0, u "java/lang/CharSequence$1CodePointIterator"), (10, .class_ 60), (0, u "java/lang/CharSequence$1CharIterator"), (5, .class_ 67), (0, u "java/lang/Object")] 63

/-- java/lang/CharSequence -/
def k4 : Class := { plain "java/lang/CharSequence" (some 0) with
  accessFlags := 1537
  interfaces := #[]
  cf := some (fileOf pool4 2 #[.nestMembers #[47, 59]] #[] 1537 66 #[] #[])
  fields := #[]
  methods := #[]
  instanceTypes := #[]
  staticTypes := #[]
  resolved := Array.replicate 131 none
  statics := none }

def pool5 : Array CpInfo := pool [(1, .class_ 2), (0, u "java/lang/constant/Constable"), (0, .class_ 4), (0, u "java/lang/Object")] 6

/-- java/lang/constant/Constable -/
def k5 : Class := { plain "java/lang/constant/Constable" (some 0) with
  accessFlags := 1537
  interfaces := #[]
  cf := some (fileOf pool5 1 #[] #[] 1537 3 #[] #[])
  fields := #[]
  methods := #[]
  instanceTypes := #[]
  staticTypes := #[]
  resolved := Array.replicate 11 none
  statics := none }

def pool6 : Array CpInfo := pool [(1, .class_ 2), (0, u "java/lang/constant/ConstantDesc"), (0, .class_ 4), (0, u "java/lang/Object")] 32

/-- java/lang/constant/ConstantDesc -/
def k6 : Class := { plain "java/lang/constant/ConstantDesc" (some 0) with
  accessFlags := 1537
  interfaces := #[]
  cf := some (fileOf pool6 1 #[] #[] 1537 3 #[] #[])
  fields := #[]
  methods := #[]
  instanceTypes := #[]
  staticTypes := #[]
  resolved := Array.replicate 37 none
  statics := none }

def pool7 : Array CpInfo := pool [(1, .methodref 2 3), (0, .class_ 4), (0, .nameAndType 5 6), (0, u "java/lang/Object"), (0, u "<init>"), (0, u "()V"), (0, .string 8), (0, u ""), (0, .fieldref 10 11), (0, .class_ 12), (0, .nameAndType 13 14), (0, u "java/lang/String"), (0, u "value"), (0, u "[B"), (0, .fieldref 10 16), (0, .nameAndType 17 18), (0, u "coder"), (0, u "B"), (2, u "hash"), (0, u "I"), (2, u "hashIsZero"), (0, u "Z"), (0, .methodref 10 28), (0, .nameAndType 5 29), (0, u "([CIILjava/lang/Void;)V"), (8, .fieldref 10 39), (0, .nameAndType 40 26), (0, u "COMPACT_STRINGS"), (1, .class_ 44), (1, u "java/lang/StringUTF16"), (0, u "compress"), (1, .methodref 42 48), (0, .nameAndType 49 50), (0, u "coderFromArrayLen"), (0, u "([BI)B"), (56, .class_ 109), (1, u "java/lang/StringLatin1"), (67, .methodref 42 178), (0, .nameAndType 45 179), (0, u "([CII)[B"), (361, .methodref 107 542), (0, .nameAndType 543 544), (0, u "equals"), (0, u "([B[B)Z"), (28, u "(Ljava/lang/Object;)Z"), (1, .class_ 576), (0, u "java/lang/CharSequence"), (22, u "CASE_INSENSITIVE_ORDER"), (0, u "Ljava/util/Comparator;"), (409, u "([C)V"), (90, u "serialPersistentFields"), (0, u "[Ljava/io/ObjectStreamField;"), (0, .class_ 1104), (0, u "java/lang/String$CaseInsensitiveComparator"), (1, .class_ 1107), (0, u "java/io/Serializable"), (0, .class_ 1109), (0, u "java/lang/Comparable"), (0, .class_ 1111), (0, u "java/lang/constant/Constable"), (0, .class_ 1113), (0, u "java/lang/constant/ConstantDesc"), (2, u "serialVersionUID"), (0, u "J"), (3, u "REPL"), (0, u "C"), (2, u "LATIN1"), (1, u "UTF16")] 323

def k7m0 : Method := { name := "<init>", desc := "()V", sig := { parameters := [], returnType := none }, accessFlags := 1, code := none }
def k7c1 : Code := { maxStack := 5, maxLocals := 2, code := jdk_42_method_3_code, exceptionTable := #[], attributes := #[] }
def k7m1 : Method := { name := "<init>", desc := "([C)V", sig := { parameters := [(.array .char)], returnType := none }, accessFlags := 1, code := some k7c1 }
def k7c2 : Code := { maxStack := 2, maxLocals := 3, code := jdk_42_method_66_code, exceptionTable := #[], attributes := #[] }
def k7m2 : Method := { name := "equals", desc := "(Ljava/lang/Object;)Z", sig := { parameters := [(.object "java/lang/Object")], returnType := some .boolean }, accessFlags := 1, code := some k7c2 }
def k7c3 : Code := { maxStack := 4, maxLocals := 6, code := jdk_42_method_149_code, exceptionTable := #[], attributes := #[] }
def k7m3 : Method := { name := "<init>", desc := "([CIILjava/lang/Void;)V", sig := { parameters := [(.array .char), .int, .int, (.object "java/lang/Void")], returnType := none }, accessFlags := 2, code := some k7c3 }
/-- java/lang/String -/
def k7 : Class := { plain "java/lang/String" (some 0) with
  accessFlags := 49
  interfaces := #[2, 3, 4, 5, 6]
  cf := some (fileOf pool7 10 #[.nestMembers #[1103]] #[{ accessFlags := 1, nameIndex := 5, descriptorIndex := 6, attributes := #[] }, { accessFlags := 1, nameIndex := 5, descriptorIndex := 1010, attributes := #[] }, { accessFlags := 1, nameIndex := 543, descriptorIndex := 573, attributes := #[] }, { accessFlags := 2, nameIndex := 5, descriptorIndex := 29, attributes := #[] }] 49 2 #[1106, 1108, 575, 1110, 1112] #[{ accessFlags := 18, nameIndex := 13, descriptorIndex := 14, attributes := #[] }, { accessFlags := 18, nameIndex := 17, descriptorIndex := 18, attributes := #[] }, { accessFlags := 2, nameIndex := 21, descriptorIndex := 22, attributes := #[] }, { accessFlags := 2, nameIndex := 25, descriptorIndex := 26, attributes := #[] }, { accessFlags := 26, nameIndex := 1116, descriptorIndex := 1117, attributes := #[] }, { accessFlags := 24, nameIndex := 40, descriptorIndex := 26, attributes := #[] }, { accessFlags := 26, nameIndex := 1101, descriptorIndex := 1102, attributes := #[] }, { accessFlags := 26, nameIndex := 1121, descriptorIndex := 1122, attributes := #[] }, { accessFlags := 25, nameIndex := 599, descriptorIndex := 600, attributes := #[] }, { accessFlags := 24, nameIndex := 1125, descriptorIndex := 18, attributes := #[] }, { accessFlags := 24, nameIndex := 1127, descriptorIndex := 18, attributes := #[] }])
  fields := #[{ name := "value", type := (.array .byte), accessFlags := 18, slot := 0, constantValue := 0 }, { name := "coder", type := .byte, accessFlags := 18, slot := 1, constantValue := 0 }, { name := "hash", type := .int, accessFlags := 2, slot := 2, constantValue := 0 }, { name := "hashIsZero", type := .boolean, accessFlags := 2, slot := 3, constantValue := 0 }, { name := "serialVersionUID", type := .long, accessFlags := 26, slot := 0, constantValue := 0 }, { name := "COMPACT_STRINGS", type := .boolean, accessFlags := 24, slot := 1, constantValue := 0 }, { name := "serialPersistentFields", type := (.array (.object "java/io/ObjectStreamField")), accessFlags := 26, slot := 2, constantValue := 0 }, { name := "REPL", type := .char, accessFlags := 26, slot := 3, constantValue := 0 }, { name := "CASE_INSENSITIVE_ORDER", type := (.object "java/util/Comparator"), accessFlags := 25, slot := 4, constantValue := 0 }, { name := "LATIN1", type := .byte, accessFlags := 24, slot := 5, constantValue := 0 }, { name := "UTF16", type := .byte, accessFlags := 24, slot := 6, constantValue := 0 }]
  methods := #[k7m0, k7m1, k7m2, k7m3]
  instanceTypes := #[(.array .byte), .byte, .int, .boolean]
  staticTypes := #[.long, .boolean, (.array (.object "java/io/ObjectStreamField")), .char, (.object "java/util/Comparator"), .byte, .byte]
  resolved := Array.replicate 1451 none
  statics := some 0 }

def pool8 : Array CpInfo := pool [(6, .class_ 8), (1, u "java/lang/Object"), (0, u "<init>"), (0, u "()V"), (1, .class_ 14), (1, u "java/lang/StringUTF16"), (31, u "$assertionsDisabled"), (0, u "Z"), (13, u "HI_BYTE_SHIFT"), (0, u "I"), (2, u "LO_BYTE_SHIFT"), (49, .methodref 12 116), (0, .nameAndType 117 118), (0, u "compress"), (0, u "([CI[BII)I"), (3, u "([CII)[B"), (138, u "coderFromArrayLen"), (0, u "([BI)B"), (106, .class_ 371), (1, u "java/lang/StringUTF16$LinesSpliterator"), (58, u "MAX_LENGTH"), (196, .class_ 628), (0, u "java/lang/StringUTF16$CodePointsSpliterator"), (0, .class_ 630), (0, u "java/lang/StringUTF16$CharsSpliterator")] 4

def k8m0 : Method := { name := "<init>", desc := "()V", sig := { parameters := [], returnType := none }, accessFlags := 0, code := none }
def k8c1 : Code := { maxStack := 2, maxLocals := 2, code := jdk_52_method_15_code, exceptionTable := #[], attributes := #[] }
def k8m1 : Method := { name := "coderFromArrayLen", desc := "([BI)B", sig := { parameters := [(.array .byte), .int], returnType := some .byte }, accessFlags := 8, code := some k8c1 }
def k8c2 : Code := { maxStack := 5, maxLocals := 6, code := jdk_52_method_16_code, exceptionTable := #[], attributes := #[] }
def k8m2 : Method := { name := "compress", desc := "([CII)[B", sig := { parameters := [(.array .char), .int, .int], returnType := some (.array .byte) }, accessFlags := 9, code := some k8c2 }
def k8c3 : Code := { maxStack := 3, maxLocals := 7, code := jdk_52_method_21_code, exceptionTable := #[], attributes := #[] }
def k8m3 : Method := { name := "compress", desc := "([CI[BII)I", sig := { parameters := [(.array .char), .int, (.array .byte), .int, .int], returnType := some .int }, accessFlags := 9, code := some k8c3 }
/-- java/lang/StringUTF16 -/
def k8 : Class := { plain "java/lang/StringUTF16" (some 0) with
  accessFlags := 48
  interfaces := #[]
  cf := some (fileOf pool8 12 #[.nestMembers #[627, 629, 369]] #[{ accessFlags := 0, nameIndex := 9, descriptorIndex := 10, attributes := #[] }, { accessFlags := 8, nameIndex := 261, descriptorIndex := 262, attributes := #[] }, { accessFlags := 9, nameIndex := 117, descriptorIndex := 122, attributes := #[] }, { accessFlags := 9, nameIndex := 117, descriptorIndex := 118, attributes := #[] }] 48 6 #[] #[{ accessFlags := 26, nameIndex := 61, descriptorIndex := 62, attributes := #[] }, { accessFlags := 26, nameIndex := 65, descriptorIndex := 62, attributes := #[] }, { accessFlags := 24, nameIndex := 430, descriptorIndex := 62, attributes := #[] }, { accessFlags := 4120, nameIndex := 46, descriptorIndex := 47, attributes := #[] }])
  fields := #[{ name := "HI_BYTE_SHIFT", type := .int, accessFlags := 26, slot := 0, constantValue := 0 }, { name := "LO_BYTE_SHIFT", type := .int, accessFlags := 26, slot := 1, constantValue := 0 }, { name := "MAX_LENGTH", type := .int, accessFlags := 24, slot := 2, constantValue := 0 }, { name := "$assertionsDisabled", type := .boolean, accessFlags := 4120, slot := 3, constantValue := 0 }]
  methods := #[k8m0, k8m1, k8m2, k8m3]
  instanceTypes := #[]
  staticTypes := #[.int, .int, .int, .boolean]
  resolved := Array.replicate 635 none
  statics := none }

def pool9 : Array CpInfo := pool [(1, .methodref 2 3), (0, .class_ 4), (0, .nameAndType 5 6), (0, u "java/lang/Object"), (0, u "<init>"), (0, u "()V"), (0, .class_ 8), (0, u "java/lang/Record")] 13

def k9c0 : Code := { maxStack := 1, maxLocals := 1, code := jdk_30_method_1_code, exceptionTable := #[], attributes := #[] }
def k9m0 : Method := { name := "<init>", desc := "()V", sig := { parameters := [], returnType := none }, accessFlags := 4, code := some k9c0 }
/-- java/lang/Record -/
def k9 : Class := { plain "java/lang/Record" (some 0) with
  accessFlags := 1057
  interfaces := #[]
  cf := some (fileOf pool9 7 #[] #[{ accessFlags := 4, nameIndex := 5, descriptorIndex := 6, attributes := #[] }] 1057 2 #[] #[])
  fields := #[]
  methods := #[k9m0]
  instanceTypes := #[]
  staticTypes := #[]
  resolved := Array.replicate 22 none
  statics := none }

def pool10 : Array CpInfo := pool [(1, .methodref 2 3), (0, .class_ 4), (0, .nameAndType 5 6), (0, u "java/lang/Record"), (0, u "<init>"), (0, u "()V"), (0, .fieldref 8 9), (0, .class_ 10), (0, .nameAndType 11 12), (0, u "com/example/wyrd/wyrd/hoa/Tokens$Token"), (0, u "kind"), (0, u "Lcom/example/wyrd/wyrd/hoa/Tokens$Kind;"), (0, .fieldref 8 14), (0, .nameAndType 15 16), (0, u "text"), (0, u "Ljava/lang/String;"), (0, .fieldref 8 18), (0, .nameAndType 19 20), (0, u "line"), (0, u "I"), (0, .methodref 22 23), (0, .class_ 24), (0, .nameAndType 25 26), (0, u "java/lang/String"), (0, u "equals"), (0, u "(Ljava/lang/Object;)Z"), (24, u "(Lcom/example/wyrd/wyrd/hoa/Tokens$Kind;Ljava/lang/String;I)V"), (3, u "is"), (0, u "(Lcom/example/wyrd/wyrd/hoa/Tokens$Kind;Ljava/lang/String;)Z"), (8, .class_ 66), (0, u "com/example/wyrd/wyrd/hoa/Tokens")] 22

def k10c0 : Code := { maxStack := 2, maxLocals := 4, code := prog_66_method_1_code, exceptionTable := #[], attributes := #[] }
def k10m0 : Method := { name := "<init>", desc := "(Lcom/example/wyrd/wyrd/hoa/Tokens$Kind;Ljava/lang/String;I)V", sig := { parameters := [(.object "com/example/wyrd/wyrd/hoa/Tokens$Kind"), (.object "java/lang/String"), .int], returnType := none }, accessFlags := 0, code := some k10c0 }
def k10c1 : Code := { maxStack := 2, maxLocals := 3, code := prog_66_method_2_code, exceptionTable := #[], attributes := #[] }
def k10m1 : Method := { name := "is", desc := "(Lcom/example/wyrd/wyrd/hoa/Tokens$Kind;Ljava/lang/String;)Z", sig := { parameters := [(.object "com/example/wyrd/wyrd/hoa/Tokens$Kind"), (.object "java/lang/String")], returnType := some .boolean }, accessFlags := 0, code := some k10c1 }
/-- com/example/wyrd/wyrd/hoa/Tokens$Token -/
def k10 : Class := { plain "com/example/wyrd/wyrd/hoa/Tokens$Token" (some 9) with
  accessFlags := 48
  interfaces := #[]
  cf := some (fileOf pool10 8 #[.nestHost 65] #[{ accessFlags := 0, nameIndex := 5, descriptorIndex := 51, attributes := #[] }, { accessFlags := 0, nameIndex := 55, descriptorIndex := 56, attributes := #[] }] 48 2 #[] #[{ accessFlags := 18, nameIndex := 11, descriptorIndex := 12, attributes := #[] }, { accessFlags := 18, nameIndex := 15, descriptorIndex := 16, attributes := #[] }, { accessFlags := 18, nameIndex := 19, descriptorIndex := 20, attributes := #[] }])
  fields := #[{ name := "kind", type := (.object "com/example/wyrd/wyrd/hoa/Tokens$Kind"), accessFlags := 18, slot := 0, constantValue := 0 }, { name := "text", type := (.object "java/lang/String"), accessFlags := 18, slot := 1, constantValue := 0 }, { name := "line", type := .int, accessFlags := 18, slot := 2, constantValue := 0 }]
  methods := #[k10m0, k10m1]
  instanceTypes := #[(.object "com/example/wyrd/wyrd/hoa/Tokens$Kind"), (.object "java/lang/String"), .int]
  staticTypes := #[]
  resolved := Array.replicate 89 none
  statics := none }

def pool11 : Array CpInfo := pool [(2, .class_ 4), (1, u "java/lang/Enum"), (0, u "name"), (0, u "Ljava/lang/String;"), (2, u "ordinal"), (0, u "I"), (1, .class_ 14), (1, u "java/lang/Object"), (4, u "hash"), (86, .class_ 108), (1, u "java/lang/Enum$EnumDesc"), (2, .class_ 112), (0, u "java/lang/constant/Constable"), (0, .class_ 114), (0, u "java/lang/Comparable"), (0, .class_ 116), (0, u "java/io/Serializable")] 87

/-- java/lang/Enum -/
def k11 : Class := { plain "java/lang/Enum" (some 0) with
  accessFlags := 1057
  interfaces := #[5, 3, 2]
  cf := some (fileOf pool11 2 #[.nestMembers #[106]] #[] 1057 12 #[111, 113, 115] #[{ accessFlags := 18, nameIndex := 5, descriptorIndex := 6, attributes := #[] }, { accessFlags := 18, nameIndex := 9, descriptorIndex := 10, attributes := #[] }, { accessFlags := 2, nameIndex := 19, descriptorIndex := 10, attributes := #[] }])
  fields := #[{ name := "name", type := (.object "java/lang/String"), accessFlags := 18, slot := 0, constantValue := 0 }, { name := "ordinal", type := .int, accessFlags := 18, slot := 1, constantValue := 0 }, { name := "hash", type := .int, accessFlags := 2, slot := 2, constantValue := 0 }]
  methods := #[]
  instanceTypes := #[(.object "java/lang/String"), .int, .int]
  staticTypes := #[]
  resolved := Array.replicate 204 none
  statics := none }

def pool12 : Array CpInfo := pool [(1, .class_ 2), (0, u "com/example/wyrd/wyrd/hoa/Tokens$Kind"), (2, u "HEADER"), (0, u "Lcom/example/wyrd/wyrd/hoa/Tokens$Kind;"), (2, u "IDENTIFIER"), (2, u "INTEGER"), (2, u "STRING"), (2, u "ALIAS"), (2, u "PUNCTUATION"), (2, u "SEPARATOR"), (2, u "END_OF_TEXT"), (2, u "$VALUES"), (0, u "[Lcom/example/wyrd/wyrd/hoa/Tokens$Kind;"), (6, .class_ 40), (1, u "java/lang/Enum"), (31, .class_ 73), (0, u "com/example/wyrd/wyrd/hoa/Tokens")] 2

/-- com/example/wyrd/wyrd/hoa/Tokens$Kind -/
def k12 : Class := { plain "com/example/wyrd/wyrd/hoa/Tokens$Kind" (some 11) with
  accessFlags := 16432
  interfaces := #[]
  cf := some (fileOf pool12 1 #[.nestHost 72] #[] 16432 38 #[] #[{ accessFlags := 16409, nameIndex := 5, descriptorIndex := 6, attributes := #[] }, { accessFlags := 16409, nameIndex := 9, descriptorIndex := 6, attributes := #[] }, { accessFlags := 16409, nameIndex := 12, descriptorIndex := 6, attributes := #[] }, { accessFlags := 16409, nameIndex := 15, descriptorIndex := 6, attributes := #[] }, { accessFlags := 16409, nameIndex := 18, descriptorIndex := 6, attributes := #[] }, { accessFlags := 16409, nameIndex := 21, descriptorIndex := 6, attributes := #[] }, { accessFlags := 16409, nameIndex := 24, descriptorIndex := 6, attributes := #[] }, { accessFlags := 16409, nameIndex := 27, descriptorIndex := 6, attributes := #[] }, { accessFlags := 4122, nameIndex := 30, descriptorIndex := 31, attributes := #[] }])
  fields := #[{ name := "HEADER", type := (.object "com/example/wyrd/wyrd/hoa/Tokens$Kind"), accessFlags := 16409, slot := 0, constantValue := 0 }, { name := "IDENTIFIER", type := (.object "com/example/wyrd/wyrd/hoa/Tokens$Kind"), accessFlags := 16409, slot := 1, constantValue := 0 }, { name := "INTEGER", type := (.object "com/example/wyrd/wyrd/hoa/Tokens$Kind"), accessFlags := 16409, slot := 2, constantValue := 0 }, { name := "STRING", type := (.object "com/example/wyrd/wyrd/hoa/Tokens$Kind"), accessFlags := 16409, slot := 3, constantValue := 0 }, { name := "ALIAS", type := (.object "com/example/wyrd/wyrd/hoa/Tokens$Kind"), accessFlags := 16409, slot := 4, constantValue := 0 }, { name := "PUNCTUATION", type := (.object "com/example/wyrd/wyrd/hoa/Tokens$Kind"), accessFlags := 16409, slot := 5, constantValue := 0 }, { name := "SEPARATOR", type := (.object "com/example/wyrd/wyrd/hoa/Tokens$Kind"), accessFlags := 16409, slot := 6, constantValue := 0 }, { name := "END_OF_TEXT", type := (.object "com/example/wyrd/wyrd/hoa/Tokens$Kind"), accessFlags := 16409, slot := 7, constantValue := 0 }, { name := "$VALUES", type := (.array (.object "com/example/wyrd/wyrd/hoa/Tokens$Kind")), accessFlags := 4122, slot := 8, constantValue := 0 }]
  methods := #[]
  instanceTypes := #[(.object "java/lang/String"), .int, .int]
  staticTypes := #[(.object "com/example/wyrd/wyrd/hoa/Tokens$Kind"), (.object "com/example/wyrd/wyrd/hoa/Tokens$Kind"), (.object "com/example/wyrd/wyrd/hoa/Tokens$Kind"), (.object "com/example/wyrd/wyrd/hoa/Tokens$Kind"), (.object "com/example/wyrd/wyrd/hoa/Tokens$Kind"), (.object "com/example/wyrd/wyrd/hoa/Tokens$Kind"), (.object "com/example/wyrd/wyrd/hoa/Tokens$Kind"), (.object "com/example/wyrd/wyrd/hoa/Tokens$Kind"), (.array (.object "com/example/wyrd/wyrd/hoa/Tokens$Kind"))]
  resolved := Array.replicate 76 none
  statics := some 1 }

def pool13 : Array CpInfo := pool [(4, .class_ 6), (1, u "java/lang/Object"), (0, u "<init>"), (0, u "()V"), (5, .class_ 16), (1, u "java/lang/StringLatin1"), (104, u "$assertionsDisabled"), (0, u "Z"), (98, .class_ 223), (1, u "java/lang/StringLatin1$LinesSpliterator"), (57, u "equals"), (0, u "([B[B)Z"), (107, .class_ 391), (0, u "java/lang/StringLatin1$CharsSpliterator")] 3

def k13m0 : Method := { name := "<init>", desc := "()V", sig := { parameters := [], returnType := none }, accessFlags := 0, code := none }
def k13c1 : Code := { maxStack := 3, maxLocals := 3, code := jdk_43_method_13_code, exceptionTable := #[], attributes := #[] }
def k13m1 : Method := { name := "equals", desc := "([B[B)Z", sig := { parameters := [(.array .byte), (.array .byte)], returnType := some .boolean }, accessFlags := 9, code := some k13c1 }
/-- java/lang/StringLatin1 -/
def k13 : Class := { plain "java/lang/StringLatin1" (some 0) with
  accessFlags := 48
  interfaces := #[]
  cf := some (fileOf pool13 14 #[.nestMembers #[390, 221]] #[{ accessFlags := 0, nameIndex := 7, descriptorIndex := 8, attributes := #[] }, { accessFlags := 9, nameIndex := 281, descriptorIndex := 282, attributes := #[] }] 48 4 #[] #[{ accessFlags := 4120, nameIndex := 121, descriptorIndex := 122, attributes := #[] }])
  fields := #[{ name := "$assertionsDisabled", type := .boolean, accessFlags := 4120, slot := 0, constantValue := 0 }]
  methods := #[k13m0, k13m1]
  instanceTypes := #[]
  staticTypes := #[.boolean]
  resolved := Array.replicate 395 none
  statics := none }

def pool14 : Array CpInfo := pool [(2, .class_ 4), (1, u "java/lang/Object"), (0, u "<init>"), (0, u "()V"), (17, .class_ 26), (1, u "jdk/internal/util/Preconditions"), (28, .class_ 56), (0, u "jdk/internal/util/Preconditions$4"), (57, .class_ 115), (0, u "jdk/internal/util/Preconditions$1"), (7, u "SIOOBE_FORMATTER"), (0, u "Ljava/util/function/BiFunction;"), (0, .class_ 126), (0, u "jdk/internal/util/Preconditions$2"), (3, u "AIOOBE_FORMATTER"), (0, .class_ 132), (0, u "jdk/internal/util/Preconditions$3"), (3, u "IOOBE_FORMATTER")] 57

def k14m0 : Method := { name := "<init>", desc := "()V", sig := { parameters := [], returnType := none }, accessFlags := 1, code := none }
/-- jdk/internal/util/Preconditions -/
def k14 : Class := { plain "jdk/internal/util/Preconditions" (some 0) with
  accessFlags := 33
  interfaces := #[]
  cf := some (fileOf pool14 24 #[.nestMembers #[55, 131, 125, 114]] #[{ accessFlags := 1, nameIndex := 5, descriptorIndex := 6, attributes := #[] }] 33 2 #[] #[{ accessFlags := 25, nameIndex := 123, descriptorIndex := 124, attributes := #[] }, { accessFlags := 25, nameIndex := 130, descriptorIndex := 124, attributes := #[] }, { accessFlags := 25, nameIndex := 136, descriptorIndex := 124, attributes := #[] }])
  fields := #[{ name := "SIOOBE_FORMATTER", type := (.object "java/util/function/BiFunction"), accessFlags := 25, slot := 0, constantValue := 0 }, { name := "AIOOBE_FORMATTER", type := (.object "java/util/function/BiFunction"), accessFlags := 25, slot := 1, constantValue := 0 }, { name := "IOOBE_FORMATTER", type := (.object "java/util/function/BiFunction"), accessFlags := 25, slot := 2, constantValue := 0 }]
  methods := #[k14m0]
  instanceTypes := #[]
  staticTypes := #[(.object "java/util/function/BiFunction"), (.object "java/util/function/BiFunction"), (.object "java/util/function/BiFunction")]
  resolved := Array.replicate 194 none
  statics := some 2 }

def pool15 : Array CpInfo := pool [(9, u "<init>"), (6, .class_ 18), (1, u "java/lang/Object"), (0, u "()V"), (1, .class_ 23), (1, u "jdk/internal/util/ArraysSupport"), (0, u "LOG2_ARRAY_LONG_INDEX_SCALE"), (0, u "I"), (2, u "U"), (0, u "Ljdk/internal/misc/Unsafe;"), (8, u "BIG_ENDIAN"), (0, u "Z"), (8, u "LOG2_BYTE_BIT_SIZE"), (4, u "LOG2_ARRAY_INT_INDEX_SCALE"), (54, u "JLA"), (0, u "Ljdk/internal/access/JavaLangAccess;"), (11, u "LOG2_ARRAY_BOOLEAN_INDEX_SCALE"), (9, u "LOG2_ARRAY_BYTE_INDEX_SCALE"), (5, u "LOG2_ARRAY_CHAR_INDEX_SCALE"), (5, u "LOG2_ARRAY_SHORT_INDEX_SCALE"), (18, u "LOG2_ARRAY_FLOAT_INDEX_SCALE"), (24, u "LOG2_ARRAY_DOUBLE_INDEX_SCALE"), (89, u "T_BOOLEAN"), (2, u "T_CHAR"), (1, u "T_FLOAT"), (1, u "T_DOUBLE"), (1, u "T_BYTE"), (1, u "T_SHORT"), (1, u "T_INT"), (1, u "T_LONG"), (1, u "SOFT_MAX_ARRAY_LENGTH")] 83

def k15m0 : Method := { name := "<init>", desc := "()V", sig := { parameters := [], returnType := none }, accessFlags := 2, code := none }
/-- jdk/internal/util/ArraysSupport -/
def k15 : Class := { plain "jdk/internal/util/ArraysSupport" (some 0) with
  accessFlags := 33
  interfaces := #[]
  cf := some (fileOf pool15 21 #[] #[{ accessFlags := 2, nameIndex := 9, descriptorIndex := 19, attributes := #[] }] 33 16 #[] #[{ accessFlags := 24, nameIndex := 28, descriptorIndex := 29, attributes := #[] }, { accessFlags := 26, nameIndex := 38, descriptorIndex := 39, attributes := #[] }, { accessFlags := 25, nameIndex := 121, descriptorIndex := 25, attributes := #[] }, { accessFlags := 25, nameIndex := 131, descriptorIndex := 25, attributes := #[] }, { accessFlags := 25, nameIndex := 137, descriptorIndex := 25, attributes := #[] }, { accessFlags := 25, nameIndex := 143, descriptorIndex := 25, attributes := #[] }, { accessFlags := 25, nameIndex := 53, descriptorIndex := 25, attributes := #[] }, { accessFlags := 25, nameIndex := 24, descriptorIndex := 25, attributes := #[] }, { accessFlags := 25, nameIndex := 162, descriptorIndex := 25, attributes := #[] }, { accessFlags := 25, nameIndex := 187, descriptorIndex := 25, attributes := #[] }, { accessFlags := 26, nameIndex := 48, descriptorIndex := 25, attributes := #[] }, { accessFlags := 25, nameIndex := 277, descriptorIndex := 25, attributes := #[] }, { accessFlags := 25, nameIndex := 280, descriptorIndex := 25, attributes := #[] }, { accessFlags := 25, nameIndex := 282, descriptorIndex := 25, attributes := #[] }, { accessFlags := 25, nameIndex := 284, descriptorIndex := 25, attributes := #[] }, { accessFlags := 25, nameIndex := 286, descriptorIndex := 25, attributes := #[] }, { accessFlags := 25, nameIndex := 288, descriptorIndex := 25, attributes := #[] }, { accessFlags := 25, nameIndex := 290, descriptorIndex := 25, attributes := #[] }, { accessFlags := 25, nameIndex := 292, descriptorIndex := 25, attributes := #[] }, { accessFlags := 26, nameIndex := 108, descriptorIndex := 109, attributes := #[] }, { accessFlags := 25, nameIndex := 294, descriptorIndex := 25, attributes := #[] }])
  fields := #[{ name := "U", type := (.object "jdk/internal/misc/Unsafe"), accessFlags := 24, slot := 0, constantValue := 0 }, { name := "BIG_ENDIAN", type := .boolean, accessFlags := 26, slot := 1, constantValue := 0 }, { name := "LOG2_ARRAY_BOOLEAN_INDEX_SCALE", type := .int, accessFlags := 25, slot := 2, constantValue := 0 }, { name := "LOG2_ARRAY_BYTE_INDEX_SCALE", type := .int, accessFlags := 25, slot := 3, constantValue := 0 }, { name := "LOG2_ARRAY_CHAR_INDEX_SCALE", type := .int, accessFlags := 25, slot := 4, constantValue := 0 }, { name := "LOG2_ARRAY_SHORT_INDEX_SCALE", type := .int, accessFlags := 25, slot := 5, constantValue := 0 }, { name := "LOG2_ARRAY_INT_INDEX_SCALE", type := .int, accessFlags := 25, slot := 6, constantValue := 0 }, { name := "LOG2_ARRAY_LONG_INDEX_SCALE", type := .int, accessFlags := 25, slot := 7, constantValue := 0 }, { name := "LOG2_ARRAY_FLOAT_INDEX_SCALE", type := .int, accessFlags := 25, slot := 8, constantValue := 0 }, { name := "LOG2_ARRAY_DOUBLE_INDEX_SCALE", type := .int, accessFlags := 25, slot := 9, constantValue := 0 }, { name := "LOG2_BYTE_BIT_SIZE", type := .int, accessFlags := 26, slot := 10, constantValue := 0 }, { name := "T_BOOLEAN", type := .int, accessFlags := 25, slot := 11, constantValue := 0 }, { name := "T_CHAR", type := .int, accessFlags := 25, slot := 12, constantValue := 0 }, { name := "T_FLOAT", type := .int, accessFlags := 25, slot := 13, constantValue := 0 }, { name := "T_DOUBLE", type := .int, accessFlags := 25, slot := 14, constantValue := 0 }, { name := "T_BYTE", type := .int, accessFlags := 25, slot := 15, constantValue := 0 }, { name := "T_SHORT", type := .int, accessFlags := 25, slot := 16, constantValue := 0 }, { name := "T_INT", type := .int, accessFlags := 25, slot := 17, constantValue := 0 }, { name := "T_LONG", type := .int, accessFlags := 25, slot := 18, constantValue := 0 }, { name := "JLA", type := (.object "jdk/internal/access/JavaLangAccess"), accessFlags := 26, slot := 19, constantValue := 0 }, { name := "SOFT_MAX_ARRAY_LENGTH", type := .int, accessFlags := 25, slot := 20, constantValue := 0 }]
  methods := #[k15m0]
  instanceTypes := #[]
  staticTypes := #[(.object "jdk/internal/misc/Unsafe"), .boolean, .int, .int, .int, .int, .int, .int, .int, .int, .int, .int, .int, .int, .int, .int, .int, .int, .int, (.object "jdk/internal/access/JavaLangAccess"), .int]
  resolved := Array.replicate 378 none
  statics := none }

def pool16 : Array CpInfo := pool [(1, u "java/lang/Cloneable"), (0, .class_ 1), (0, u "java/lang/Object"), (0, .class_ 3)] 3

/-- java/lang/Cloneable -/
def k16 : Class := { plain "java/lang/Cloneable" (some 0) with
  accessFlags := 1537
  interfaces := #[]
  cf := some (fileOf pool16 2 #[] #[] 1537 4 #[] #[])
  fields := #[]
  methods := #[]
  instanceTypes := #[]
  staticTypes := #[]
  resolved := Array.replicate 8 none
  statics := none }

/-- the primitive byte -/
def k17 : Class := { plain "byte" none with kind := .primitive 'B', accessFlags := 0x411 }
/-- [B -/
def k18 : Class := { plain "[B" (some 0) with kind := .array 17 .byte, interfaces := #[16, 2], accessFlags := 1041 }

/-- the primitive char -/
def k19 : Class := { plain "char" none with kind := .primitive 'C', accessFlags := 0x411 }
/-- [C -/
def k20 : Class := { plain "[C" (some 0) with kind := .array 19 .char, interfaces := #[16, 2], accessFlags := 1041 }

/-- the primitive int -/
def k21 : Class := { plain "int" none with kind := .primitive 'I', accessFlags := 0x411 }
/-- [I -/
def k22 : Class := { plain "[I" (some 0) with kind := .array 21 .int, interfaces := #[16, 2], accessFlags := 1041 }

def heap : Heap := #[{ cls := 7, slots := #[.long 0, .int 1, .null, .int 0, .null, .int 0, .int 0], vm := .statics 7 },
  { cls := 12, slots := #[.ref 3, .ref 4, .ref 5, .ref 6, .ref 7, .ref 8, .ref 9, .ref 10, .null], vm := .statics 12 },
  { cls := 14, slots := #[.null, .null, .null], vm := .statics 14 },
  { cls := 12, slots := #[.null, .int 0, .int 0], vm := .none },
  { cls := 12, slots := #[.null, .int 1, .int 0], vm := .none },
  { cls := 12, slots := #[.null, .int 2, .int 0], vm := .none },
  { cls := 12, slots := #[.null, .int 3, .int 0], vm := .none },
  { cls := 12, slots := #[.null, .int 4, .int 0], vm := .none },
  { cls := 12, slots := #[.null, .int 5, .int 0], vm := .none },
  { cls := 12, slots := #[.null, .int 6, .int 0], vm := .none },
  { cls := 12, slots := #[.null, .int 7, .int 0], vm := .none }]
def classes : Array Class := #[k0, k1, k2, k3, k4, k5, k6, k7, k8, k9, k10, k11, k12, k13, k14, k15, k16, k17, k18, k19, k20, k21, k22]
def interned : List (Array UInt16 × Addr) := []
def slotsUsed : Nat := 43
def theMethod : MethodId := ⟨1, 3⟩
def args0 : Array Value := #[.int 5, .int 7, .int 3, .int 9, .int 1, .int 2]
def aboutOver (below : List Frame) : State where
  vm := { classes := classes, interned := interned.toArray }
  heap := heap
  slotsUsed := slotsUsed
  threads := #[{ frames := .invoking theMethod args0 :: below }]
def below0 : List Frame := [.native { method := ⟨0, 0⟩, args := #[] }]
def about1 : State := aboutOver below0
def p0 : Program := .bare "" "" ""
def e0 : Env := launch0.env 0 0 0
theorem w_frames : about1.frames = Frame.invoking theMethod args0 :: below0 := rfl
set_option maxRecDepth 65536 in
theorem w_args : argsFit about1.vm theMethod args0 = true := by decide +kernel
set_option maxRecDepth 65536 in
theorem w_heap : heapFits about1 = true := by decide +kernel
set_option maxRecDepth 65536 in
theorem w_runnable : about1.curStatus? = some .runnable := by decide +kernel
set_option maxRecDepth 65536 in
theorem w_alone : about1.alone = true := by decide +kernel
set_option maxRecDepth 65536 in
theorem w_named : about1.methodNamed? x = some theMethod := by decide +kernel
set_option maxRecDepth 65536 in
theorem w_hears : about1.hears theMethod below0 = true := by decide +kernel
set_option maxRecDepth 65536 in
theorem w_ripe : about1.ripe theMethod args0 below0 = true := by decide +kernel
theorem w_running : about1.status = .running := rfl
set_option maxRecDepth 65536 in
theorem w_room : about1.hasRoom e0.platform room_1 = true :=
  launch0.hasRoom_least _ room_1 (by decide +kernel) (by decide +kernel) (by decide +kernel) (by decide +kernel) (by decide +kernel) (by decide +kernel)
theorem allAtoms_all (ts : List Jvm.Cond) (a : Array Jvm.Value) (st : Jvm.State) : (allAtoms ts).before a st = ts.all (fun c => c.before a st) := by
  induction ts with
  | nil => rfl
  | cons c t ih =>
    show (Jvm.Cond.and c (allAtoms t)).before a st = _
    rw [Jvm.Cond.before_and, ih, List.all_cons]
def words1 : List Jvm.Cond := Jvm.Cond.code x code maxLocals ret :: tables_1
/-- a 'code' word, met by the world's own term for the bytes: nothing is compared byte by byte -/
theorem code_word {y : MethodName} {bytes : ByteArray} {mx : Nat} {rt : Option FieldType} {a : Array Value} {s : State} {m : MethodId} {meth : Method} {c : Code} (h1 : s.methodNamed? y = some m) (h2 : s.vm.method? m = some meth) (h3 : meth.code = some c) (h4 : c.code = bytes)
    (h5 : (c.maxLocals == mx && c.exceptionTable.isEmpty && decide (c.maxStack ≤ mostOperands) && decide (meth.sig.returnType = rt) && !meth.locks && decide (parseMethodDescriptor y.desc = some meth.sig)) = true) : (Jvm.Cond.code y bytes mx rt).before a s = true := by
  simp only [Bool.and_eq_true, beq_iff_eq, Bool.not_eq_true', decide_eq_true_eq] at h5
  obtain ⟨⟨⟨⟨⟨g1, g2⟩, g3⟩, g4⟩, g5⟩, g6⟩ := h5
  simp [Cond.before, Cond.holds, Cond.value, h1, h2, h3, h4, g1, g2, g3, g4, g5, g6]
def isCode : Jvm.Cond → Bool
  | .code _ _ _ _ => true
  | _ => false
theorem all_split {L : List Jvm.Cond} {P : Jvm.Cond → Bool} (h1 : L.all (fun c => isCode c || P c) = true) (h2 : ∀ c ∈ L.filter isCode, P c = true) : L.all P = true := by
  refine List.all_eq_true.mpr fun c hc => ?_
  have h := List.all_eq_true.mp h1 c hc
  rcases Bool.eq_false_or_eq_true (isCode c) with hi | hi
  · exact h2 c (List.mem_filter.mpr ⟨hc, hi⟩)
  · simpa [hi] using h
set_option maxRecDepth 65536 in
theorem w_c0 : (Jvm.Cond.code x code maxLocals ret).before args0 about1 = true := code_word (m := ⟨1, 3⟩) (meth := k1m3) (c := k1c3) (by decide +kernel) rfl rfl rfl (by decide +kernel)
set_option maxRecDepth 65536 in
theorem w_c1 : (Jvm.Cond.code ({ cls := "com/example/wyrd/wyrd/hoa/TokenIsPinLaw", name := "text", desc := "(ICCC)Ljava/lang/String;" } : Jvm.MethodName) method_3_code (4 : Nat) (Option.some (Jvm.ClassFile.FieldType.object "java/lang/String"))).before args0 about1 = true := code_word (m := ⟨1, 2⟩) (meth := k1m2) (c := k1c2) (by decide +kernel) rfl rfl rfl (by decide +kernel)
set_option maxRecDepth 65536 in
theorem w_c2 : (Jvm.Cond.code ({ cls := "java/lang/String", name := "<init>", desc := "([C)V" } : Jvm.MethodName) jdk_42_method_3_code (2 : Nat) (Option.none : Option Jvm.ClassFile.FieldType)).before args0 about1 = true := code_word (m := ⟨7, 1⟩) (meth := k7m1) (c := k7c1) (by decide +kernel) rfl rfl rfl (by decide +kernel)
set_option maxRecDepth 65536 in
theorem w_c3 : (Jvm.Cond.code ({ cls := "java/lang/String", name := "<init>", desc := "([CIILjava/lang/Void;)V" } : Jvm.MethodName) jdk_42_method_149_code (6 : Nat) (Option.none : Option Jvm.ClassFile.FieldType)).before args0 about1 = true := code_word (m := ⟨7, 3⟩) (meth := k7m3) (c := k7c3) (by decide +kernel) rfl rfl rfl (by decide +kernel)
set_option maxRecDepth 65536 in
theorem w_c4 : (Jvm.Cond.code ({ cls := "java/lang/Object", name := "<init>", desc := "()V" } : Jvm.MethodName) object_method_1_code (1 : Nat) (Option.none : Option Jvm.ClassFile.FieldType)).before args0 about1 = true := code_word (m := ⟨0, 0⟩) (meth := k0m0) (c := k0c0) (by decide +kernel) rfl rfl rfl (by decide +kernel)
set_option maxRecDepth 65536 in
theorem w_c5 : (Jvm.Cond.code ({ cls := "java/lang/StringUTF16", name := "compress", desc := "([CII)[B" } : Jvm.MethodName) jdk_52_method_16_code (6 : Nat) (Option.some (Jvm.ClassFile.FieldType.array Jvm.ClassFile.FieldType.byte))).before args0 about1 = true := code_word (m := ⟨8, 2⟩) (meth := k8m2) (c := k8c2) (by decide +kernel) rfl rfl rfl (by decide +kernel)
set_option maxRecDepth 65536 in
theorem w_c6 : (Jvm.Cond.code ({ cls := "java/lang/StringUTF16", name := "compress", desc := "([CI[BII)I" } : Jvm.MethodName) jdk_52_method_21_code (7 : Nat) (Option.some Jvm.ClassFile.FieldType.int)).before args0 about1 = true := code_word (m := ⟨8, 3⟩) (meth := k8m3) (c := k8c3) (by decide +kernel) rfl rfl rfl (by decide +kernel)
set_option maxRecDepth 65536 in
theorem w_c7 : (Jvm.Cond.code ({ cls := "java/lang/StringUTF16", name := "coderFromArrayLen", desc := "([BI)B" } : Jvm.MethodName) jdk_52_method_15_code (2 : Nat) (Option.some Jvm.ClassFile.FieldType.byte)).before args0 about1 = true := code_word (m := ⟨8, 1⟩) (meth := k8m1) (c := k8c1) (by decide +kernel) rfl rfl rfl (by decide +kernel)
set_option maxRecDepth 65536 in
theorem w_c8 : (Jvm.Cond.code ({ cls := "com/example/wyrd/wyrd/hoa/TokenIsPinLaw", name := "kind", desc := "(I)Lcom/example/wyrd/wyrd/hoa/Tokens$Kind;" } : Jvm.MethodName) method_2_code (1 : Nat) (Option.some (Jvm.ClassFile.FieldType.object "com/example/wyrd/wyrd/hoa/Tokens$Kind"))).before args0 about1 = true := code_word (m := ⟨1, 1⟩) (meth := k1m1) (c := k1c1) (by decide +kernel) rfl rfl rfl (by decide +kernel)
set_option maxRecDepth 65536 in
theorem w_c9 : (Jvm.Cond.code ({ cls := "com/example/wyrd/wyrd/hoa/Tokens$Token", name := "<init>", desc := "(Lcom/example/wyrd/wyrd/hoa/Tokens$Kind;Ljava/lang/String;I)V" } : Jvm.MethodName) prog_66_method_1_code (4 : Nat) (Option.none : Option Jvm.ClassFile.FieldType)).before args0 about1 = true := code_word (m := ⟨10, 0⟩) (meth := k10m0) (c := k10c0) (by decide +kernel) rfl rfl rfl (by decide +kernel)
set_option maxRecDepth 65536 in
theorem w_c10 : (Jvm.Cond.code ({ cls := "java/lang/Record", name := "<init>", desc := "()V" } : Jvm.MethodName) jdk_30_method_1_code (1 : Nat) (Option.none : Option Jvm.ClassFile.FieldType)).before args0 about1 = true := code_word (m := ⟨9, 0⟩) (meth := k9m0) (c := k9c0) (by decide +kernel) rfl rfl rfl (by decide +kernel)
set_option maxRecDepth 65536 in
theorem w_c11 : (Jvm.Cond.code ({ cls := "com/example/wyrd/wyrd/hoa/Tokens$Token", name := "is", desc := "(Lcom/example/wyrd/wyrd/hoa/Tokens$Kind;Ljava/lang/String;)Z" } : Jvm.MethodName) prog_66_method_2_code (3 : Nat) (Option.some Jvm.ClassFile.FieldType.boolean)).before args0 about1 = true := code_word (m := ⟨10, 1⟩) (meth := k10m1) (c := k10c1) (by decide +kernel) rfl rfl rfl (by decide +kernel)
set_option maxRecDepth 65536 in
theorem w_c12 : (Jvm.Cond.code ({ cls := "java/lang/String", name := "equals", desc := "(Ljava/lang/Object;)Z" } : Jvm.MethodName) jdk_42_method_66_code (3 : Nat) (Option.some Jvm.ClassFile.FieldType.boolean)).before args0 about1 = true := code_word (m := ⟨7, 2⟩) (meth := k7m2) (c := k7c2) (by decide +kernel) rfl rfl rfl (by decide +kernel)
set_option maxRecDepth 65536 in
theorem w_c13 : (Jvm.Cond.code ({ cls := "java/lang/StringLatin1", name := "equals", desc := "([B[B)Z" } : Jvm.MethodName) jdk_43_method_13_code (3 : Nat) (Option.some Jvm.ClassFile.FieldType.boolean)).before args0 about1 = true := code_word (m := ⟨13, 1⟩) (meth := k13m1) (c := k13c1) (by decide +kernel) rfl rfl rfl (by decide +kernel)
def codes1 : List Jvm.Cond := [Jvm.Cond.code x code maxLocals ret, Jvm.Cond.code ({ cls := "com/example/wyrd/wyrd/hoa/TokenIsPinLaw", name := "text", desc := "(ICCC)Ljava/lang/String;" } : Jvm.MethodName) method_3_code (4 : Nat) (Option.some (Jvm.ClassFile.FieldType.object "java/lang/String")), Jvm.Cond.code ({ cls := "java/lang/String", name := "<init>", desc := "([C)V" } : Jvm.MethodName) jdk_42_method_3_code (2 : Nat) (Option.none : Option Jvm.ClassFile.FieldType), Jvm.Cond.code ({ cls := "java/lang/String", name := "<init>", desc := "([CIILjava/lang/Void;)V" } : Jvm.MethodName) jdk_42_method_149_code (6 : Nat) (Option.none : Option Jvm.ClassFile.FieldType), Jvm.Cond.code ({ cls := "java/lang/Object", name := "<init>", desc := "()V" } : Jvm.MethodName) object_method_1_code (1 : Nat) (Option.none : Option Jvm.ClassFile.FieldType), Jvm.Cond.code ({ cls := "java/lang/StringUTF16", name := "compress", desc := "([CII)[B" } : Jvm.MethodName) jdk_52_method_16_code (6 : Nat) (Option.some (Jvm.ClassFile.FieldType.array Jvm.ClassFile.FieldType.byte)), Jvm.Cond.code ({ cls := "java/lang/StringUTF16", name := "compress", desc := "([CI[BII)I" } : Jvm.MethodName) jdk_52_method_21_code (7 : Nat) (Option.some Jvm.ClassFile.FieldType.int), Jvm.Cond.code ({ cls := "java/lang/StringUTF16", name := "coderFromArrayLen", desc := "([BI)B" } : Jvm.MethodName) jdk_52_method_15_code (2 : Nat) (Option.some Jvm.ClassFile.FieldType.byte), Jvm.Cond.code ({ cls := "com/example/wyrd/wyrd/hoa/TokenIsPinLaw", name := "kind", desc := "(I)Lcom/example/wyrd/wyrd/hoa/Tokens$Kind;" } : Jvm.MethodName) method_2_code (1 : Nat) (Option.some (Jvm.ClassFile.FieldType.object "com/example/wyrd/wyrd/hoa/Tokens$Kind")), Jvm.Cond.code ({ cls := "com/example/wyrd/wyrd/hoa/Tokens$Token", name := "<init>", desc := "(Lcom/example/wyrd/wyrd/hoa/Tokens$Kind;Ljava/lang/String;I)V" } : Jvm.MethodName) prog_66_method_1_code (4 : Nat) (Option.none : Option Jvm.ClassFile.FieldType), Jvm.Cond.code ({ cls := "java/lang/Record", name := "<init>", desc := "()V" } : Jvm.MethodName) jdk_30_method_1_code (1 : Nat) (Option.none : Option Jvm.ClassFile.FieldType), Jvm.Cond.code ({ cls := "com/example/wyrd/wyrd/hoa/Tokens$Token", name := "is", desc := "(Lcom/example/wyrd/wyrd/hoa/Tokens$Kind;Ljava/lang/String;)Z" } : Jvm.MethodName) prog_66_method_2_code (3 : Nat) (Option.some Jvm.ClassFile.FieldType.boolean), Jvm.Cond.code ({ cls := "java/lang/String", name := "equals", desc := "(Ljava/lang/Object;)Z" } : Jvm.MethodName) jdk_42_method_66_code (3 : Nat) (Option.some Jvm.ClassFile.FieldType.boolean), Jvm.Cond.code ({ cls := "java/lang/StringLatin1", name := "equals", desc := "([B[B)Z" } : Jvm.MethodName) jdk_43_method_13_code (3 : Nat) (Option.some Jvm.ClassFile.FieldType.boolean)]
set_option maxRecDepth 65536 in
theorem codes_eq : words1.filter isCode = codes1 := rfl
theorem w_codes : ∀ c ∈ words1.filter isCode, c.before args0 about1 = true := by
  rw [codes_eq]
  intro c hc
  simp only [codes1, List.mem_cons, List.not_mem_nil, or_false] at hc
  rcases hc with rfl | rfl | rfl | rfl | rfl | rfl | rfl | rfl | rfl | rfl | rfl | rfl | rfl | rfl
  · exact w_c0
  · exact w_c1
  · exact w_c2
  · exact w_c3
  · exact w_c4
  · exact w_c5
  · exact w_c6
  · exact w_c7
  · exact w_c8
  · exact w_c9
  · exact w_c10
  · exact w_c11
  · exact w_c12
  · exact w_c13
set_option maxRecDepth 65536 in
theorem w_t1 : (words1.take 24).all (fun c => isCode c || c.before args0 about1) = true := by decide +kernel
set_option maxRecDepth 65536 in
theorem w_t2 : ((words1.drop 24).take 24).all (fun c => isCode c || c.before args0 about1) = true := by decide +kernel
set_option maxRecDepth 65536 in
theorem w_t3 : (((words1.drop 24).drop 24).take 24).all (fun c => isCode c || c.before args0 about1) = true := by decide +kernel
set_option maxRecDepth 65536 in
theorem w_t4 : (((words1.drop 24).drop 24).drop 24).all (fun c => isCode c || c.before args0 about1) = true := by decide +kernel
theorem w_tables : (allAtoms (Jvm.Cond.code x code maxLocals ret :: tables_1)).before args0 about1 = true := by
  rw [allAtoms_all]
  show words1.all (fun c => c.before args0 about1) = true
  refine all_split ?_ w_codes
  rw [← List.take_append_drop 24 words1, List.all_append, w_t1, ← List.take_append_drop 24 (words1.drop 24), List.all_append, w_t2, ← List.take_append_drop 24 ((words1.drop 24).drop 24), List.all_append, w_t3, w_t4]
  rfl
set_option maxRecDepth 65536 in
theorem w_rest : rest_1_c.before args0 about1 = true := by decide +kernel
set_option maxRecDepth 65536 in
theorem w_case : (Jvm.Cond.and given_1 narrow_1).before args0 about1 = true := by decide +kernel
set_option maxRecDepth 65536 in
theorem w_consts : constsHeld consts_1 about1 := Jvm.Lit.constsHeldB_iff.mp (by decide +kernel)
theorem w_applies : (headSpec (Jvm.Cond.code x code maxLocals ret :: tables_1) room_1).applies x e0.platform about1 = true :=
  (Spec.applies_iff w_frames).mpr ⟨w_running, w_runnable, w_alone, w_named, w_hears, w_ripe, w_room, w_tables⟩
theorem atStart : AtStart classFile x code maxLocals ret World_1 tables_1 room_1 Calls_1 rest_1 Pre_1 launch0 p0 e0 about1 theMethod args0 below0 :=
  ⟨lists_1, trivial, launch0.admits_env _ _ _, launch0.least_env, fairChoices_fair.cas, fairChoices_fair.clock, w_frames, w_args, w_heap, w_applies, ⟨w_consts, trivial⟩, w_rest, w_case⟩
end start1
theorem witness_1 : WitnessClaimed_1 := ⟨start1.p0, start1.e0, start1.about1, start1.theMethod, start1.args0, start1.below0, start1.atStart⟩
end Jvm.Pilot.@@N@@
