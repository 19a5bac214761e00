import JvmDerived
import JvmDerived.Pilot.@@N@@Statement
import JvmDerived.Pilot.@@N@@Code
set_option linter.unusedVariables false
set_option linter.unusedSimpArgs false
@@BLOCK:NumsL.lean.txt@@
/- laws to paste: Road.backV, Road.lenW, Road.chN, Road.empW, Road.codOf (cut by pick.py; bodies as the Statement names them) -/
namespace Jvm.Pilot.@@N@@
namespace StrChars
open Jvm Sem ClassFile Op Lib Jvm.Stand Jvm.Free.XT Jvm.Free.ALB Jvm.Free.JM Jvm.Free
open Jvm.Lib.Cold (StaticIs)
/-- a char array whose places are chars -/
def Ch (a : Addr) (A : Cell) (U : State) : Prop := Arr .char a A U ∧ Typed .char A
theorem Ch.mv {a : Addr} {A : Cell} {U U' : State} (h : Ch a A U) (hal : U.vm.Alike U'.vm) (hh : U'.heap = U.heap) : Ch a A U' := ⟨h.1.mv hal hh, h.2⟩
theorem Ch.keep {a : Addr} {A : Cell} {U U' : State} (h : Ch a A U) (hal : U.vm.Alike U'.vm) (hk : U'.heap[a]? = some A) : Ch a A U' := ⟨h.1.keep hal hk, h.2⟩
/-- what place i of a char[]'s cell holds -/
def cv (A : Cell) (i : Nat) : Int32 := match A.slots[i]? with | some (.int x) => x | _ => 0
theorem Ch.get {a : Addr} {A : Cell} {U : State} (h : Ch a A U) {i : Nat} (hi : i < A.slots.size) : A.slots[i]? = some (.int (cv A i)) := by
  have e := Array.getElem?_eq_getElem hi
  have f := h.2 i _ e
  unfold cv; rw [e]
  generalize A.slots[i] = v at f
  cases v <;> simp [fits] at f ⊢
/-- the byte that i2b leaves of a char -/
def lo8 (x : Int32) : Int32 := x.toInt8.toInt32
theorem fits_lo8 (y : Int32) : fits .byte (.int (lo8 y)) = true := by
  have h1 := y.toInt8.le_toInt
  have h2 := y.toInt8.toInt_lt
  simp only [lo8, fits, Bool.and_eq_true, decide_eq_true_eq, Int32.le_iff_toInt_le, Int8.toInt_toInt32, show (-128 : Int32).toInt = -128 from by decide, show (127 : Int32).toInt = 127 from by decide]
  omega
/-- A' is A but that each place j of lo .. hi - 1 holds f j -/
def Laid (A A' : Cell) (lo hi : Nat) (f : Nat → Value) : Prop := A'.cls = A.cls ∧ A'.vm = A.vm ∧ A'.slots.size = A.slots.size ∧ ∀ i, A'.slots[i]? = if lo ≤ i ∧ i < hi then some (f i) else A.slots[i]?
theorem Laid.zero (A : Cell) (lo : Nat) (f : Nat → Value) : Laid A A lo (lo + 0) f := ⟨rfl, rfl, rfl, fun i => by rw [if_neg (by omega)]⟩
theorem Laid.step {A Ak : Cell} {lo k : Nat} {f : Nat → Value} {v : Value} (h : Laid A Ak lo k f) (hlo : lo ≤ k) (hk : k < Ak.slots.size) (hv : v = f k) : Laid A (Ak.setSlot k v) lo (k + 1) f := by
  refine ⟨h.1, h.2.1, by simpa [Cell.setSlot] using h.2.2.1, fun i => ?_⟩
  by_cases e : k = i
  · subst e; rw [Cell.slots_setSlot_self v hk, if_pos (by omega), hv]
  · rw [Cell.slots_setSlot_ne v e, h.2.2.2 i]
    by_cases q : lo ≤ i ∧ i < k
    · rw [if_pos q, if_pos (by omega)]
    · rw [if_neg q, if_neg (by omega)]
def U16 : String := "java/lang/StringUTF16"
namespace Cmp5
def yN : MethodName := ⟨"java/lang/StringUTF16", "compress", "([CI[BII)I"⟩
abbrev yB : ByteArray := jdk_52_method_21_code
theorem d0 : decode yB 0 = .ok (.iconst 0, 1) := by decide +kernel
theorem d1 : decode yB 1 = .ok (.istore 5, 2) := by decide +kernel
theorem d3 : decode yB 3 = .ok (.iload 5, 2) := by decide +kernel
theorem d5 : decode yB 5 = .ok (.iload 4, 2) := by decide +kernel
theorem d7 : decode yB 7 = .ok (.if_icmp (.ge) 37, 3) := by decide +kernel
theorem d10 : decode yB 10 = .ok (.aload_n 0, 1) := by decide +kernel
theorem d11 : decode yB 11 = .ok (.iload_n 1, 1) := by decide +kernel
theorem d12 : decode yB 12 = .ok (.caload, 1) := by decide +kernel
theorem d13 : decode yB 13 = .ok (.istore 6, 2) := by decide +kernel
theorem d15 : decode yB 15 = .ok (.iload 6, 2) := by decide +kernel
theorem d17 : decode yB 17 = .ok (.sipush 255, 3) := by decide +kernel
theorem d20 : decode yB 20 = .ok (.if_icmp (.le) 6, 3) := by decide +kernel
theorem d26 : decode yB 26 = .ok (.aload_n 2, 1) := by decide +kernel
theorem d27 : decode yB 27 = .ok (.iload_n 3, 1) := by decide +kernel
theorem d28 : decode yB 28 = .ok (.iload 6, 2) := by decide +kernel
theorem d30 : decode yB 30 = .ok (.i2b, 1) := by decide +kernel
theorem d31 : decode yB 31 = .ok (.bastore, 1) := by decide +kernel
theorem d32 : decode yB 32 = .ok (.iinc 1 1, 3) := by decide +kernel
theorem d35 : decode yB 35 = .ok (.iinc 3 1, 3) := by decide +kernel
theorem d38 : decode yB 38 = .ok (.iinc 5 1, 3) := by decide +kernel
theorem d41 : decode yB 41 = .ok (.goto (-38), 3) := by decide +kernel
theorem d44 : decode yB 44 = .ok (.iload 4, 2) := by decide +kernel
theorem d46 : decode yB 46 = .ok (.ireturn, 1) := by decide +kernel
def site : List Cond := []
def tab : Cond := tabOf yN yB 7 (some .int) site
def P (b : Addr) (A : Cell) (d : Addr) (B : Cell) (o q len : Nat) (args : Array Value) (s : State) : Prop := args = #[.ref b, .int (Int32.ofNat o), .ref d, .int (Int32.ofNat q), .int (Int32.ofNat len)] ∧ Ch b A s ∧ Arr .byte d B s ∧ b ≠ d ∧ o + len ≤ A.slots.size ∧ q + len ≤ B.slots.size ∧ ∀ i, i < len → ¬ 255 < cv A (o + i)
def E (b : Addr) (A : Cell) (d : Addr) (B : Cell) (o q len : Nat) (r : Option Value) (s u : State) : Prop := r = some (.int (Int32.ofNat len)) ∧ ∃ B', Put d B' s u ∧ Laid B B' q (q + len) (fun j => Value.int (lo8 (cv A (o + (j - q)))))
/-- no char of the range above 255: len; the places written hold each char's low byte -/
theorem law (l : Launch) (b : Addr) (A : Cell) (d : Addr) (B : Cell) (o q len : Nat) : Law l yN 5 5 0 0 yB 7 (some .int) site (P b A d B o q len) (E b A d B o q len) (copyLocs d q len) 0 0 := by
  refine Law.of_walk (plainFor_of_name (by decide +kernel)) (by decide +kernel) (by decide +kernel) (by decide) (fun _ _ h => by rw [h.1]; rfl) (fun _ U U' hal hh h => ⟨h.1, h.2.1.mv hal hh, h.2.2.1.mv hal hh, h.2.2.2⟩) (fun r U U' V V' h1 hal h2 h => ⟨h.1, h.2.elim fun B' q => ⟨B', q.1.mv h1 h2, q.2⟩⟩) ?_
  intro p e s m args below meth c s₁ X0 hexec hbytes hml hret hlk hnm hown hh0 W hP
  obtain ⟨rfl, hA, hB, hne, l1, l2, hp⟩ := hP
  have c1 : Steps p.tables e below (s₁.setTop (entryFrame m #[.ref b, .int (Int32.ofNat o), .ref d, .int (Int32.ofNat q), .int (Int32.ofNat len)] 7)) (s₁.setTop (mkF m 0 #[.val (.ref b), .val (.int (Int32.ofNat o)), .val (.ref d), .val (.int (Int32.ofNat q)), .val (.int (Int32.ofNat len)), .unset, .unset] [])) := entry rfl
  have hA0 := hA.1.mv X0.warmed.alike hh0
  have hB0 := hB.mv X0.warmed.alike hh0
  have a31 := hA.1.2.2.2
  have c2 : Steps p.tables e below (s₁.setTop (entryFrame m #[.ref b, .int (Int32.ofNat o), .ref d, .int (Int32.ofNat q), .int (Int32.ofNat len)] 7)) (s₁.setTop (mkF m 3 #[.val (.ref b), .val (.int (Int32.ofNat o)), .val (.ref d), .val (.int (Int32.ofNat q)), .val (.int (Int32.ofNat len)), .val (.int 0), .unset] [])) := c1.trans (by
    refine iconstV X0.here hexec rfl 0 (hb hbytes d0) (by decide) ?_
    refine XS.istore X0.here hexec rfl (hb hbytes d1) rfl rfl ?_
    exact Steps.refl _)
  have loop : ∀ (r i : Nat), i + r = len → ∀ (z : Slot), (z = .unset ∨ ∃ w, z = .val w ∧ w.category = 1) → ∀ (Tl : State) (Bk : Cell), Stand p l e { frames := 0, locals := 0, cells := 0, slots := 0 } s m #[.ref b, .int (Int32.ofNat o), .ref d, .int (Int32.ofNat q), .int (Int32.ofNat len)] below meth c Tl ([] ++ copyLocs d q i) 0 0 → Put d Bk s₁ Tl → Laid B Bk q (q + i) (fun j => Value.int (lo8 (cv A (o + (j - q))))) →
      Steps p.tables e below (s₁.setTop (entryFrame m #[.ref b, .int (Int32.ofNat o), .ref d, .int (Int32.ofNat q), .int (Int32.ofNat len)] 7)) (Tl.setTop (mkF m 3 #[.val (.ref b), .val (.int (Int32.ofNat (o + i))), .val (.ref d), .val (.int (Int32.ofNat (q + i))), .val (.int (Int32.ofNat len)), .val (.int (Int32.ofNat i)), z] [])) → ∃ (T' : State) (B' : Cell) (z' : Slot), Stand p l e { frames := 0, locals := 0, cells := 0, slots := 0 } s m #[.ref b, .int (Int32.ofNat o), .ref d, .int (Int32.ofNat q), .int (Int32.ofNat len)] below meth c T' ([] ++ copyLocs d q len) 0 0 ∧ Put d B' s₁ T' ∧ Laid B B' q (q + len) (fun j => Value.int (lo8 (cv A (o + (j - q))))) ∧
      Steps p.tables e below (s₁.setTop (entryFrame m #[.ref b, .int (Int32.ofNat o), .ref d, .int (Int32.ofNat q), .int (Int32.ofNat len)] 7)) (T'.setTop (mkF m 3 #[.val (.ref b), .val (.int (Int32.ofNat (o + len))), .val (.ref d), .val (.int (Int32.ofNat (q + len))), .val (.int (Int32.ofNat len)), .val (.int (Int32.ofNat len)), z'] [])) := by
    intro r
    induction r with
    | zero =>
      intro i hi z hz Tl Bk Xl pl fl cl
      have hil : i = len := by omega
      rw [hil] at Xl fl cl
      exact ⟨Tl, Bk, z, Xl, pl, fl, cl⟩
    | succ r ih =>
      intro i hi z hz Tl Bk Xl pl fl cl
      have all := X0.warmed.alike.symm.trans Xl.warmed.alike
      have hAl := hA0.keep all (pl.other hne hA0.1)
      have hBk := hB0.like all pl.1 fl.1 fl.2.1 fl.2.2.1
      have hlt : q + i < Bk.slots.size := by rw [fl.2.2.1]; omega
      have c3 : Steps p.tables e below (s₁.setTop (entryFrame m #[.ref b, .int (Int32.ofNat o), .ref d, .int (Int32.ofNat q), .int (Int32.ofNat len)] 7)) (Tl.setTop (mkF m 12 #[.val (.ref b), .val (.int (Int32.ofNat (o + i))), .val (.ref d), .val (.int (Int32.ofNat (q + i))), .val (.int (Int32.ofNat len)), .val (.int (Int32.ofNat i)), z] [.int (Int32.ofNat (o + i)), .ref b])) := cl.trans (by
        refine XS.iload Xl.here hexec rfl (hb hbytes d3) rfl ?_
        refine XS.iload Xl.here hexec rfl (hb hbytes d5) rfl ?_
        refine XS.icmpNo Xl.here hexec rfl (hb hbytes d7) rfl (ii_ge_f (lt32 (by omega) (by omega))) ?_
        refine XS.aloadN Xl.here hexec rfl (hb hbytes d10) rfl rfl ?_
        refine XS.iloadN Xl.here hexec rfl (hb hbytes d11) rfl ?_
        exact Steps.refl _)
      have c4 : Steps p.tables e below (s₁.setTop (entryFrame m #[.ref b, .int (Int32.ofNat o), .ref d, .int (Int32.ofNat q), .int (Int32.ofNat len)] 7)) (Tl.setTop (mkF m 13 #[.val (.ref b), .val (.int (Int32.ofNat (o + i))), .val (.ref d), .val (.int (Int32.ofNat (q + i))), .val (.int (Int32.ofNat len)), .val (.int (Int32.ofNat i)), z] [.int (cv A (o + i))])) := c3.trans (by
        refine Xl.aget hexec hAl rfl (hA.get (i := o + i) (by omega)) rfl rfl (hb hbytes d12) ?_
        exact Steps.refl _)
      have c5 : Steps p.tables e below (s₁.setTop (entryFrame m #[.ref b, .int (Int32.ofNat o), .ref d, .int (Int32.ofNat q), .int (Int32.ofNat len)] 7)) (Tl.setTop (mkF m 15 #[.val (.ref b), .val (.int (Int32.ofNat (o + i))), .val (.ref d), .val (.int (Int32.ofNat (q + i))), .val (.int (Int32.ofNat len)), .val (.int (Int32.ofNat i)), .val (.int (cv A (o + i)))] [])) := c4.trans (by
        refine XS.istoreS Xl.here hexec rfl (hb hbytes d13) rfl rfl hz ?_
        exact Steps.refl _)
      have c6 : Steps p.tables e below (s₁.setTop (entryFrame m #[.ref b, .int (Int32.ofNat o), .ref d, .int (Int32.ofNat q), .int (Int32.ofNat len)] 7)) (Tl.setTop (mkF m 31 #[.val (.ref b), .val (.int (Int32.ofNat (o + i))), .val (.ref d), .val (.int (Int32.ofNat (q + i))), .val (.int (Int32.ofNat len)), .val (.int (Int32.ofNat i)), .val (.int (cv A (o + i)))] [.int (lo8 (cv A (o + i))), .int (Int32.ofNat (q + i)), .ref d])) := c5.trans (by
        refine XS.iload Xl.here hexec rfl (hb hbytes d15) rfl ?_
        refine sipushV Xl.here hexec rfl 255 (hb hbytes d17) (by decide) ?_
        refine XS.icmpYes Xl.here hexec rfl (pc0 := 20) rfl (hb hbytes d20) rfl (ii_le_t (hp i (by omega))) (by decide) rfl ?_
        refine XS.aloadN Xl.here hexec rfl (hb hbytes d26) rfl rfl ?_
        refine XS.iloadN Xl.here hexec rfl (hb hbytes d27) rfl ?_
        refine XS.iload Xl.here hexec rfl (hb hbytes d28) rfl ?_
        refine i2b Xl.here hexec rfl (hb hbytes d30) rfl ?_
        exact Steps.refl _)
      obtain ⟨T7, X7, p7, st7⟩ := Xl.aput hexec hBk rfl hlt rfl (fits_lo8 (cv A (o + i))) (g := (mkF m 31 #[.val (.ref b), .val (.int (Int32.ofNat (o + i))), .val (.ref d), .val (.int (Int32.ofNat (q + i))), .val (.int (Int32.ofNat len)), .val (.int (Int32.ofNat i)), .val (.int (cv A (o + i)))] [.int (lo8 (cv A (o + i))), .int (Int32.ofNat (q + i)), .ref d])) rfl (rest := []) rfl (hb hbytes d31)
      have c8 : Steps p.tables e below (s₁.setTop (entryFrame m #[.ref b, .int (Int32.ofNat o), .ref d, .int (Int32.ofNat q), .int (Int32.ofNat len)] 7)) (T7.setTop (mkF m 32 #[.val (.ref b), .val (.int (Int32.ofNat (o + i))), .val (.ref d), .val (.int (Int32.ofNat (q + i))), .val (.int (Int32.ofNat len)), .val (.int (Int32.ofNat i)), .val (.int (cv A (o + i)))] [])) := c6.trans (st7 _ (Steps.refl _))
      have c9 : Steps p.tables e below (s₁.setTop (entryFrame m #[.ref b, .int (Int32.ofNat o), .ref d, .int (Int32.ofNat q), .int (Int32.ofNat len)] 7)) (T7.setTop (mkF m 3 #[.val (.ref b), .val (.int (Int32.ofNat (o + i) + 1)), .val (.ref d), .val (.int (Int32.ofNat (q + i) + 1)), .val (.int (Int32.ofNat len)), .val (.int (Int32.ofNat i + 1)), .val (.int (cv A (o + i)))] [])) := c8.trans (by
        refine iincV X7.here hexec rfl 1 (hb hbytes d32) (by decide) rfl rfl ?_
        refine iincV X7.here hexec rfl 1 (hb hbytes d35) (by decide) rfl rfl ?_
        refine iincV X7.here hexec rfl 1 (hb hbytes d38) (by decide) rfl rfl ?_
        refine XS.goto X7.here hexec rfl (pc0 := 41) rfl (hb hbytes d41) (by decide) rfl ?_
        exact Steps.refl _)
      have c10 : Steps p.tables e below (s₁.setTop (entryFrame m #[.ref b, .int (Int32.ofNat o), .ref d, .int (Int32.ofNat q), .int (Int32.ofNat len)] 7)) (T7.setTop (mkF m 3 #[.val (.ref b), .val (.int (Int32.ofNat (o + (i + 1)))), .val (.ref d), .val (.int (Int32.ofNat (q + (i + 1)))), .val (.int (Int32.ofNat len)), .val (.int (Int32.ofNat (i + 1))), .val (.int (cv A (o + i)))] [])) := by
        have := c9
        rw [succ32, succ32, succ32] at this
        exact this
      exact ih (i + 1) (by omega) _ (Or.inr ⟨_, rfl, rfl⟩) T7 _ (by rw [copyLocs_step, ← List.append_assoc]; exact X7) (pl.trans p7) (fl.step (by omega) hlt (by simp)) c10
  obtain ⟨T9, B9, z9, X9, p9, f9, g9⟩ := loop len 0 (by omega) .unset (Or.inl rfl) s₁ B (by simpa [copyLocs] using X0) ⟨hB0.1, fun _ _ => rfl, rfl⟩ (Laid.zero _ _ _) c2
  have c11 : Steps p.tables e below (s₁.setTop (entryFrame m #[.ref b, .int (Int32.ofNat o), .ref d, .int (Int32.ofNat q), .int (Int32.ofNat len)] 7)) (T9.setTop (mkF m 46 #[.val (.ref b), .val (.int (Int32.ofNat (o + len))), .val (.ref d), .val (.int (Int32.ofNat (q + len))), .val (.int (Int32.ofNat len)), .val (.int (Int32.ofNat len)), z9] [.int (Int32.ofNat len)])) := g9.trans (by
    refine XS.iload X9.here hexec rfl (hb hbytes d3) rfl ?_
    refine XS.iload X9.here hexec rfl (hb hbytes d5) rfl ?_
    refine XS.icmpYes X9.here hexec rfl (pc0 := 7) rfl (hb hbytes d7) rfl (ii_ge_t (nlt32 (by omega) (Nat.le_refl _))) (by decide) rfl ?_
    refine XS.iload X9.here hexec rfl (hb hbytes d44) rfl ?_
    exact Steps.refl _)
  exact ⟨T9, some (.int (Int32.ofNat len)), _, _, _, X9, by simp, rfl, rfl, (fun h => by cases h), ⟨rfl, B9, p9.from hh0, f9⟩, fun fs hl => c11.trans (X9.ireturnOut hexec hret rfl (Or.inl rfl) (hb hbytes d46) hl)⟩
end Cmp5
namespace Cmp3
def yN : MethodName := ⟨"java/lang/StringUTF16", "compress", "([CII)[B"⟩
abbrev yB : ByteArray := jdk_52_method_16_code
theorem d0 : decode yB 0 = .ok (.iload_n 2, 1) := by decide +kernel
theorem d1 : decode yB 1 = .ok (.newarray .byte, 2) := by decide +kernel
theorem d3 : decode yB 3 = .ok (.astore_n 3, 1) := by decide +kernel
theorem d4 : decode yB 4 = .ok (.aload_n 0, 1) := by decide +kernel
theorem d5 : decode yB 5 = .ok (.iload_n 1, 1) := by decide +kernel
theorem d6 : decode yB 6 = .ok (.aload_n 3, 1) := by decide +kernel
theorem d7 : decode yB 7 = .ok (.iconst 0, 1) := by decide +kernel
theorem d8 : decode yB 8 = .ok (.iload_n 2, 1) := by decide +kernel
theorem d9 : decode yB 9 = .ok (.invokestatic 115, 3) := by decide +kernel
theorem d12 : decode yB 12 = .ok (.istore 4, 2) := by decide +kernel
theorem d14 : decode yB 14 = .ok (.iload 4, 2) := by decide +kernel
theorem d16 : decode yB 16 = .ok (.iload_n 2, 1) := by decide +kernel
theorem d17 : decode yB 17 = .ok (.if_icmp (.eq) 40, 3) := by decide +kernel
theorem d57 : decode yB 57 = .ok (.aload_n 3, 1) := by decide +kernel
theorem d58 : decode yB 58 = .ok (.areturn, 1) := by decide +kernel
def site : List Cond := [.arrayClass .byte, Cmp5.tab] ++ staticW U16 115 Cmp5.yN
def tab : Cond := tabOf yN yB 6 (some (.array .byte)) site
def P (b : Addr) (A : Cell) (o len : Nat) (args : Array Value) (s : State) : Prop := args = #[.ref b, .int (Int32.ofNat o), .int (Int32.ofNat len)] ∧ Ch b A s ∧ o + len ≤ A.slots.size ∧ len ≤ 536870912 ∧ ∀ i, i < len → ¬ 255 < cv A (o + i)
def E (b : Addr) (A : Cell) (o len : Nat) (r : Option Value) (s u : State) : Prop := NewArr .byte "[B" len (fun j => .int (lo8 (cv A (o + j)))) r s u ∧ u.heap.size = s.heap.size + 1
/-- no char of the range above 255: a new byte[] of their low bytes -/
theorem law (l : Launch) (b : Addr) (A : Cell) (o len : Nat) : Law l yN 3 3 1 18 yB 6 (some (.array .byte)) site (P b A o len) (E b A o len) [] 1 len := by
  refine Law.of_walk (plainFor_of_name (by decide +kernel)) (by decide +kernel) (by decide +kernel) (by decide) (fun _ _ h => by rw [h.1]; rfl) (fun _ U U' hal hh h => ⟨h.1, h.2.1.mv hal hh, h.2.2⟩) (fun r U U' V V' h1 hal h2 h => ⟨NewArr.mv r U U' V V' h1 hal h2 h.1, by rw [h1, h2]; exact h.2⟩) ?_
  intro p e s m args below meth c s₁ X0 hexec hbytes hml hret hlk hnm hown hh0 W hP
  obtain ⟨rfl, hA, l1, l2, hp⟩ := hP
  have a31 := hA.1.2.2.2
  have c1 : Steps p.tables e below (s₁.setTop (entryFrame m #[.ref b, .int (Int32.ofNat o), .int (Int32.ofNat len)] 6)) (s₁.setTop (mkF m 0 #[.val (.ref b), .val (.int (Int32.ofNat o)), .val (.int (Int32.ofNat len)), .unset, .unset, .unset] [])) := entry rfl
  have c2 : Steps p.tables e below (s₁.setTop (entryFrame m #[.ref b, .int (Int32.ofNat o), .int (Int32.ofNat len)] 6)) (s₁.setTop (mkF m 1 #[.val (.ref b), .val (.int (Int32.ofNat o)), .val (.int (Int32.ofNat len)), .unset, .unset, .unset] [.int (Int32.ofNat len)])) := c1.trans (by
    refine XS.iloadN X0.here hexec rfl (hb hbytes d0) rfl ?_
    exact Steps.refl _)
  obtain ⟨T3, B3, X3, ba3, bs3, bv3, bh3, bf3, st3⟩ := X0.anew hexec (atype := .byte) (wk W (.arrayClass .byte)) rfl (by show len * 1 ≤ _; omega) (by omega) (g := (mkF m 1 #[.val (.ref b), .val (.int (Int32.ofNat o)), .val (.int (Int32.ofNat len)), .unset, .unset, .unset] [.int (Int32.ofNat len)])) rfl (hb hbytes d1) (rest := []) rfl (Nat.le_refl _) (by show 0 + len ≤ len; omega)
  rw [hh0] at ba3 st3
  have kp3 : XT.Kept s T3 := (XT.Kept.of_eq hh0).push bh3
  have hA3 := hA.keep X3.warmed.alike (kp3 _ _ hA.1.1)
  have hne : b ≠ s.heap.size := hA.1.ne
  have c4 : Steps p.tables e below (s₁.setTop (entryFrame m #[.ref b, .int (Int32.ofNat o), .int (Int32.ofNat len)] 6)) (T3.setTop (mkF m 3 #[.val (.ref b), .val (.int (Int32.ofNat o)), .val (.int (Int32.ofNat len)), .unset, .unset, .unset] [.ref s.heap.size])) := c2.trans (st3 _ (Steps.refl _))
  have c5 : Steps p.tables e below (s₁.setTop (entryFrame m #[.ref b, .int (Int32.ofNat o), .int (Int32.ofNat len)] 6)) (T3.setTop (mkF m 9 #[.val (.ref b), .val (.int (Int32.ofNat o)), .val (.int (Int32.ofNat len)), .val (.ref s.heap.size), .unset, .unset] [.int (Int32.ofNat len), .int 0, .ref s.heap.size, .int (Int32.ofNat o), .ref b])) := c4.trans (by
    refine XS.astoreN X3.here hexec rfl (hb hbytes d3) rfl rfl rfl ?_
    refine XS.aloadN X3.here hexec rfl (hb hbytes d4) rfl rfl ?_
    refine XS.iloadN X3.here hexec rfl (hb hbytes d5) rfl ?_
    refine XS.aloadN X3.here hexec rfl (hb hbytes d6) rfl rfl ?_
    refine iconstV X3.here hexec rfl 0 (hb hbytes d7) (by decide) ?_
    refine XS.iloadN X3.here hexec rfl (hb hbytes d8) rfl ?_
    exact Steps.refl _)
  obtain ⟨v6, T6, X6, E6, g6⟩ := X3.callS hexec (Cmp5.law l b A s.heap.size B3 o 0 len) hown (wks W (staticW U16 115 Cmp5.yN)) (wk W Cmp5.tab) (W := 0) (Nat.le_of_ble_eq_true rfl) (Nat.le_of_ble_eq_true rfl) (Nat.le_refl _) (by show 0 + len + 0 ≤ len; omega) (g := (mkF m 9 #[.val (.ref b), .val (.int (Int32.ofNat o)), .val (.int (Int32.ofNat len)), .val (.ref s.heap.size), .unset, .unset] [.int (Int32.ofNat len), .int (Int32.ofNat 0), .ref s.heap.size, .int (Int32.ofNat o), .ref b])) rfl (by rw [hml]; rfl) c5 (argsL := [.ref b, .int (Int32.ofNat o), .ref s.heap.size, .int (Int32.ofNat 0), .int (Int32.ofNat len)]) (rest := []) rfl rfl (by show 2 * 0 + 0 ≤ _; decide) (hb hbytes d9) (⟨rfl, hA3, ba3, hne, l1, by rw [bs3]; simp, hp⟩)
  obtain ⟨rfl, B6, p6, f6⟩ := E6
  have c7 : Steps p.tables e below (s₁.setTop (entryFrame m #[.ref b, .int (Int32.ofNat o), .int (Int32.ofNat len)] 6)) (T6.setTop (mkF m 12 #[.val (.ref b), .val (.int (Int32.ofNat o)), .val (.int (Int32.ofNat len)), .val (.ref s.heap.size), .unset, .unset] [.int (Int32.ofNat len)])) := g6
  have c8 : Steps p.tables e below (s₁.setTop (entryFrame m #[.ref b, .int (Int32.ofNat o), .int (Int32.ofNat len)] 6)) (T6.setTop (mkF m 58 #[.val (.ref b), .val (.int (Int32.ofNat o)), .val (.int (Int32.ofNat len)), .val (.ref s.heap.size), .val (.int (Int32.ofNat len)), .unset] [.ref s.heap.size])) := c7.trans (by
    refine XS.istore X6.here hexec rfl (hb hbytes d12) rfl rfl ?_
    refine XS.iload X6.here hexec rfl (hb hbytes d14) rfl ?_
    refine XS.iloadN X6.here hexec rfl (hb hbytes d16) rfl ?_
    refine XS.icmpYes X6.here hexec rfl (pc0 := 17) rfl (hb hbytes d17) rfl (ii_eq_t rfl) (by decide) rfl ?_
    refine XS.aloadN X6.here hexec rfl (hb hbytes d57) rfl rfl ?_
    exact Steps.refl _)
  have X8 := X6.wide (L' := []) (cells' := 1) (slots' := len) (fun x hx hlt => by
    simp only [List.nil_append, copyLocs, List.mem_map, List.mem_range] at hx
    obtain ⟨i, -, rfl⟩ := hx
    exact absurd hlt (Nat.lt_irrefl _)) (Nat.le_refl _) (by omega)
  exact ⟨T6, some (.ref s.heap.size), _, _, _, X8, rfl, rfl, rfl, (fun h => by cases h), ⟨⟨rfl, B6, ba3.like (X3.warmed.alike.symm.trans X6.warmed.alike) p6.1 f6.1 f6.2.1 f6.2.2.1, f6.2.1.trans bv3, by rw [X6.warmed.alike.findClass, f6.1]; exact bf3, by rw [f6.2.2.1, bs3]; simp, fun j hj => by rw [f6.2.2.2 j, if_pos (by omega)]; rfl, kp3.put p6 (Nat.le_refl _)⟩, by rw [p6.2.2, bh3, hh0]; simp⟩, fun fs hl => c8.trans (X8.areturnOut hexec rfl hret rfl (hb hbytes d58) hl)⟩
end Cmp3
namespace CodL
def yN : MethodName := ⟨"java/lang/StringUTF16", "coderFromArrayLen", "([BI)B"⟩
abbrev yB : ByteArray := jdk_52_method_15_code
theorem d0 : decode yB 0 = .ok (.iload_n 1, 1) := by decide +kernel
theorem d1 : decode yB 1 = .ok (.aload_n 0, 1) := by decide +kernel
theorem d2 : decode yB 2 = .ok (.arraylength, 1) := by decide +kernel
theorem d3 : decode yB 3 = .ok (.isub, 1) := by decide +kernel
theorem d4 : decode yB 4 = .ok (.bipush 31, 2) := by decide +kernel
theorem d6 : decode yB 6 = .ok (.iushr, 1) := by decide +kernel
theorem d7 : decode yB 7 = .ok (.i2b, 1) := by decide +kernel
theorem d8 : decode yB 8 = .ok (.ireturn, 1) := by decide +kernel
def site : List Cond := []
def tab : Cond := tabOf yN yB 2 (some .byte) site
def P (d : Addr) (B : Cell) (args : Array Value) (s : State) : Prop := args = #[.ref d, .int (Int32.ofNat B.slots.size)] ∧ Arr .byte d B s
def E (r : Option Value) (s u : State) : Prop := XT.PureE (some (.int 0)) r s u
/-- an array as long as the number of chars: LATIN1 -/
theorem law (l : Launch) (d : Addr) (B : Cell) : Law l yN 2 2 0 0 yB 2 (some .byte) site (P d B) E [] 0 0 := by
  refine Law.of_walk (plainFor_of_name (by decide +kernel)) (by decide +kernel) (by decide +kernel) (by decide) (fun _ _ h => by rw [h.1]; rfl) (fun _ U U' hal hh h => ⟨h.1, h.2.mv hal hh⟩) (fun r U U' V V' h1 hal h2 h => XT.PureE.mv r U U' V V' h1 hal h2 h) ?_
  intro p e s m args below meth c s₁ X0 hexec hbytes hml hret hlk hnm hown hh0 W hP
  obtain ⟨rfl, hB⟩ := hP
  have hB0 := hB.mv X0.warmed.alike hh0
  have c1 : Steps p.tables e below (s₁.setTop (entryFrame m #[.ref d, .int (Int32.ofNat B.slots.size)] 2)) (s₁.setTop (mkF m 0 #[.val (.ref d), .val (.int (Int32.ofNat B.slots.size))] [])) := entry rfl
  have c2 : Steps p.tables e below (s₁.setTop (entryFrame m #[.ref d, .int (Int32.ofNat B.slots.size)] 2)) (s₁.setTop (mkF m 2 #[.val (.ref d), .val (.int (Int32.ofNat B.slots.size))] [.ref d, .int (Int32.ofNat B.slots.size)])) := c1.trans (by
    refine XS.iloadN X0.here hexec rfl (hb hbytes d0) rfl ?_
    refine XS.aloadN X0.here hexec rfl (hb hbytes d1) rfl rfl ?_
    exact Steps.refl _)
  have c3 : Steps p.tables e below (s₁.setTop (entryFrame m #[.ref d, .int (Int32.ofNat B.slots.size)] 2)) (s₁.setTop (mkF m 8 #[.val (.ref d), .val (.int (Int32.ofNat B.slots.size))] [.int (lo8 (ushr (Int32.ofNat B.slots.size - Int32.ofNat B.slots.size) 31))])) := c2.trans (by
    refine X0.alen hexec hB0 rfl rfl (hb hbytes d2) ?_
    refine XS.isub X0.here hexec rfl (hb hbytes d3) rfl ?_
    refine bipushV X0.here hexec rfl 31 (hb hbytes d4) (by decide) ?_
    refine iushr X0.here hexec rfl (hb hbytes d6) rfl ?_
    refine i2b X0.here hexec rfl (hb hbytes d7) rfl ?_
    exact Steps.refl _)
  have e0 : lo8 (ushr (Int32.ofNat B.slots.size - Int32.ofNat B.slots.size) 31) = 0 := by rw [Int32.sub_self]; decide
  rw [e0] at c3
  exact ⟨s₁, some (.int 0), _, _, _, X0, rfl, rfl, rfl, (fun h => by cases h), ⟨rfl, hh0⟩, fun fs hl => c3.trans (X0.ireturnOut hexec hret rfl (Or.inr (Or.inr (Or.inl rfl))) (hb hbytes d8) hl)⟩
end CodL
/-- the String at a is Latin-1 over a new byte[] (the heap's one new cell): the low bytes of the len chars of A from o on; every cell but a is kept -/
def Got (a : Addr) (D : Cell) (fV fC : Field) (A : Cell) (o len : Nat) (r : Option Value) (s u : State) : Prop := r = none ∧ ∃ D' V : Cell, Blank "java/lang/String" a D' u ∧ Same D D' [fV.slot, fC.slot] ∧ D'.slots[fV.slot]? = some (.ref s.heap.size) ∧ D'.slots[fC.slot]? = some (.int 0) ∧ Arr .byte s.heap.size V u ∧ V.vm = .none ∧ u.vm.findClass "[B" = some V.cls ∧ V.slots.size = len ∧ (∀ j, j < len → V.slots[j]? = some (.int (lo8 (cv A (o + j))))) ∧ (∀ (y : Addr) (c : Cell), y ≠ a → s.heap[y]? = some c → u.heap[y]? = some c) ∧ u.heap.size = s.heap.size + 1
theorem Got.mv {a : Addr} {D A : Cell} {fV fC : Field} {o len : Nat} : ∀ r (U U' V V' : State), U'.heap = U.heap → V.vm.Alike V'.vm → V'.heap = V.heap → Got a D fV fC A o len r U V → Got a D fV fC A o len r U' V' :=
  fun r U U' V V' h1 hal h2 ⟨e0, D', X, a1, a2, a3, a4, a5, a6, a7, a8, a9, a10, a11⟩ => ⟨e0, D', X, a1.mv hal h2, a2, by rw [h1]; exact a3, a4, by rw [h1]; exact a5.mv hal h2, a6, by rw [hal.findClass]; exact a7, a8, a9, by rw [h1, h2]; exact a10, by rw [h1, h2]; exact a11⟩
namespace New4
def yN : MethodName := ⟨"java/lang/String", "<init>", "([CIILjava/lang/Void;)V"⟩
abbrev yB : ByteArray := jdk_42_method_149_code
theorem d0 : decode yB 0 = .ok (.aload_n 0, 1) := by decide +kernel
theorem d1 : decode yB 1 = .ok (.invokespecial 1, 3) := by decide +kernel
theorem d4 : decode yB 4 = .ok (.iload_n 3, 1) := by decide +kernel
theorem d5 : decode yB 5 = .ok (.ifCond (.ne) 22, 3) := by decide +kernel
theorem d27 : decode yB 27 = .ok (.getstatic 38, 3) := by decide +kernel
theorem d30 : decode yB 30 = .ok (.ifCond (.eq) 28, 3) := by decide +kernel
theorem d33 : decode yB 33 = .ok (.aload_n 1, 1) := by decide +kernel
theorem d34 : decode yB 34 = .ok (.iload_n 2, 1) := by decide +kernel
theorem d35 : decode yB 35 = .ok (.iload_n 3, 1) := by decide +kernel
theorem d36 : decode yB 36 = .ok (.invokestatic 177, 3) := by decide +kernel
theorem d39 : decode yB 39 = .ok (.astore 5, 2) := by decide +kernel
theorem d41 : decode yB 41 = .ok (.aload_n 0, 1) := by decide +kernel
theorem d42 : decode yB 42 = .ok (.aload 5, 2) := by decide +kernel
theorem d44 : decode yB 44 = .ok (.iload_n 3, 1) := by decide +kernel
theorem d45 : decode yB 45 = .ok (.invokestatic 47, 3) := by decide +kernel
theorem d48 : decode yB 48 = .ok (.putfield 15, 3) := by decide +kernel
theorem d51 : decode yB 51 = .ok (.aload_n 0, 1) := by decide +kernel
theorem d52 : decode yB 52 = .ok (.aload 5, 2) := by decide +kernel
theorem d54 : decode yB 54 = .ok (.putfield 9, 3) := by decide +kernel
theorem d57 : decode yB 57 = .ok (.return_, 1) := by decide +kernel
def site : List Cond := [.fieldLink "java/lang/String" 38 "java/lang/String" "COMPACT_STRINGS" "Z", Cmp3.tab, CodL.tab, .laysFinal "java/lang/String" "java/lang/String" "value" "[B", .fieldLink "java/lang/String" 9 "java/lang/String" "value" "[B", .laysFinal "java/lang/String" "java/lang/String" "coder" "B", .fieldLink "java/lang/String" 15 "java/lang/String" "coder" "B"] ++ objW "java/lang/String" 1 ++ staticW "java/lang/String" 177 Cmp3.yN ++ staticW "java/lang/String" 47 CodL.yN
def tab : Cond := tabOf yN yB 6 none site
def P (a : Addr) (D : Cell) (fV fC : Field) (b : Addr) (A : Cell) (z : Int32) (o len : Nat) (args : Array Value) (s : State) : Prop := args = #[.ref a, .ref b, .int (Int32.ofNat o), .int (Int32.ofNat len), .null] ∧ Blank "java/lang/String" a D s ∧ Found "java/lang/String" "value" "[B" fV s ∧ Found "java/lang/String" "coder" "B" fC s ∧ Ch b A s ∧ StaticIs s "java/lang/String" "COMPACT_STRINGS" "Z" (.int z) ∧ ¬ z = 0 ∧ 0 < len ∧ o + len ≤ A.slots.size ∧ len ≤ 536870912 ∧ ∀ i, i < len → ¬ 255 < cv A (o + i)
def E (a : Addr) (D : Cell) (fV fC : Field) (A : Cell) (o len : Nat) (r : Option Value) (s u : State) : Prop := Got a D fV fC A o len r s u
/-- len > 0, no char of the range above 255: a Latin-1 String of their low bytes -/
theorem law (l : Launch) (a : Addr) (D : Cell) (fV fC : Field) (b : Addr) (A : Cell) (z : Int32) (o len : Nat) : Law l yN 5 4 2 35 yB 6 none site (P a D fV fC b A z o len) (E a D fV fC A o len) [⟨a, fC.slot⟩, ⟨a, fV.slot⟩] 1 len := by
  refine Law.of_walk (plainFor_of_name (by decide +kernel)) (by decide +kernel) (by decide +kernel) (by decide) (fun _ _ h => by rw [h.1]; rfl) (fun _ U U' hal hh h => ⟨h.1, h.2.1.mv hal hh, h.2.2.1.al hal, h.2.2.2.1.al hal, h.2.2.2.2.1.mv hal hh, h.2.2.2.2.2.1.there hal hh, h.2.2.2.2.2.2⟩) (fun r U U' V V' h1 hal h2 h => Got.mv r U U' V V' h1 hal h2 h) ?_
  intro p e s m args below meth c s₁ X0 hexec hbytes hml hret hlk hnm hown hh0 W hP
  obtain ⟨rfl, hB, f1, f2, hA, s1, hz, l0, l1, l2, hp⟩ := hP
  have a31 := hA.1.2.2.2
  have c1 : Steps p.tables e below (s₁.setTop (entryFrame m #[.ref a, .ref b, .int (Int32.ofNat o), .int (Int32.ofNat len), .null] 6)) (s₁.setTop (mkF m 0 #[.val (.ref a), .val (.ref b), .val (.int (Int32.ofNat o)), .val (.int (Int32.ofNat len)), .val .null, .unset] [])) := entry rfl
  have c2 : Steps p.tables e below (s₁.setTop (entryFrame m #[.ref a, .ref b, .int (Int32.ofNat o), .int (Int32.ofNat len), .null] 6)) (s₁.setTop (mkF m 1 #[.val (.ref a), .val (.ref b), .val (.int (Int32.ofNat o)), .val (.int (Int32.ofNat len)), .val .null, .unset] [.ref a])) := c1.trans (by
    refine XS.aloadN X0.here hexec rfl (hb hbytes d0) rfl rfl ?_
    exact Steps.refl _)
  obtain ⟨T3, X3, q3, st3⟩ := X0.oinit hexec hown (wks W (objW "java/lang/String" 1)) (g := (mkF m 1 #[.val (.ref a), .val (.ref b), .val (.int (Int32.ofNat o)), .val (.int (Int32.ofNat len)), .val .null, .unset] [.ref a])) rfl (by rw [hml]; rfl) (rest := []) rfl (hb hbytes d1) (W := 0) (by show 2 * 0 + 0 ≤ _; decide) (Nat.le_of_ble_eq_true rfl) (Nat.le_of_ble_eq_true rfl)
  have hh3 := q3.trans hh0
  have c4 : Steps p.tables e below (s₁.setTop (entryFrame m #[.ref a, .ref b, .int (Int32.ofNat o), .int (Int32.ofNat len), .null] 6)) (T3.setTop (mkF m 27 #[.val (.ref a), .val (.ref b), .val (.int (Int32.ofNat o)), .val (.int (Int32.ofNat len)), .val .null, .unset] [])) := (c2.trans (st3 _ (Steps.refl _))).trans (by
    refine XS.iloadN X3.here hexec rfl (hb hbytes d4) rfl ?_
    refine XS.ifYes X3.here hexec rfl (pc0 := 5) rfl (hb hbytes d5) rfl (i0_ne_t (nz32 (by omega) l0)) (by decide) rfl ?_
    exact Steps.refl _)
  obtain ⟨T5, X5, q5, st5⟩ := X3.sget hexec hown (wk W (.fieldLink "java/lang/String" 38 "java/lang/String" "COMPACT_STRINGS" "Z")) s1 (fun _ _ h => by rw [hh3]; exact h) (g := (mkF m 27 #[.val (.ref a), .val (.ref b), .val (.int (Int32.ofNat o)), .val (.int (Int32.ofNat len)), .val .null, .unset] [])) rfl (hb hbytes d27)
  have hh5 := q5.trans hh3
  have c6 : Steps p.tables e below (s₁.setTop (entryFrame m #[.ref a, .ref b, .int (Int32.ofNat o), .int (Int32.ofNat len), .null] 6)) (T5.setTop (mkF m 30 #[.val (.ref a), .val (.ref b), .val (.int (Int32.ofNat o)), .val (.int (Int32.ofNat len)), .val .null, .unset] [.int z])) := c4.trans (st5 _ (Steps.refl _))
  have c7 : Steps p.tables e below (s₁.setTop (entryFrame m #[.ref a, .ref b, .int (Int32.ofNat o), .int (Int32.ofNat len), .null] 6)) (T5.setTop (mkF m 36 #[.val (.ref a), .val (.ref b), .val (.int (Int32.ofNat o)), .val (.int (Int32.ofNat len)), .val .null, .unset] [.int (Int32.ofNat len), .int (Int32.ofNat o), .ref b])) := c6.trans (by
    refine XS.ifNo X5.here hexec rfl (hb hbytes d30) rfl (i0_eq_f hz) ?_
    refine XS.aloadN X5.here hexec rfl (hb hbytes d33) rfl rfl ?_
    refine XS.iloadN X5.here hexec rfl (hb hbytes d34) rfl ?_
    refine XS.iloadN X5.here hexec rfl (hb hbytes d35) rfl ?_
    exact Steps.refl _)
  obtain ⟨v8, T8, X8, E8, g8⟩ := X5.callS hexec (Cmp3.law l b A o len) hown (wks W (staticW "java/lang/String" 177 Cmp3.yN)) (wk W Cmp3.tab) (W := 0) (Nat.le_of_ble_eq_true rfl) (Nat.le_of_ble_eq_true rfl) (Nat.le_refl _) (by show 0 + len ≤ len; omega) (g := (mkF m 36 #[.val (.ref a), .val (.ref b), .val (.int (Int32.ofNat o)), .val (.int (Int32.ofNat len)), .val .null, .unset] [.int (Int32.ofNat len), .int (Int32.ofNat o), .ref b])) rfl (by rw [hml]; rfl) c7 (argsL := [.ref b, .int (Int32.ofNat o), .int (Int32.ofNat len)]) (rest := []) rfl rfl (by show 2 * 0 + 0 ≤ _; decide) (hb hbytes d36) (⟨rfl, hA.mv X5.warmed.alike hh5, l1, l2, hp⟩)
  obtain ⟨e8, z8⟩ := E8
  obtain ⟨rfl, N, n1, n2, n3, n4, n5, n6⟩ := NewArr.mv _ T5 s _ _ hh5.symm (Vm.Alike.refl _) rfl e8
  rw [hh5] at z8
  have hB1 := hB.keep X8.warmed.alike (n6 _ _ hB.1)
  have hne : s.heap.size ≠ a := (Nat.ne_of_lt (Array.getElem?_eq_some_iff.mp hB.1).1).symm
  have c9 : Steps p.tables e below (s₁.setTop (entryFrame m #[.ref a, .ref b, .int (Int32.ofNat o), .int (Int32.ofNat len), .null] 6)) (T8.setTop (mkF m 39 #[.val (.ref a), .val (.ref b), .val (.int (Int32.ofNat o)), .val (.int (Int32.ofNat len)), .val .null, .unset] [.ref s.heap.size])) := g8
  have c10 : Steps p.tables e below (s₁.setTop (entryFrame m #[.ref a, .ref b, .int (Int32.ofNat o), .int (Int32.ofNat len), .null] 6)) (T8.setTop (mkF m 45 #[.val (.ref a), .val (.ref b), .val (.int (Int32.ofNat o)), .val (.int (Int32.ofNat len)), .val .null, .val (.ref s.heap.size)] [.int (Int32.ofNat N.slots.size), .ref s.heap.size, .ref a])) := by
    have hc : Steps p.tables e below (s₁.setTop (entryFrame m #[.ref a, .ref b, .int (Int32.ofNat o), .int (Int32.ofNat len), .null] 6)) (T8.setTop (mkF m 45 #[.val (.ref a), .val (.ref b), .val (.int (Int32.ofNat o)), .val (.int (Int32.ofNat len)), .val .null, .val (.ref s.heap.size)] [.int (Int32.ofNat len), .ref s.heap.size, .ref a])) := c9.trans (by
      refine XS.astore X8.here hexec rfl (hb hbytes d39) rfl rfl rfl ?_
      refine XS.aloadN X8.here hexec rfl (hb hbytes d41) rfl rfl ?_
      refine XS.aload X8.here hexec rfl (hb hbytes d42) rfl rfl ?_
      refine XS.iloadN X8.here hexec rfl (hb hbytes d44) rfl ?_
      exact Steps.refl _)
    rw [n4]; exact hc
  obtain ⟨v11, T11, X11, E11, g11⟩ := X8.callS hexec (CodL.law l s.heap.size N) hown (wks W (staticW "java/lang/String" 47 CodL.yN)) (wk W CodL.tab) (W := 1) (Nat.le_of_ble_eq_true rfl) (Nat.le_of_ble_eq_true rfl) (Nat.le_refl _) (by show 0 + len + 0 ≤ len; omega) (g := (mkF m 45 #[.val (.ref a), .val (.ref b), .val (.int (Int32.ofNat o)), .val (.int (Int32.ofNat len)), .val .null, .val (.ref s.heap.size)] [.int (Int32.ofNat N.slots.size), .ref s.heap.size, .ref a])) rfl (by rw [hml]; rfl) c10 (argsL := [.ref s.heap.size, .int (Int32.ofNat N.slots.size)]) (rest := [.ref a]) rfl rfl (by show 2 * 0 + (1 + 0) ≤ _; decide) (hb hbytes d45) (⟨rfl, n1⟩)
  obtain ⟨rfl, q11⟩ := E11
  have hB11 := hB1.mv (X8.warmed.alike.symm.trans X11.warmed.alike) q11
  have c12 : Steps p.tables e below (s₁.setTop (entryFrame m #[.ref a, .ref b, .int (Int32.ofNat o), .int (Int32.ofNat len), .null] 6)) (T11.setTop (mkF m 48 #[.val (.ref a), .val (.ref b), .val (.int (Int32.ofNat o)), .val (.int (Int32.ofNat len)), .val .null, .val (.ref s.heap.size)] [.int 0, .ref a])) := g11
  obtain ⟨T13, X13, p13, bl13, sl13, st13⟩ := X11.finit hexec hown (wk W (.fieldLink "java/lang/String" 15 "java/lang/String" "coder" "B")) (Or.inr ⟨_, (wk W (.laysFinal "java/lang/String" "java/lang/String" "coder" "B"))⟩) (Or.inl ⟨rfl, hnm⟩) f2 (Or.inl rfl) hB11 (t := .byte) (by decide +kernel) rfl (g := (mkF m 48 #[.val (.ref a), .val (.ref b), .val (.int (Int32.ofNat o)), .val (.int (Int32.ofNat len)), .val .null, .val (.ref s.heap.size)] [.int 0, .ref a])) rfl (rest := []) rfl (hb hbytes d48)
  have c14 : Steps p.tables e below (s₁.setTop (entryFrame m #[.ref a, .ref b, .int (Int32.ofNat o), .int (Int32.ofNat len), .null] 6)) (T13.setTop (mkF m 54 #[.val (.ref a), .val (.ref b), .val (.int (Int32.ofNat o)), .val (.int (Int32.ofNat len)), .val .null, .val (.ref s.heap.size)] [.ref s.heap.size, .ref a])) := (c12.trans (st13 _ (Steps.refl _))).trans (by
    refine XS.aloadN X13.here hexec rfl (hb hbytes d51) rfl rfl ?_
    refine XS.aload X13.here hexec rfl (hb hbytes d52) rfl rfl ?_
    exact Steps.refl _)
  obtain ⟨T15, X15, p15, bl15, sl15, st15⟩ := X13.finit hexec hown (wk W (.fieldLink "java/lang/String" 9 "java/lang/String" "value" "[B")) (Or.inr ⟨_, (wk W (.laysFinal "java/lang/String" "java/lang/String" "value" "[B"))⟩) (Or.inl ⟨rfl, hnm⟩) f1 (Or.inl rfl) bl13 (t := (.array .byte)) (by decide +kernel) rfl (g := (mkF m 54 #[.val (.ref a), .val (.ref b), .val (.int (Int32.ofNat o)), .val (.int (Int32.ofNat len)), .val .null, .val (.ref s.heap.size)] [.ref s.heap.size, .ref a])) rfl (rest := []) rfl (hb hbytes d54)
  have c16 : Steps p.tables e below (s₁.setTop (entryFrame m #[.ref a, .ref b, .int (Int32.ofNat o), .int (Int32.ofNat len), .null] 6)) (T15.setTop (mkF m 57 #[.val (.ref a), .val (.ref b), .val (.int (Int32.ofNat o)), .val (.int (Int32.ofNat len)), .val .null, .val (.ref s.heap.size)] [])) := c14.trans (st15 _ (Steps.refl _))
  have ap := apart (Or.inr ⟨_, (wk W (.laysFinal "java/lang/String" "java/lang/String" "value" "[B"))⟩) (Or.inr ⟨_, (wk W (.laysFinal "java/lang/String" "java/lang/String" "coder" "B"))⟩) f1 f2 (t₁ := .array .byte) (t₂ := .byte) (by decide +kernel) (by decide +kernel) (by decide)
  have al := X8.warmed.alike.symm.trans X15.warmed.alike
  have n7 : T11.heap[s.heap.size]? = some N := by rw [q11]; exact n1.1
  exact ⟨T15, none, _, _, _, X15, by simp, rfl, by omega, (fun _ => rfl), ⟨rfl, _, N, bl15, ((Same.refl D _).set _ (by simp)).set _ (by simp), sl15, (Cell.slots_setSlot_ne _ ap).trans sl13, n1.keep al (p15.other hne (p13.other hne n7)), n2, by rw [al.findClass]; exact n3, n4, n5, fun y c h1 h2 => p15.other h1 (p13.other h1 (by rw [q11]; exact n6 y c h2)), by rw [p15.2.2, p13.2.2, q11]; exact z8⟩, fun fs hl => c16.trans (X15.returnOut hexec hret (hb hbytes d57) hl)⟩
end New4
namespace New1
def yN : MethodName := ⟨"java/lang/String", "<init>", "([C)V"⟩
abbrev yB : ByteArray := jdk_42_method_3_code
theorem d0 : decode yB 0 = .ok (.aload_n 0, 1) := by decide +kernel
theorem d1 : decode yB 1 = .ok (.aload_n 1, 1) := by decide +kernel
theorem d2 : decode yB 2 = .ok (.iconst 0, 1) := by decide +kernel
theorem d3 : decode yB 3 = .ok (.aload_n 1, 1) := by decide +kernel
theorem d4 : decode yB 4 = .ok (.arraylength, 1) := by decide +kernel
theorem d5 : decode yB 5 = .ok (.aconst_null, 1) := by decide +kernel
theorem d6 : decode yB 6 = .ok (.invokespecial 27, 3) := by decide +kernel
theorem d9 : decode yB 9 = .ok (.return_, 1) := by decide +kernel
def site : List Cond := [New4.tab] ++ initW "java/lang/String" 27 New4.yN
def tab : Cond := tabOf yN yB 2 none site
def P (a : Addr) (D : Cell) (fV fC : Field) (b : Addr) (A : Cell) (z : Int32) (args : Array Value) (s : State) : Prop := args = #[.ref a, .ref b] ∧ Blank "java/lang/String" a D s ∧ Found "java/lang/String" "value" "[B" fV s ∧ Found "java/lang/String" "coder" "B" fC s ∧ Ch b A s ∧ StaticIs s "java/lang/String" "COMPACT_STRINGS" "Z" (.int z) ∧ ¬ z = 0 ∧ 0 < A.slots.size ∧ A.slots.size ≤ 536870912 ∧ ∀ i, i < A.slots.size → ¬ 255 < cv A i
def E (a : Addr) (D : Cell) (fV fC : Field) (A : Cell) (r : Option Value) (s u : State) : Prop := Got a D fV fC A 0 A.slots.size r s u
/-- new String(chars), not empty, no char above 255: a Latin-1 String of their low bytes -/
theorem law (l : Launch) (a : Addr) (D : Cell) (fV fC : Field) (b : Addr) (A : Cell) (z : Int32) : Law l yN 2 1 3 52 yB 2 none site (P a D fV fC b A z) (E a D fV fC A) [⟨a, fC.slot⟩, ⟨a, fV.slot⟩] 1 A.slots.size := by
  refine Law.of_walk (plainFor_of_name (by decide +kernel)) (by decide +kernel) (by decide +kernel) (by decide) (fun _ _ h => by rw [h.1]; rfl) (fun _ U U' hal hh h => ⟨h.1, h.2.1.mv hal hh, h.2.2.1.al hal, h.2.2.2.1.al hal, h.2.2.2.2.1.mv hal hh, h.2.2.2.2.2.1.there hal hh, h.2.2.2.2.2.2⟩) (fun r U U' V V' h1 hal h2 h => Got.mv r U U' V V' h1 hal h2 h) ?_
  intro p e s m args below meth c s₁ X0 hexec hbytes hml hret hlk hnm hown hh0 W hP
  obtain ⟨rfl, hB, f1, f2, hA, s1, hz, l0, l2, hp⟩ := hP
  have c1 : Steps p.tables e below (s₁.setTop (entryFrame m #[.ref a, .ref b] 2)) (s₁.setTop (mkF m 0 #[.val (.ref a), .val (.ref b)] [])) := entry rfl
  have c2 : Steps p.tables e below (s₁.setTop (entryFrame m #[.ref a, .ref b] 2)) (s₁.setTop (mkF m 6 #[.val (.ref a), .val (.ref b)] [.null, .int (Int32.ofNat A.slots.size), .int 0, .ref b, .ref a])) := c1.trans (by
    refine XS.aloadN X0.here hexec rfl (hb hbytes d0) rfl rfl ?_
    refine XS.aloadN X0.here hexec rfl (hb hbytes d1) rfl rfl ?_
    refine iconstV X0.here hexec rfl 0 (hb hbytes d2) (by decide) ?_
    refine XS.aloadN X0.here hexec rfl (hb hbytes d3) rfl rfl ?_
    refine X0.alen hexec (hA.1.mv X0.warmed.alike hh0) rfl rfl (hb hbytes d4) ?_
    refine XS.aconstNull X0.here hexec rfl (hb hbytes d5) ?_
    exact Steps.refl _)
  obtain ⟨v3, T3, X3, E3, g3⟩ := X0.callN hexec (New4.law l a D fV fC b A z 0 A.slots.size) rfl hown (wks W (initW "java/lang/String" 27 New4.yN)) (W New4.tab (by simp only [site, List.mem_cons, List.mem_append, true_or, or_true])) (W := 0) (Nat.le_of_ble_eq_true rfl) (Nat.le_of_ble_eq_true rfl) (Nat.le_refl _) (by show 0 + A.slots.size ≤ A.slots.size; omega) (g := (mkF m 6 #[.val (.ref a), .val (.ref b)] [.null, .int (Int32.ofNat A.slots.size), .int (Int32.ofNat 0), .ref b, .ref a])) rfl (by rw [hml]; rfl) c2 (argsL := [.ref b, .int (Int32.ofNat 0), .int (Int32.ofNat A.slots.size), .null]) (rest := []) rfl rfl (by show 2 * 0 + 0 ≤ _; decide) (hb hbytes d6) (⟨rfl, hB.mv X0.warmed.alike hh0, f1.al X0.warmed.alike, f2.al X0.warmed.alike, hA.mv X0.warmed.alike hh0, s1.there X0.warmed.alike hh0, hz, l0, by omega, l2, fun i hi => by rw [Nat.zero_add]; exact hp i hi⟩)
  have e0 := Got.mv _ s₁ s _ _ hh0.symm (Vm.Alike.refl _) rfl E3
  obtain rfl := e0.1
  have c4 : Steps p.tables e below (s₁.setTop (entryFrame m #[.ref a, .ref b] 2)) (T3.setTop (mkF m 9 #[.val (.ref a), .val (.ref b)] [])) := g3
  exact ⟨T3, none, _, _, _, X3, by simp, rfl, by omega, (fun _ => rfl), e0, fun fs hl => c4.trans (X3.returnOut hexec hret (hb hbytes d9) hl)⟩
theorem pays {l : Launch} {R : Room} {p : Program} {e : Env} {below : List Frame} {s : State} {sargs : Array Value} {len W : Nat} (a : Addr) (D : Cell) (fV fC : Field) (b : Addr) (A : Cell) (z : Int32) (htab : tab.before sargs s = true) (hfr : 4 ≤ R.frames) (hlo : W + 65 ≤ R.locals) :
    Back l R p e below s sargs yN len W (fun A₁ a₁ => A₁.cells + 1 ≤ R.cells ∧ A₁.slots + A.slots.size ≤ R.slots ∧ P a D fV fC b A z a₁ A₁.U) (fun A₁ _ v₁ B₁ => E a D fV fC A v₁ A₁.U B₁.U ∧ B₁.locs = A₁.locs ++ [⟨a, fC.slot⟩, ⟨a, fV.slot⟩] ∧ B₁.cells = A₁.cells + 1 ∧ B₁.slots = A₁.slots + A.slots.size) :=
  (law l a D fV fC b A z).pays htab hfr (by omega)
end New1
/-- the byte, read back as charAt reads it, is the char -/
theorem lo8_mask {x : Int32} (h0 : ¬ x < 0) (h1 : ¬ 255 < x) : lo8 x &&& 255 = x := by
  have t : ∀ k : Fin 256, lo8 (Int32.ofNat k.val) &&& 255 = Int32.ofNat k.val := by decide +kernel
  rw [Int32.lt_iff_toInt_lt] at h0 h1
  have e0 : (0 : Int32).toInt = 0 := rfl
  have e1 : (255 : Int32).toInt = 255 := rfl
  obtain ⟨k, hk⟩ : ∃ k : Nat, x.toInt = k := ⟨x.toInt.toNat, by omega⟩
  have hx : x = Int32.ofNat k := Int32.toInt_inj.mp (by rw [hk, Int32.toInt_ofNat_small (by omega)])
  rw [hx]
  exact t ⟨k, by omega⟩
end StrChars
namespace StrChars.Road
open Jvm Sem ClassFile Op Lib Jvm.Stand Jvm.Free Jvm.Free.XT
open Jvm.Lib.Cold (StaticIs)
abbrev ST : String := "java/lang/String"
/-- every table word that New1's law asks, flat -/
abbrev words : List Jvm.Cond := [.code New1.yN New1.yB 2 none, .initialized ST, .methodLink ST 27 New4.yN, .instanceMethod New4.yN,
  .code New4.yN New4.yB 6 none, .fieldLink ST 38 ST "COMPACT_STRINGS" "Z", .laysFinal ST ST "value" "[B", .fieldLink ST 9 ST "value" "[B", .laysFinal ST ST "coder" "B", .fieldLink ST 15 ST "coder" "B",
  .methodLink ST 1 Lib.objectInit, .instanceMethod Lib.objectInit, .code Lib.objectInit ⟨#[0xb1]⟩ 1 none, .methodLink ST 177 Cmp3.yN, .static Cmp3.yN, .methodLink ST 47 CodL.yN, .static CodL.yN,
  .code Cmp3.yN Cmp3.yB 6 (some (.array .byte)), .initialized U16, .arrayClass .byte, .methodLink U16 115 Cmp5.yN, .static Cmp5.yN, .code Cmp5.yN Cmp5.yB 7 (some .int), .code CodL.yN CodL.yB 2 (some .byte)]
theorem tab_of {a : Array Value} {s : State} (h : ∀ w ∈ words, w.before a s = true) : New1.tab.before a s = true := by
  have h5 : Cmp5.tab.before a s = true := unparts (wk h (.code Cmp5.yN Cmp5.yB 7 (some .int))) (wks h (.initialized Cmp5.yN.cls :: Cmp5.site))
  have hc : CodL.tab.before a s = true := unparts (wk h (.code CodL.yN CodL.yB 2 (some .byte))) (wks h (.initialized CodL.yN.cls :: CodL.site))
  have q5 : ∀ w ∈ Cmp5.tab :: words, w.before a s = true := fun w hw => (List.mem_cons.mp hw).elim (fun e => e ▸ h5) (h w)
  have h3 : Cmp3.tab.before a s = true := unparts (wk q5 (.code Cmp3.yN Cmp3.yB 6 (some (.array .byte)))) (wks q5 (.initialized Cmp3.yN.cls :: Cmp3.site))
  have q3 : ∀ w ∈ Cmp3.tab :: CodL.tab :: words, w.before a s = true := fun w hw => (List.mem_cons.mp hw).elim (fun e => e ▸ h3) fun hw => (List.mem_cons.mp hw).elim (fun e => e ▸ hc) (h w)
  have h4 : New4.tab.before a s = true := unparts (wk q3 (.code New4.yN New4.yB 6 none)) (wks q3 (.initialized New4.yN.cls :: New4.site))
  have q4 : ∀ w ∈ New4.tab :: words, w.before a s = true := fun w hw => (List.mem_cons.mp hw).elim (fun e => e ▸ h4) (h w)
  exact unparts (wk q4 (.code New1.yN New1.yB 2 none)) (wks q4 (.initialized New1.yN.cls :: New1.site))
/-- the words ride from the start Z to the walk's own state -/
theorem moved {Z s : State} {a0 args : Array Value} (hZ : Z.Warmed39 s.vm) (hw : ∀ d ∈ words, d.before a0 Z = true) : ∀ d ∈ words, d.before args s = true := fun d hd => by
  have q := hw d hd
  have t : ∀ d ∈ words, d = .arrayClass .byte ∨ (d.onTables && d.keepsFace) = true := by decide +kernel
  rcases t d hd with rfl | t
  · exact RoadKit.mvA hZ q
  · exact RoadKit.mv hZ q t
/-- WHAT COMES BACK, over the tables of the start Z: h the heap at the call, h' behind it -/
def Q (Z : State) (x : Addr) (A : Cell) (h : Heap) (v : Option Value) (h' : Heap) (L : List Loc) : Prop := v = none ∧ (∀ y ∈ L, y.base = x) ∧ RoadKit.Keep h h' [x] ∧ h'.size = h.size + 1 ∧ RoadKit.Exa Z h' x ST ∧ RoadKit.Fld Z h' x ST "value" "[B" (.ref h.size) ∧ RoadKit.Fld Z h' x ST "coder" "B" (.int 0) ∧
  (∃ V : Cell, RoadKit.Arr Z h' h.size V .byte ∧ V.vm = .none ∧ Z.vm.findClass "[B" = some V.cls ∧ V.slots.size = A.slots.size ∧ ∀ j, j < A.slots.size → V.slots[j]? = some (.int (lo8 (cv A j)))) ∧
  ∀ (O n d : String) (w : Value), RoadKit.Fld Z h x O n d w → RoadKit.slotOf Z O n d ≠ RoadKit.slotOf Z ST "value" "[B" → RoadKit.slotOf Z O n d ≠ RoadKit.slotOf Z ST "coder" "B" → RoadKit.Fld Z h' x O n d w
/-- **new String(chars) AT A CALL, IN THE ROAD'S FORM**: for specialBack behind newO: x the fresh String, b the char[] with the cell A -/
theorem back {p : Program} {l : Launch} {e : Env} {R : Room} {s : State} {args : Array Value} {below : List Frame} {len W : Nat} {Z : State} {a0 : Array Value} {h : Heap} (hZ : Z.Warmed39 s.vm) (hw : ∀ d ∈ words, d.before a0 Z = true) {kI : Nat} (wi : (Jvm.Cond.instantiable ST kI).before a0 Z = true)
    {x b : Addr} {A : Cell} {z : Int32} {v0 c0 : Value} (E : RoadKit.Exa Z h x ST) (V : RoadKit.Fld Z h x ST "value" "[B" v0) (C : RoadKit.Fld Z h x ST "coder" "B" c0) (K : RoadKit.Arr Z h b A .char) (hty : Typed .char A) (S : RoadKit.Sta Z h ST "COMPACT_STRINGS" "Z" (.int z)) (hz : ¬ z = 0)
    (l0 : 0 < A.slots.size) (l2 : A.slots.size ≤ 536870912) (hp : ∀ i, i < A.slots.size → ¬ 255 < cv A i) (hfr : 4 ≤ R.frames) (hlo : W + 65 ≤ R.locals) :
    Back l R p e below s args New1.yN len W (fun P a => a = #[.ref x, .ref b] ∧ P.U.heap = h ∧ P.cells + 1 ≤ R.cells ∧ P.slots + A.slots.size ≤ R.slots)
      (fun P _ v B => ∃ L, Q Z x A h v B.U.heap L ∧ B.locs = P.locs ++ L ∧ B.cells = P.cells + 1 ∧ B.slots = P.slots + A.slots.size) := by
  intro m meth c P g ig mk a X hg hsize hdg hW hn hp'
  obtain ⟨rfl, rfl, r1, r2⟩ := hp'
  have al : Z.vm.Alike P.U.vm := hZ.alike.trans X.warmed.alike
  obtain ⟨D, cfV, kV, iV, fV, hD, gV, stV, knV, obV, asV, slV⟩ := id V
  obtain ⟨D', cfC, kC, iC, fC, hD', gC, stC, -, -, asC, slC⟩ := id C
  cases hD.symm.trans hD'
  obtain ⟨D2, kD, e1, e2, e3, e4, e5⟩ := id E
  cases hD.symm.trans e1
  obtain ⟨c2, k2, i1, i2, i3, -⟩ := Cond.instantiable_spec wi
  cases e2.symm.trans i1
  cases e3.symm.trans i2
  obtain ⟨kU, u1, u2⟩ := al.2.2 _ _ e3
  have hB : Blank ST x D P.U := ⟨hD, ⟨knV, fun q hq => by rw [hq] at obV; cases obV⟩, by rw [al.findClass]; exact e2, kU, u1, by rw [u2]; exact i3, by rw [u2]; exact e5 i3⟩
  have F1 : Found ST "value" "[B" fV P.U := ⟨SBG.found_only al ⟨cfV, kV, iV, gV⟩, stV⟩
  have F2 : Found ST "coder" "B" fC P.U := ⟨SBG.found_only al ⟨cfC, kC, iC, gC⟩, stC⟩
  have hA : Ch b A P.U := ⟨⟨K.1, State.isArrayOf_alike al K.2.1, K.2.2, by omega⟩, hty⟩
  have hS : StaticIs P.U ST "COMPACT_STRINGS" "Z" (.int z) := by
    obtain ⟨cfS, iS, kS, fS, st, cS, t1, t2, t3, t4, t5, t6, t7⟩ := S
    exact StaticIs.there (s := { Z with heap := P.U.heap }) ⟨cfS, iS, kS, fS, st, cS, t1, t2, t3, t4, t5, (fun q => by rw [q] at t6; cases t6), t7⟩ al rfl
  obtain ⟨v, B, X', ⟨⟨hv, E', V', q1, q2, q3, q4, q5, q6, q7, q8, q9, q10, q11⟩, hl, hc, hs⟩, st⟩ := New1.pays x D fV fC b A z (tab_of (moved hZ hw)) hfr hlo m meth c P g ig mk _ X hg hsize hdg hW hn ⟨r1, r2, rfl, hB, F1, F2, hA, hS, hz, l0, l2, hp⟩
  have al' : Z.vm.Alike B.U.vm := hZ.alike.trans X'.warmed.alike
  have hsz : E'.slots.size = D.slots.size := by
    obtain ⟨-, -, -, kB, w1, w2, w3⟩ := q1
    obtain ⟨kB', y1, y2⟩ := al'.2.2 _ _ e3
    rw [q2.2.1] at w1
    cases w1.symm.trans y1
    rw [w3, e5 i3, y2]
  refine ⟨v, B, X', ⟨_, ⟨hv, ?_, ⟨by omega, fun y cy hy hn' => q10 y cy (by simpa using hn') hy, fun y cy hy => ?_⟩, q11, ⟨E', _, q1.1, by rw [q2.2.1]; exact e2, by rw [q2.2.1]; exact e3, by rw [q2.1]; exact obV, fun _ => by rw [hsz]; exact e5 i3⟩,
    ⟨E', cfV, kV, iV, fV, q1.1, gV, stV, by rw [q2.1]; exact knV, by rw [q2.1]; exact obV, by rw [q2.2.1]; exact asV, q3⟩, ⟨E', cfC, kC, iC, fC, q1.1, gC, stC, by rw [q2.1]; exact knV, by rw [q2.1]; exact obV, by rw [q2.2.1]; exact asC, q4⟩,
    ⟨V', ⟨q5.1, State.isArrayOf_alike al'.symm q5.2.1, q5.2.2.1⟩, q6, by rw [← al'.findClass]; exact q7, q8, fun j hj => by have := q9 j hj; rwa [Nat.zero_add] at this⟩, fun O n d w F n1 n2 => ?_⟩, hl, hc, hs⟩, st⟩
  · intro y hy
    simp only [List.mem_cons, List.not_mem_nil, or_false] at hy
    rcases hy with rfl | rfl <;> rfl
  · by_cases q : y = x
    · subst q
      cases hD.symm.trans hy
      exact ⟨E', q1.1, q2.2.1, q2.1, hsz⟩
    · exact ⟨cy, q10 y cy q hy, rfl, rfl, rfl⟩
  · obtain ⟨D3, cf, k, i, f, g1, g2, g3, g4, g5, g6, g7⟩ := F
    cases hD.symm.trans g1
    simp only [RoadKit.slotOf, g2, gV, gC, Option.map_some, Option.getD_some] at n1 n2
    exact ⟨E', cf, k, i, f, q1.1, g2, g3, by rw [q2.1]; exact g4, by rw [q2.1]; exact g5, by rw [q2.2.1]; exact g6, by rw [q2.2.2 f.slot (by simp [n1, n2])]; exact g7⟩
end StrChars.Road
namespace StrChars.Road
open Jvm Sem ClassFile Op Lib Jvm.Stand Jvm.Free Jvm.Free.XT
/-- WHAT COMES BACK, the byte[] as a list of values -/
def QA (Z : State) (x : Addr) (zn : Int32) (cs : List Int32) (h : Heap) (v : Option Value) (h' : Heap) (L : List Loc) : Prop := v = none ∧ (∀ y ∈ L, y.base = x) ∧ RoadKit.Keep h h' [x] ∧ h'.size = h.size + 1 ∧ RoadKit.Exa Z h' x ST ∧ RoadKit.Fld Z h' x ST "value" "[B" (.ref h.size) ∧ RoadKit.Fld Z h' x ST "coder" "B" (.int 0) ∧
  (∃ kb, Z.vm.findClass "[B" = some kb ∧ RoadKit.Arv Z h' h.size kb .byte zn (cs.map fun c => .int (lo8 c)) (.int 0)) ∧
  ∀ (O n d : String) (w : Value), RoadKit.Fld Z h x O n d w → RoadKit.slotOf Z O n d ≠ RoadKit.slotOf Z ST "value" "[B" → RoadKit.slotOf Z O n d ≠ RoadKit.slotOf Z ST "coder" "B" → RoadKit.Fld Z h' x O n d w
/-- **new String(chars) AT A CALL, THE ARRAYS AS LISTS**: the char[] at b holds cs, not empty, no char above 255 -/
theorem backArv {p : Program} {l : Launch} {e : Env} {R : Room} {s : State} {args : Array Value} {below : List Frame} {len W : Nat} {Z : State} {a0 : Array Value} {h : Heap} (hZ : Z.Warmed39 s.vm) (hw : ∀ d ∈ words, d.before a0 Z = true) {kI : Nat} (wi : (Jvm.Cond.instantiable ST kI).before a0 Z = true)
    {x b : Addr} {k : ClassId} {zn z : Int32} {cs : List Int32} {dv v0 c0 : Value} (E : RoadKit.Exa Z h x ST) (V : RoadKit.Fld Z h x ST "value" "[B" v0) (C : RoadKit.Fld Z h x ST "coder" "B" c0) (K : RoadKit.Arv Z h b k .char zn (cs.map Value.int) dv) (S : RoadKit.Sta Z h ST "COMPACT_STRINGS" "Z" (.int z)) (hz : ¬ z = 0)
    (hlen : zn.toNatClampNeg = cs.length) (h0 : 0 < cs.length) (hbig : cs.length ≤ 536870912) (hall : ∀ c ∈ cs, ¬ 255 < c) (hfr : 4 ≤ R.frames) (hlo : W + 65 ≤ R.locals) :
    Back l R p e below s args New1.yN len W (fun P a => a = #[.ref x, .ref b] ∧ P.U.heap = h ∧ P.cells + 1 ≤ R.cells ∧ P.slots + cs.length ≤ R.slots)
      (fun P _ v B => ∃ L, QA Z x zn cs h v B.U.heap L ∧ B.locs = P.locs ++ L ∧ B.cells = P.cells + 1 ∧ B.slots = P.slots + cs.length) := by
  obtain ⟨A, K1, K2, K3, K4, K5, K6⟩ := K
  have e : A.slots.size = cs.length := K3.trans hlen
  have hat : ∀ (i : Nat) (hi : i < cs.length), A.slots[i]? = some (.int cs[i]) := fun i hi => by rw [K5 i (by omega)]; simp [List.getD_eq_getElem?_getD, hi]
  have hcv : ∀ (i : Nat) (hi : i < cs.length), cv A i = cs[i] := fun i hi => by unfold cv; rw [hat i hi]
  have hty : Typed .char A := fun i v hv => by
    have hi : i < A.slots.size := (Array.getElem?_eq_some_iff.mp hv).1
    have q := K5 i hi
    rw [hv] at q
    rw [Option.some.inj q]
    exact K6 i hi
  refine Back.mono (back hZ hw wi E V C K1 hty S hz (by omega) (by omega) (fun i hi => by rw [hcv i (by omega)]; exact hall _ (List.getElem_mem _)) hfr hlo) (fun P a hp => ⟨hp.1, hp.2.1, hp.2.2.1, by rw [e]; exact hp.2.2.2⟩) (fun P a v B hp hq => ?_)
  obtain ⟨L, ⟨q1, q2, q3, q4, q5, q6, q7, ⟨V', v1, v2, v3, v4, v5⟩, q9⟩, hl, hc, hs⟩ := hq
  refine ⟨L, ⟨q1, q2, q3, q4, q5, q6, q7, ⟨V'.cls, v3, V', v1, rfl, by rw [v4, e, hlen], K4, fun i hi => ?_, fun i hi => ?_⟩, q9⟩, hl, hc, by rw [hs, e]⟩
  · have hi' : i < cs.length := by omega
    rw [v5 i (by omega), hcv i hi']; simp [List.getD_eq_getElem?_getD, hi']
  · have hi' : i < cs.length := by omega
    simp only [List.getD_eq_getElem?_getD, List.getElem?_map, List.getElem?_eq_getElem hi', Option.map_some, Option.getD_some]
    exact fits_lo8 _
end StrChars.Road
namespace StrChars.Road
open Jvm Sem ClassFile Op Lib Jvm.Stand Jvm.Free Jvm.Free.XT
/-- WHAT COMES BACK, in the writer's own shape -/
def QV (Z : State) (x : Addr) (N : Int32) (bs : List Int32) (h : Heap) (n0 : Nat) (v : Option Value) (h' : Heap) (L : List Loc) : Prop := v = none ∧ RoadKit.Fr n0 L ∧ RoadKit.Keep h h' [x] ∧ RoadKit.Exa Z h' x ST ∧ RoadKit.Fld Z h' x ST "coder" "B" (.int 0) ∧
  ∃ (t : Addr) (kb : ClassId), n0 ≤ t ∧ h.size ≤ t ∧ ¬ t = x ∧ RoadKit.Fld Z h' x ST "value" "[B" (.ref t) ∧ RoadKit.Arv Z h' t kb .byte N (bs.map Value.int) (.int 0)
/-- **new String(chars) AT A CALL, FOR THE WRITER**: a char[] of n known ints, each 0 to 255 -/
theorem backV {p : Program} {l : Launch} {e : Env} {R : Room} {s : State} {args : Array Value} {below : List Frame} {len W : Nat} {Z : State} {a0 : Array Value} {h : Heap} (hZ : Z.Warmed39 s.vm) (hw : ∀ d ∈ words, d.before a0 Z = true) {kI : Nat} (wi : (Jvm.Cond.instantiable ST kI).before a0 Z = true)
    {x b : Addr} {kC : ClassId} {cs bs : List Int32} {d v0 c0 : Value} {z N : Int32} {n n0 : Nat} (hx0 : n0 ≤ x) (hh0 : n0 ≤ h.size) (E : RoadKit.Exa Z h x ST) (V : RoadKit.Fld Z h x ST "value" "[B" v0) (C : RoadKit.Fld Z h x ST "coder" "B" c0) (K : RoadKit.Arv Z h b kC .char N (cs.map Value.int) d) (S : RoadKit.Sta Z h ST "COMPACT_STRINGS" "Z" (.int z)) (hz : ¬ z = 0)
    (hn : cs.length = n) (hN : N = Int32.ofNat n) (l0 : 0 < n) (l2 : n ≤ 4000) (hp : ∀ c ∈ cs, ¬ c < 0 ∧ ¬ (255 : Int32) < c) (hb : bs = cs.map (fun c => c.toInt8.toInt32)) (hfr : 4 ≤ R.frames) (hlo : W + 65 ≤ R.locals) :
    Back l R p e below s args (⟨"java/lang/String", "<init>", "([C)V"⟩ : MethodName) len W (fun P a => a = #[.ref x, .ref b] ∧ P.U.heap = h ∧ P.cells + 1 ≤ R.cells ∧ P.slots + n ≤ R.slots)
      (fun P _ v B => ∃ L, QV Z x N bs h n0 v B.U.heap L ∧ B.locs = P.locs ++ L ∧ B.cells = P.cells + 1 ∧ B.slots = P.slots + n) := by
  subst hn hN hb
  refine Back.mono (backArv hZ hw wi E V C K S hz (n32 (by omega)) l0 (by omega) (fun c hc => (hp c hc).2) hfr hlo) (fun P a hp => hp) (fun P a v B hp hq => ?_)
  obtain ⟨L, ⟨q1, q2, q3, q4, q5, q6, q7, ⟨kb, v1, v2⟩, q9⟩, hl, hc, hs⟩ := hq
  exact ⟨L, ⟨q1, fun y hy => by rw [q2 y hy]; exact hx0, q3, q5, q7, h.size, kb, hh0, Nat.le_refl _, Nat.ne_of_gt E.lt, q6, by rw [List.map_map]; exact v2⟩, hl, hc, hs⟩
end StrChars.Road
namespace StrChars
open Jvm Sem ClassFile Op Lib Jvm.Stand Jvm.Free.XT Jvm.Free.ALB Jvm.Free.JM Jvm.Free
open Jvm.Lib.Cold (StaticIs)
def hi8 (x : Int32) : Int32 := lo8 (x >>> ((8 : Int32) &&& 31))
/-- what StringUTF16.getChar makes of two bytes -/
def pairCh (u v : Int32) : Int32 := (((u &&& 255) <<< ((0 : Int32) &&& 31)) ||| ((v &&& 255) <<< ((8 : Int32) &&& 31))).toUInt32.toUInt16.toUInt32.toInt32
theorem shr0 (c : Int32) : c >>> ((0 : Int32) &&& 31) = c := by
  have e : ((0 : Int32) &&& 31) = 0 := by decide
  rw [e]
  apply Int32.toBitVec_inj.mp
  rw [Int32.toBitVec_shiftRight]
  have e1 : ((0 : Int32).toBitVec.smod 32) = 0#32 := by decide
  rw [e1, BitVec.sshiftRight_eq']
  exact BitVec.sshiftRight_zero
theorem lo8_and (x : Int32) : (lo8 x &&& 255).toBitVec.toNat = x.toBitVec.toNat % 256 := by
  have h : (lo8 x).toBitVec = (x.toBitVec.signExtend 8).signExtend 32 := by rw [lo8, Int8.toBitVec_toInt32, Int32.toBitVec_toInt8]
  rw [Int32.toBitVec_and, BitVec.toNat_and, h]
  have e : ((x.toBitVec.signExtend 8).signExtend 32).toNat % 256 = x.toBitVec.toNat % 256 := by
    rw [BitVec.toNat_signExtend]
    have hlt := x.toBitVec.isLt
    simp only [BitVec.toNat_setWidth, BitVec.toNat_signExtend]
    split <;> split <;> omega
  rw [← e]
  exact Nat.and_two_pow_sub_one_eq_mod _ 8
theorem pair_says {c : Int32} (h0 : ¬ c < 0) (h1 : ¬ 65535 < c) : pairCh (lo8 c) (hi8 c) = c := by
  rw [Int32.lt_iff_toInt_lt] at h0 h1
  have e0 : (0 : Int32).toInt = 0 := rfl
  have e1 : (65535 : Int32).toInt = 65535 := rfl
  have hc : c.toInt = c.toBitVec.toNat := by
    have := c.toBitVec.isLt
    have e : c.toInt = c.toBitVec.toInt := rfl
    rw [e] at h0 h1
    rw [e]
    rw [BitVec.toInt_eq_toNat_cond] at h0 h1 ⊢
    split at h0 <;> split <;> omega
  have hn : c.toBitVec.toNat < 65536 := by omega
  have a1 := lo8_and c
  have a2 : (hi8 c &&& 255).toBitVec.toNat = c.toBitVec.toNat / 256 := by
    rw [hi8, lo8_and]
    have e : ((8 : Int32) &&& 31) = 8 := by decide
    rw [e, Int32.toBitVec_shiftRight]
    have e2 : ((8 : Int32).toBitVec.smod 32) = 8#32 := by decide
    rw [e2, BitVec.sshiftRight_eq', BitVec.toNat_sshiftRight_of_msb_false (by rw [BitVec.msb_eq_false_iff_two_mul_lt]; omega)]
    show c.toBitVec.toNat >>> 8 % 256 = _
    rw [Nat.shiftRight_eq_div_pow]
    omega
  unfold pairCh
  apply Int32.toBitVec_inj.mp
  apply BitVec.eq_of_toNat_eq
  have f0 : ((0 : Int32) &&& 31) = 0 := by decide
  have f8 : ((8 : Int32) &&& 31) = 8 := by decide
  rw [f0, f8]
  have g : (((lo8 c &&& 255) <<< (0 : Int32)) ||| ((hi8 c &&& 255) <<< (8 : Int32))).toBitVec.toNat = c.toBitVec.toNat := by
    rw [Int32.toBitVec_or, Int32.toBitVec_shiftLeft, Int32.toBitVec_shiftLeft]
    have s0 : ((0 : Int32).toBitVec.smod 32) = 0#32 := by decide
    have s8 : ((8 : Int32).toBitVec.smod 32) = 8#32 := by decide
    rw [s0, s8, BitVec.toNat_or]
    simp only [BitVec.shiftLeft_eq', BitVec.toNat_shiftLeft, a1, a2]
    show (c.toBitVec.toNat % 256) <<< 0 % 2 ^ 32 ||| (c.toBitVec.toNat / 256) <<< 8 % 2 ^ 32 = _
    rw [Nat.shiftLeft_zero, Nat.mod_eq_of_lt (show c.toBitVec.toNat % 256 < 2 ^ 32 by omega), Nat.mod_eq_of_lt (show (c.toBitVec.toNat / 256) <<< 8 < 2 ^ 32 by rw [Nat.shiftLeft_eq]; omega), Nat.or_comm, ← Nat.shiftLeft_add_eq_or_of_lt (by omega), Nat.shiftLeft_eq]
    omega
  show BitVec.toNat (((((lo8 c &&& 255) <<< (0 : Int32)) ||| ((hi8 c &&& 255) <<< (8 : Int32))).toBitVec.setWidth 16).setWidth 32) = _
  rw [BitVec.toNat_setWidth, BitVec.toNat_setWidth, g]
  omega
end StrChars
namespace StrChars
open Jvm Sem ClassFile Op Lib Jvm.Stand Jvm.Free.XT Jvm.Free.ALB Jvm.Free.JM Jvm.Free
open Jvm.Lib.Cold (StaticIs)
theorem shr1 {n : Nat} (h : 2 * n < 2 ^ 31) : Int32.ofNat (2 * n) >>> ((1 : Int32) &&& 31) = Int32.ofNat n := by
  have e : ((1 : Int32) &&& 31) = 1 := by decide
  rw [e]
  apply Int32.toBitVec_inj.mp
  rw [Int32.toBitVec_shiftRight]
  have e1 : ((1 : Int32).toBitVec.smod 32) = 1#32 := by decide
  have hm : (BitVec.ofNat 32 (2 * n)).toNat = 2 * n := by rw [BitVec.toNat_ofNat, Nat.mod_eq_of_lt (by omega)]
  rw [e1, BitVec.sshiftRight_eq']
  apply BitVec.eq_of_toNat_eq
  show ((BitVec.ofNat 32 (2 * n)).sshiftRight 1).toNat = (BitVec.ofNat 32 n).toNat
  rw [BitVec.toNat_sshiftRight_of_msb_false (by rw [BitVec.msb_eq_false_iff_two_mul_lt, hm]; omega), hm, BitVec.toNat_ofNat, Nat.shiftRight_eq_div_pow]
  omega
/-- charAt's cast of a byte read back -/
def chr8 (u : Int32) : Int32 := (u &&& 255).toUInt32.toUInt16.toUInt32.toInt32
theorem chr8_lo8 {c : Int32} (h0 : ¬ c < 0) (h1 : ¬ 255 < c) : chr8 (lo8 c) = c := by
  have t : ∀ k : Fin 256, (Int32.ofNat k.val).toUInt32.toUInt16.toUInt32.toInt32 = Int32.ofNat k.val := by decide +kernel
  unfold chr8
  rw [lo8_mask h0 h1]
  rw [Int32.lt_iff_toInt_lt] at h0 h1
  have e0 : (0 : Int32).toInt = 0 := rfl
  have e1 : (255 : Int32).toInt = 255 := rfl
  obtain ⟨k, hk⟩ : ∃ k : Nat, c.toInt = k := ⟨c.toInt.toNat, by omega⟩
  have hx : c = Int32.ofNat k := Int32.toInt_inj.mp (by rw [hk, Int32.toInt_ofNat_small (by omega)])
  rw [hx]
  exact t ⟨k, by omega⟩
theorem narrow_ch {c : Int32} (h0 : ¬ c < 0) (h1 : ¬ 65535 < c) : narrow .char (.int c) = .int c := by
  have q : narrow .char (.int (pairCh (lo8 c) (hi8 c))) = .int (pairCh (lo8 c) (hi8 c)) := narrow_c _
  rwa [pair_says h0 h1] at q
/-- the array's cell V codes the n chars f 0 .. f (n - 1) by the coder cd, as the JDK does: coder 1 just where some char is above 255 -/
def Cod (cd : Int32) (n : Nat) (f : Nat → Int32) (V : Cell) : Prop := (cd = 0 ∧ V.slots.size = n ∧ ∀ j, j < n → V.slots[j]? = some (.int (lo8 (f j))) ∧ ¬ 255 < f j) ∨ (cd = 1 ∧ V.slots.size = 2 * n ∧ (∀ j, j < n → V.slots[2 * j]? = some (.int (lo8 (f j))) ∧ V.slots[2 * j + 1]? = some (.int (hi8 (f j)))) ∧ ∃ j, j < n ∧ 255 < f j)
theorem Cod.cd {cd : Int32} {n : Nat} {f : Nat → Int32} {V : Cell} (h : Cod cd n f V) : cd = 0 ∨ cd = 1 := h.imp (fun q => q.1) fun q => q.1
theorem Cod.len {cd : Int32} {n : Nat} {f : Nat → Int32} {V : Cell} (h : Cod cd n f V) (hs : V.slots.size < 2 ^ 31) : Int32.ofNat V.slots.size >>> (cd &&& 31) = Int32.ofNat n := by
  rcases h with ⟨rfl, h, -⟩ | ⟨rfl, h, -⟩
  · rw [shr0, h]
  · rw [h, shr1 (by omega)]
/-- **x is a String of the n chars f 0 .. f (n - 1)**, Latin-1 or UTF-16; its array at t has the cell V -/
def Txt (x t : Addr) (V : Cell) (cd : Int32) (n : Nat) (f : Nat → Int32) (U : State) : Prop := Exact "java/lang/String" x U ∧ Has x "java/lang/String" "value" "[B" (.ref t) U ∧ Has x "java/lang/String" "coder" "B" (.int cd) U ∧ XT.Arr .byte t V U ∧ Cod cd n f V ∧ ∀ j, j < n → ¬ f j < 0 ∧ ¬ 65535 < f j
theorem Txt.mv {x t : Addr} {V : Cell} {cd : Int32} {n : Nat} {f : Nat → Int32} {U U' : State} (h : Txt x t V cd n f U) (hal : U.vm.Alike U'.vm) (hh : U'.heap = U.heap) : Txt x t V cd n f U' := ⟨h.1.mv hal hh, h.2.1.mv hal hh, h.2.2.1.mv hal hh, h.2.2.2.1.mv hal hh, h.2.2.2.2⟩
namespace Cdr
def yN : MethodName := ⟨"java/lang/String", "coder", "()B"⟩
abbrev yB : ByteArray := jdk_42_method_152_code
theorem d0 : decode yB 0 = .ok (.getstatic 38, 3) := by decide +kernel
theorem d3 : decode yB 3 = .ok (.ifCond (.eq) 10, 3) := by decide +kernel
theorem d6 : decode yB 6 = .ok (.aload_n 0, 1) := by decide +kernel
theorem d7 : decode yB 7 = .ok (.getfield 15, 3) := by decide +kernel
theorem d10 : decode yB 10 = .ok (.goto 4, 3) := by decide +kernel
theorem d14 : decode yB 14 = .ok (.ireturn, 1) := by decide +kernel
def site : List Cond := [.fieldLink "java/lang/String" 38 "java/lang/String" "COMPACT_STRINGS" "Z", .fieldLink "java/lang/String" 15 "java/lang/String" "coder" "B"]
def tab : Cond := tabOf yN yB 1 (some .byte) site
def P (x : Addr) (cd z : Int32) (args : Array Value) (s : State) : Prop := args = #[.ref x] ∧ Has x "java/lang/String" "coder" "B" (.int cd) s ∧ (cd = 0 ∨ cd = 1) ∧ StaticIs s "java/lang/String" "COMPACT_STRINGS" "Z" (.int z) ∧ ¬ z = 0
def E (cd : Int32) (r : Option Value) (s u : State) : Prop := XT.PureE (some (.int cd)) r s u
theorem law (l : Launch) (x : Addr) (cd z : Int32) : Law l yN 1 0 0 0 yB 1 (some .byte) site (P x cd z) (E cd) [] 0 0 := by
  refine Law.of_walk (plainFor_of_name (by decide +kernel)) (by decide +kernel) (by decide +kernel) (by decide) (fun _ _ h => by rw [h.1]; rfl) (fun _ U U' hal hh h => ⟨h.1, h.2.1.mv hal hh, h.2.2.1, h.2.2.2.1.there hal hh, h.2.2.2.2⟩) (fun r U U' V V' h1 hal h2 h => XT.PureE.mv r U U' V V' h1 hal h2 h) ?_
  intro p e s m args below meth c s₁ X0 hexec hbytes hml hret hlk hnm hown hh0 W hP
  obtain ⟨rfl, hx, hc, s1, hz⟩ := hP
  have c1 : Steps p.tables e below (s₁.setTop (entryFrame m #[.ref x] 1)) (s₁.setTop (mkF m 0 #[.val (.ref x)] [])) := entry rfl
  obtain ⟨T2, X2, q2, st2⟩ := X0.sget hexec hown (wk W (.fieldLink "java/lang/String" 38 "java/lang/String" "COMPACT_STRINGS" "Z")) s1 (fun _ _ h => by rw [hh0]; exact h) (g := (mkF m 0 #[.val (.ref x)] [])) rfl (hb hbytes d0)
  have hh2 := q2.trans hh0
  have c3 : Steps p.tables e below (s₁.setTop (entryFrame m #[.ref x] 1)) (T2.setTop (mkF m 7 #[.val (.ref x)] [.ref x])) := (c1.trans (st2 _ (Steps.refl _))).trans (by
    refine XS.ifNo X2.here hexec rfl (hb hbytes d3) rfl (i0_eq_f hz) ?_
    refine XS.aloadN X2.here hexec rfl (hb hbytes d6) rfl rfl ?_
    exact Steps.refl _)
  obtain ⟨T4, X4, q4, st4⟩ := X2.hget hexec hown (wk W (.fieldLink "java/lang/String" 15 "java/lang/String" "coder" "B")) (hx.mv X2.warmed.alike hh2) (g := (mkF m 7 #[.val (.ref x)] [.ref x])) rfl (rest := []) rfl (hb hbytes d7)
  have c5 : Steps p.tables e below (s₁.setTop (entryFrame m #[.ref x] 1)) (T4.setTop (mkF m 14 #[.val (.ref x)] [.int cd])) := (c3.trans (st4 _ (Steps.refl _))).trans (by
    refine XS.goto X4.here hexec rfl (pc0 := 10) rfl (hb hbytes d10) (by decide) rfl ?_
    exact Steps.refl _)
  exact ⟨T4, some (.int cd), _, _, _, X4, rfl, rfl, rfl, (fun h => by cases h), ⟨rfl, q4.trans hh2⟩, fun fs hl => c5.trans (X4.ireturnOut hexec hret (by rcases hc with rfl | rfl <;> rfl) (Or.inr (Or.inr (Or.inl rfl))) (hb hbytes d14) hl)⟩
end Cdr
namespace Len
def yN : MethodName := ⟨"java/lang/String", "length", "()I"⟩
abbrev yB : ByteArray := jdk_42_method_54_code
theorem d0 : decode yB 0 = .ok (.aload_n 0, 1) := by decide +kernel
theorem d1 : decode yB 1 = .ok (.getfield 9, 3) := by decide +kernel
theorem d4 : decode yB 4 = .ok (.arraylength, 1) := by decide +kernel
theorem d5 : decode yB 5 = .ok (.aload_n 0, 1) := by decide +kernel
theorem d6 : decode yB 6 = .ok (.invokevirtual 335, 3) := by decide +kernel
theorem d9 : decode yB 9 = .ok (.ishr, 1) := by decide +kernel
theorem d10 : decode yB 10 = .ok (.ireturn, 1) := by decide +kernel
def site : List Cond := [.fieldLink "java/lang/String" 9 "java/lang/String" "value" "[B", Cdr.tab] ++ virtW "java/lang/String" 335 "java/lang/String" Cdr.yN Cdr.yN
def tab : Cond := tabOf yN yB 1 (some .int) site
def P (x t : Addr) (V : Cell) (cd : Int32) (n : Nat) (f : Nat → Int32) (z : Int32) (args : Array Value) (s : State) : Prop := args = #[.ref x] ∧ Txt x t V cd n f s ∧ StaticIs s "java/lang/String" "COMPACT_STRINGS" "Z" (.int z) ∧ ¬ z = 0
def E (n : Nat) (r : Option Value) (s u : State) : Prop := XT.PureE (some (.int (Int32.ofNat n))) r s u
/-- length() of a String of n chars, in either coding -/
theorem law (l : Launch) (x t : Addr) (V : Cell) (cd : Int32) (n : Nat) (f : Nat → Int32) (z : Int32) : Law l yN 1 0 1 13 yB 1 (some .int) site (P x t V cd n f z) (E n) [] 0 0 := by
  refine Law.of_walk (plainFor_of_name (by decide +kernel)) (by decide +kernel) (by decide +kernel) (by decide) (fun _ _ h => by rw [h.1]; rfl) (fun _ U U' hal hh h => ⟨h.1, h.2.1.mv hal hh, h.2.2.1.there hal hh, h.2.2.2⟩) (fun r U U' V V' h1 hal h2 h => XT.PureE.mv r U U' V V' h1 hal h2 h) ?_
  intro p e s m args below meth c s₁ X0 hexec hbytes hml hret hlk hnm hown hh0 W hP
  obtain ⟨rfl, hx, s1, hz⟩ := hP
  have v31 := hx.2.2.2.1.2.2.2
  have c1 : Steps p.tables e below (s₁.setTop (entryFrame m #[.ref x] 1)) (s₁.setTop (mkF m 1 #[.val (.ref x)] [.ref x])) := Steps.trans (entry rfl) (by
    show Steps p.tables e below (s₁.setTop (mkF m 0 #[.val (.ref x)] [])) _
    refine XS.aloadN X0.here hexec rfl (hb hbytes d0) rfl rfl ?_
    exact Steps.refl _)
  obtain ⟨T2, X2, q2, st2⟩ := X0.hget hexec hown (wk W (.fieldLink "java/lang/String" 9 "java/lang/String" "value" "[B")) (hx.mv X0.warmed.alike hh0).2.1 (g := (mkF m 1 #[.val (.ref x)] [.ref x])) rfl (rest := []) rfl (hb hbytes d1)
  have hh2 := q2.trans hh0
  have hx2 := hx.mv X2.warmed.alike hh2
  have c3 : Steps p.tables e below (s₁.setTop (entryFrame m #[.ref x] 1)) (T2.setTop (mkF m 6 #[.val (.ref x)] [.ref x, .int (Int32.ofNat V.slots.size)])) := (c1.trans (st2 _ (Steps.refl _))).trans (by
    refine X2.alen hexec hx2.2.2.2.1 rfl rfl (hb hbytes d4) ?_
    refine XS.aloadN X2.here hexec rfl (hb hbytes d5) rfl rfl ?_
    exact Steps.refl _)
  obtain ⟨v4, T4, X4, E4, g4⟩ := X2.callV hexec (Cdr.law l x cd z) hown (wks W (virtW "java/lang/String" 335 "java/lang/String" Cdr.yN Cdr.yN)) rfl (by decide) (wk W Cdr.tab) (W := 1) (Nat.le_of_ble_eq_true rfl) (Nat.le_of_ble_eq_true rfl) (Nat.le_refl _) (Nat.le_refl _) (hx2.1.fc X2.warmed.alike) hx2.1.is (g := (mkF m 6 #[.val (.ref x)] [.ref x, .int (Int32.ofNat V.slots.size)])) rfl (by rw [hml]; rfl) c3 (argsL := []) (rest := [.int (Int32.ofNat V.slots.size)]) rfl rfl (by show 2 * 0 + (1 + 0) ≤ _; decide) (hb hbytes d6) (⟨rfl, hx2.2.2.1, hx.2.2.2.2.1.cd, s1.there X2.warmed.alike hh2, hz⟩)
  obtain ⟨rfl, q4⟩ := E4
  have c5 : Steps p.tables e below (s₁.setTop (entryFrame m #[.ref x] 1)) (T4.setTop (mkF m 10 #[.val (.ref x)] [.int (Int32.ofNat V.slots.size >>> (cd &&& 31))])) := Steps.trans g4 (by
    refine ishr X4.here hexec rfl (hb hbytes d9) rfl ?_
    exact Steps.refl _)
  rw [hx.2.2.2.2.1.len v31] at c5
  exact ⟨T4, some (.int (Int32.ofNat n)), _, _, _, X4, rfl, rfl, rfl, (fun h => by cases h), ⟨rfl, q4.trans hh2⟩, fun fs hl => c5.trans (X4.ireturnOut hexec hret rfl (Or.inl rfl) (hb hbytes d10) hl)⟩
theorem pays {l : Launch} {R : Room} {p : Program} {e : Env} {below : List Frame} {s : State} {sargs : Array Value} {len W : Nat} (x t : Addr) (V : Cell) (cd : Int32) (n : Nat) (f : Nat → Int32) (z : Int32) (htab : tab.before sargs s = true) (hfr : 2 ≤ R.frames) (hlo : W + 25 ≤ R.locals) :
    Back l R p e below s sargs yN len W (fun A₁ a₁ => A₁.cells + 0 ≤ R.cells ∧ A₁.slots + 0 ≤ R.slots ∧ P x t V cd n f z a₁ A₁.U) (fun A₁ _ v₁ B₁ => E n v₁ A₁.U B₁.U ∧ B₁.locs = A₁.locs ++ [] ∧ B₁.cells = A₁.cells + 0 ∧ B₁.slots = A₁.slots + 0) :=
  (law l x t V cd n f z).pays htab hfr (by omega)
end Len
namespace IsL
def yN : MethodName := ⟨"java/lang/String", "isLatin1", "()Z"⟩
abbrev yB : ByteArray := jdk_42_method_154_code
theorem d0 : decode yB 0 = .ok (.getstatic 38, 3) := by decide +kernel
theorem d3 : decode yB 3 = .ok (.ifCond (.eq) 14, 3) := by decide +kernel
theorem d6 : decode yB 6 = .ok (.aload_n 0, 1) := by decide +kernel
theorem d7 : decode yB 7 = .ok (.getfield 15, 3) := by decide +kernel
theorem d10 : decode yB 10 = .ok (.ifCond (.ne) 7, 3) := by decide +kernel
theorem d13 : decode yB 13 = .ok (.iconst 1, 1) := by decide +kernel
theorem d14 : decode yB 14 = .ok (.goto 4, 3) := by decide +kernel
theorem d17 : decode yB 17 = .ok (.iconst 0, 1) := by decide +kernel
theorem d18 : decode yB 18 = .ok (.ireturn, 1) := by decide +kernel
def site : List Cond := [.fieldLink "java/lang/String" 38 "java/lang/String" "COMPACT_STRINGS" "Z", .fieldLink "java/lang/String" 15 "java/lang/String" "coder" "B"]
def tab : Cond := tabOf yN yB 1 (some .boolean) site
def P (x : Addr) (cd z : Int32) (args : Array Value) (s : State) : Prop := args = #[.ref x] ∧ Has x "java/lang/String" "coder" "B" (.int cd) s ∧ (cd = 0 ∨ cd = 1) ∧ StaticIs s "java/lang/String" "COMPACT_STRINGS" "Z" (.int z) ∧ ¬ z = 0
def E (cd : Int32) (r : Option Value) (s u : State) : Prop := XT.PureE (some (.int (1 - cd))) r s u
theorem law (l : Launch) (x : Addr) (cd z : Int32) : Law l yN 1 0 0 0 yB 1 (some .boolean) site (P x cd z) (E cd) [] 0 0 := by
  refine Law.of_walk (plainFor_of_name (by decide +kernel)) (by decide +kernel) (by decide +kernel) (by decide) (fun _ _ h => by rw [h.1]; rfl) (fun _ U U' hal hh h => ⟨h.1, h.2.1.mv hal hh, h.2.2.1, h.2.2.2.1.there hal hh, h.2.2.2.2⟩) (fun r U U' V V' h1 hal h2 h => XT.PureE.mv r U U' V V' h1 hal h2 h) ?_
  intro p e s m args below meth c s₁ X0 hexec hbytes hml hret hlk hnm hown hh0 W hP
  obtain ⟨rfl, hx, hc, s1, hz⟩ := hP
  have c1 : Steps p.tables e below (s₁.setTop (entryFrame m #[.ref x] 1)) (s₁.setTop (mkF m 0 #[.val (.ref x)] [])) := entry rfl
  obtain ⟨T2, X2, q2, st2⟩ := X0.sget hexec hown (wk W (.fieldLink "java/lang/String" 38 "java/lang/String" "COMPACT_STRINGS" "Z")) s1 (fun _ _ h => by rw [hh0]; exact h) (g := (mkF m 0 #[.val (.ref x)] [])) rfl (hb hbytes d0)
  have hh2 := q2.trans hh0
  have c3 : Steps p.tables e below (s₁.setTop (entryFrame m #[.ref x] 1)) (T2.setTop (mkF m 7 #[.val (.ref x)] [.ref x])) := (c1.trans (st2 _ (Steps.refl _))).trans (by
    refine XS.ifNo X2.here hexec rfl (hb hbytes d3) rfl (i0_eq_f hz) ?_
    refine XS.aloadN X2.here hexec rfl (hb hbytes d6) rfl rfl ?_
    exact Steps.refl _)
  obtain ⟨T4, X4, q4, st4⟩ := X2.hget hexec hown (wk W (.fieldLink "java/lang/String" 15 "java/lang/String" "coder" "B")) (hx.mv X2.warmed.alike hh2) (g := (mkF m 7 #[.val (.ref x)] [.ref x])) rfl (rest := []) rfl (hb hbytes d7)
  have c5 : Steps p.tables e below (s₁.setTop (entryFrame m #[.ref x] 1)) (T4.setTop (mkF m 10 #[.val (.ref x)] [.int cd])) := c3.trans (st4 _ (Steps.refl _))
  have c6 : Steps p.tables e below (s₁.setTop (entryFrame m #[.ref x] 1)) (T4.setTop (mkF m 18 #[.val (.ref x)] [.int (1 - cd)])) := by
    rcases hc with rfl | rfl
    · exact c5.trans (by
        refine XS.ifNo X4.here hexec rfl (hb hbytes d10) rfl (i0_ne_f rfl) ?_
        refine iconstV X4.here hexec rfl 1 (hb hbytes d13) (by decide) ?_
        refine XS.goto X4.here hexec rfl (pc0 := 14) rfl (hb hbytes d14) (by decide) rfl ?_
        exact Steps.refl _)
    · exact c5.trans (by
        refine XS.ifYes X4.here hexec rfl (pc0 := 10) rfl (hb hbytes d10) rfl (i0_ne_t (by decide)) (by decide) rfl ?_
        refine iconstV X4.here hexec rfl 0 (hb hbytes d17) (by decide) ?_
        exact Steps.refl _)
  exact ⟨T4, some (.int (1 - cd)), _, _, _, X4, rfl, rfl, rfl, (fun h => by cases h), ⟨rfl, q4.trans hh2⟩, fun fs hl => c6.trans (X4.ireturnOut hexec hret (by rcases hc with rfl | rfl <;> rfl) (Or.inr (Or.inl rfl)) (hb hbytes d18) hl)⟩
end IsL
namespace LChA
def yN : MethodName := ⟨"java/lang/StringLatin1", "charAt", "([BI)C"⟩
abbrev yB : ByteArray := jdk_43_method_2_code
theorem d0 : decode yB 0 = .ok (.iload_n 1, 1) := by decide +kernel
theorem d1 : decode yB 1 = .ok (.aload_n 0, 1) := by decide +kernel
theorem d2 : decode yB 2 = .ok (.arraylength, 1) := by decide +kernel
theorem d3 : decode yB 3 = .ok (.invokestatic 9, 3) := by decide +kernel
theorem d6 : decode yB 6 = .ok (.aload_n 0, 1) := by decide +kernel
theorem d7 : decode yB 7 = .ok (.iload_n 1, 1) := by decide +kernel
theorem d8 : decode yB 8 = .ok (.baload, 1) := by decide +kernel
theorem d9 : decode yB 9 = .ok (.sipush 255, 3) := by decide +kernel
theorem d12 : decode yB 12 = .ok (.iand, 1) := by decide +kernel
theorem d13 : decode yB 13 = .ok (.i2c, 1) := by decide +kernel
theorem d14 : decode yB 14 = .ok (.ireturn, 1) := by decide +kernel
def site : List Cond := [JO.Str_checkIndex.tab] ++ staticW "java/lang/StringLatin1" 9 JO.Str_checkIndex.yN
def tab : Cond := tabOf yN yB 2 (some .char) site
def P (t : Addr) (V : Cell) (i : Nat) (u : Int32) (fm : Value) (args : Array Value) (s : State) : Prop := args = #[.ref t, .int (Int32.ofNat i)] ∧ XT.Arr .byte t V s ∧ V.slots[i]? = some (.int u) ∧ (StaticIs s "jdk/internal/util/Preconditions" "SIOOBE_FORMATTER" "Ljava/util/function/BiFunction;" fm ∧ fm.isRef = true)
def E (u : Int32) (r : Option Value) (s w : State) : Prop := XT.PureE (some (.int (chr8 u))) r s w
theorem law (l : Launch) (t : Addr) (V : Cell) (i : Nat) (u : Int32) (fm : Value) : Law l yN 2 2 2 27 yB 2 (some .char) site (P t V i u fm) (E u) [] 0 0 := by
  refine Law.of_walk (plainFor_of_name (by decide +kernel)) (by decide +kernel) (by decide +kernel) (by decide) (fun _ _ h => by rw [h.1]; rfl) (fun _ U U' hal hh h => ⟨h.1, h.2.1.mv hal hh, h.2.2.1, h.2.2.2.1.there hal hh, h.2.2.2.2⟩) (fun r U U' V V' h1 hal h2 h => XT.PureE.mv r U U' V V' h1 hal h2 h) ?_
  intro p e s m args below meth c s₁ X0 hexec hbytes hml hret hlk hnm hown hh0 W hP
  obtain ⟨rfl, hV, hu, s1, rf⟩ := hP
  have v31 := hV.2.2.2
  have hi : i < V.slots.size := (Array.getElem?_eq_some_iff.mp hu).1
  have c1 : Steps p.tables e below (s₁.setTop (entryFrame m #[.ref t, .int (Int32.ofNat i)] 2)) (s₁.setTop (mkF m 0 #[.val (.ref t), .val (.int (Int32.ofNat i))] [])) := entry rfl
  have c2 : Steps p.tables e below (s₁.setTop (entryFrame m #[.ref t, .int (Int32.ofNat i)] 2)) (s₁.setTop (mkF m 3 #[.val (.ref t), .val (.int (Int32.ofNat i))] [.int (Int32.ofNat V.slots.size), .int (Int32.ofNat i)])) := c1.trans (by
    refine XS.iloadN X0.here hexec rfl (hb hbytes d0) rfl ?_
    refine XS.aloadN X0.here hexec rfl (hb hbytes d1) rfl rfl ?_
    refine X0.alen hexec (hV.mv X0.warmed.alike hh0) rfl rfl (hb hbytes d2) ?_
    exact Steps.refl _)
  obtain ⟨v3, T3, X3, E3, g3⟩ := X0.callS hexec (JO.Str_checkIndex.law l (Int32.ofNat i) (Int32.ofNat V.slots.size) fm) hown (wks W (staticW "java/lang/StringLatin1" 9 JO.Str_checkIndex.yN)) (wk W JO.Str_checkIndex.tab) (W := 0) (Nat.le_of_ble_eq_true rfl) (Nat.le_of_ble_eq_true rfl) (Nat.le_refl _) (Nat.le_refl _) (g := (mkF m 3 #[.val (.ref t), .val (.int (Int32.ofNat i))] [.int (Int32.ofNat V.slots.size), .int (Int32.ofNat i)])) rfl (by rw [hml]; rfl) c2 (argsL := [.int (Int32.ofNat i), .int (Int32.ofNat V.slots.size)]) (rest := []) rfl rfl (by show 2 * 0 + 0 ≤ _; decide) (hb hbytes d3) (⟨rfl, rf, s1.there X0.warmed.alike hh0, Int32.ofNat_not_neg (by omega), lt32 v31 hi⟩)
  obtain ⟨rfl, q3⟩ := E3
  have hh3 := q3.trans hh0
  have c4 : Steps p.tables e below (s₁.setTop (entryFrame m #[.ref t, .int (Int32.ofNat i)] 2)) (T3.setTop (mkF m 14 #[.val (.ref t), .val (.int (Int32.ofNat i))] [.int (chr8 u)])) := Steps.trans g3 (by
    refine XS.aloadN X3.here hexec rfl (hb hbytes d6) rfl rfl ?_
    refine XS.iloadN X3.here hexec rfl (hb hbytes d7) rfl ?_
    refine X3.aget hexec (hV.mv X3.warmed.alike hh3) rfl hu rfl rfl (hb hbytes d8) ?_
    refine sipushV X3.here hexec rfl 255 (hb hbytes d9) (by decide) ?_
    refine XS.iand X3.here hexec rfl (hb hbytes d12) rfl ?_
    refine i2c X3.here hexec rfl (hb hbytes d13) rfl ?_
    exact Steps.refl _)
  exact ⟨T3, some (.int (chr8 u)), _, _, _, X3, rfl, rfl, rfl, (fun h => by cases h), ⟨rfl, hh3⟩, fun fs hl => c4.trans (X3.ireturnOut hexec hret (narrow_c _) (Or.inr (Or.inr (Or.inr (Or.inl rfl)))) (hb hbytes d14) hl)⟩
end LChA
end StrChars
namespace StrChars.Road
open Jvm Sem ClassFile Op Lib Jvm.Stand Jvm.Free Jvm.Free.XT
open Jvm.Lib.Cold (StaticIs)
theorem consq {a : Array Value} {s : State} {c : Jvm.Cond} {L : List Jvm.Cond} (h0 : c.before a s = true) (h : ∀ w ∈ L, w.before a s = true) : ∀ w ∈ c :: L, w.before a s = true := fun w hw => (List.mem_cons.mp hw).elim (fun e => e ▸ h0) (h w)
/-- the words of String.length(), either coding -/
abbrev wordsLen : List Jvm.Cond := [.code Len.yN Len.yB 1 (some .int), .initialized ST, .fieldLink ST 9 ST "value" "[B", .fieldLink ST 38 ST "COMPACT_STRINGS" "Z", .fieldLink ST 15 ST "coder" "B", .code Cdr.yN Cdr.yB 1 (some .byte), .methodLink ST 335 Cdr.yN, .declares Cdr.yN, .selects ST Cdr.yN Cdr.yN, .instanceMethod Cdr.yN]
theorem tabLen_of {a : Array Value} {s : State} (h : ∀ w ∈ wordsLen, w.before a s = true) : Len.tab.before a s = true := by
  have hc : Cdr.tab.before a s = true := unparts (wk h (.code Cdr.yN Cdr.yB 1 (some .byte))) (wks h (.initialized Cdr.yN.cls :: Cdr.site))
  have q := consq hc h
  exact unparts (wk q (.code Len.yN Len.yB 1 (some .int))) (wks q (.initialized Len.yN.cls :: Len.site))
theorem movedLen {Z s : State} {a0 args : Array Value} (hZ : Z.Warmed39 s.vm) (hw : ∀ d ∈ wordsLen, d.before a0 Z = true) : ∀ d ∈ wordsLen, d.before args s = true := fun d hd => by
  have q := hw d hd
  have t : ∀ d ∈ wordsLen, d = .arrayClass .byte ∨ (d.onTables && d.keepsFace) = true := by decide +kernel
  rcases t d hd with rfl | t
  · exact RoadKit.mvA hZ q
  · exact RoadKit.mv hZ q t
/-- the bytes of the chars cs, low before high -/
def wideBytes : List Int32 → List Value
  | [] => []
  | c :: cs => .int (lo8 c) :: .int (hi8 c) :: wideBytes cs
theorem wide_lo (d : Value) : ∀ (cs : List Int32) (j : Nat), j < cs.length → (wideBytes cs).getD (2 * j) d = .int (lo8 (cs.getD j 0))
  | [], j, h => absurd h (Nat.not_lt_zero j)
  | c :: cs, 0, _ => rfl
  | c :: cs, j + 1, h => by
    have q := wide_lo d cs j (by simpa using h)
    rw [show 2 * (j + 1) = 2 * j + 1 + 1 from by omega]
    simpa [wideBytes] using q
theorem wide_hi (d : Value) : ∀ (cs : List Int32) (j : Nat), j < cs.length → (wideBytes cs).getD (2 * j + 1) d = .int (hi8 (cs.getD j 0))
  | [], j, h => absurd h (Nat.not_lt_zero j)
  | c :: cs, 0, _ => rfl
  | c :: cs, j + 1, h => by
    have q := wide_hi d cs j (by simpa using h)
    rw [show 2 * (j + 1) + 1 = 2 * j + 1 + 1 + 1 from by omega]
    simpa [wideBytes] using q
theorem low_at (d : Value) (cs : List Int32) (j : Nat) (h : j < cs.length) : (cs.map fun c => Value.int (lo8 c)).getD j d = .int (lo8 (cs.getD j 0)) := by
  simp [List.getD_eq_getElem?_getD, h]
/-- an array of N2 bytes vs codes the chars cs by the coder cd -/
def CodA (cs : List Int32) (cd N2 : Int32) (vs : List Value) : Prop := (cd = 0 ∧ N2 = Int32.ofNat cs.length ∧ vs = (cs.map fun c => Value.int (lo8 c)) ∧ ∀ c ∈ cs, ¬ 255 < c) ∨ (cd = 1 ∧ N2 = Int32.ofNat (2 * cs.length) ∧ vs = wideBytes cs ∧ ∃ c ∈ cs, 255 < c)
theorem CodA.cod {cs : List Int32} {cd N2 : Int32} {vs : List Value} {V : Cell} (h : CodA cs cd N2 vs) (hn : 2 * cs.length < 2 ^ 31) (hs : V.slots.size = N2.toNatClampNeg) (hv : RoadKit.Has V vs (.int 0)) : Cod cd cs.length (fun j => cs.getD j 0) V := by
  rcases h with ⟨rfl, rfl, rfl, h⟩ | ⟨rfl, rfl, rfl, c, hc, hw⟩
  · rw [n32 (by omega)] at hs
    exact Or.inl ⟨rfl, hs, fun j hj => ⟨by rw [hv j (by omega), low_at _ _ _ hj], by
      have e : cs.getD j 0 = cs[j] := by simp [List.getD_eq_getElem?_getD, hj]
      show ¬ 255 < cs.getD j 0
      rw [e]; exact h _ (List.getElem_mem _)⟩⟩
  · rw [n32 (by omega)] at hs
    obtain ⟨j, hj, rfl⟩ := List.getElem_of_mem hc
    exact Or.inr ⟨rfl, hs, fun j hj => ⟨by rw [hv _ (by omega), wide_lo _ _ _ hj], by rw [hv _ (by omega), wide_hi _ _ _ hj]⟩, j, hj, by
      have e : cs.getD j 0 = cs[j] := by simp [List.getD_eq_getElem?_getD, hj]
      show 255 < cs.getD j 0
      rw [e]; exact hw⟩
/-- an object of exactly java/lang/String, its two fields found: as the laws ask it -/
theorem strObj {Z U : State} {a0 : Array Value} {kI : Nat} (wi : (Jvm.Cond.instantiable ST kI).before a0 Z = true) (al : Z.vm.Alike U.vm) {x : Addr} {v0 c0 : Value} (E : RoadKit.Exa Z U.heap x ST) (V : RoadKit.Fld Z U.heap x ST "value" "[B" v0) (C : RoadKit.Fld Z U.heap x ST "coder" "B" c0) :
    ∃ (D : Cell) (fV fC : Field), Blank ST x D U ∧ Found ST "value" "[B" fV U ∧ Found ST "coder" "B" fC U ∧ D.slots[fV.slot]? = some v0 ∧ D.slots[fC.slot]? = some c0 ∧ RoadKit.slotOf Z ST "value" "[B" = fV.slot ∧ RoadKit.slotOf Z ST "coder" "B" = fC.slot := by
  obtain ⟨D, cfV, kV, iV, fV, hD, gV, stV, knV, obV, asV, slV⟩ := V
  obtain ⟨D', cfC, kC, iC, fC, hD', gC, stC, -, -, asC, slC⟩ := C
  cases hD.symm.trans hD'
  obtain ⟨D2, kD, e1, e2, e3, e4, e5⟩ := E
  cases hD.symm.trans e1
  obtain ⟨c2, k2, i1, i2, i3, -⟩ := Cond.instantiable_spec wi
  cases e2.symm.trans i1
  cases e3.symm.trans i2
  obtain ⟨kU, u1, u2⟩ := al.2.2 _ _ e3
  exact ⟨D, fV, fC, ⟨hD, ⟨knV, fun q hq => by rw [hq] at obV; cases obV⟩, by rw [al.findClass]; exact e2, kU, u1, by rw [u2]; exact i3, by rw [u2]; exact e5 i3⟩, ⟨SBG.found_only al ⟨cfV, kV, iV, gV⟩, stV⟩, ⟨SBG.found_only al ⟨cfC, kC, iC, gC⟩, stC⟩, slV, slC, by simp [RoadKit.slotOf, gV], by simp [RoadKit.slotOf, gC]⟩
theorem sta_is {Z U : State} (al : Z.vm.Alike U.vm) {C n d : String} {v : Value} (S : RoadKit.Sta Z U.heap C n d v) : StaticIs U C n d v := by
  obtain ⟨cfS, iS, kS, fS, st, cS, t1, t2, t3, t4, t5, t6, t7⟩ := S
  exact StaticIs.there (s := { Z with heap := U.heap }) ⟨cfS, iS, kS, fS, st, cS, t1, t2, t3, t4, t5, (fun q => by rw [q] at t6; cases t6), t7⟩ al rfl
/-- **length() OF SUCH A STRING** -/
theorem lenW {p : Program} {l : Launch} {e : Env} {R : Room} {s : State} {args : Array Value} {below : List Frame} {len W : Nat} {Z : State} {a0 : Array Value} {h : Heap} (hZ : Z.Warmed39 s.vm) (hw : ∀ d ∈ wordsLen, d.before a0 Z = true) {kI : Nat} (wi : (Jvm.Cond.instantiable ST kI).before a0 Z = true)
    {x t : Addr} {kb : ClassId} {cs : List Int32} {cd N2 z : Int32} {vs : List Value} (E : RoadKit.Exa Z h x ST) (V : RoadKit.Fld Z h x ST "value" "[B" (.ref t)) (C : RoadKit.Fld Z h x ST "coder" "B" (.int cd)) (K : RoadKit.Arv Z h t kb .byte N2 vs (.int 0)) (hc : CodA cs cd N2 vs) (hb : ∀ c ∈ cs, ¬ c < 0 ∧ ¬ (65535 : Int32) < c)
    (S : RoadKit.Sta Z h ST "COMPACT_STRINGS" "Z" (.int z)) (hz : ¬ z = 0) (l2 : cs.length ≤ 4000) (hfr : 2 ≤ R.frames) (hlo : W + 25 ≤ R.locals) :
    Back l R p e below s args (⟨"java/lang/String", "length", "()I"⟩ : MethodName) len W (fun P a => a = #[.ref x] ∧ P.U.heap = h ∧ P.cells + 0 ≤ R.cells ∧ P.slots + 0 ≤ R.slots)
      (fun P _ v B => ∃ L, (v = some (.int (Int32.ofNat cs.length)) ∧ L = [] ∧ B.U.heap = h) ∧ B.locs = P.locs ++ L ∧ B.cells = P.cells + 0 ∧ B.slots = P.slots + 0) := by
  obtain ⟨A, K1, K2, K3, K4, K5, K6⟩ := K
  have hcod := hc.cod (by omega) K3 K5
  intro m meth c P g ig mk a X hg hsize hdg hW hn hp'
  obtain ⟨rfl, rfl, r1, r2⟩ := hp'
  have al : Z.vm.Alike P.U.vm := hZ.alike.trans X.warmed.alike
  obtain ⟨D, fV, fC, hB, F1, F2, g1, g2, -, -⟩ := strObj wi al E V C
  have hx : Txt x t A cd cs.length (fun j => cs.getD j 0) P.U := ⟨⟨_, hB.2.2.1, D, hB.1, rfl, by cases q : D.vm <;> first | rfl | exact absurd q (hB.2.1.2 _)⟩, Has.of hB F1 g1, Has.of hB F2 g2, ⟨K1.1, State.isArrayOf_alike al K1.2.1, K1.2.2, by rcases hcod with ⟨-, q, -⟩ | ⟨-, q, -⟩ <;> omega⟩, hcod, fun j hj => by
    have e : cs.getD j 0 = cs[j] := by simp [List.getD_eq_getElem?_getD, hj]
    show ¬ cs.getD j 0 < 0 ∧ ¬ 65535 < cs.getD j 0
    rw [e]; exact hb _ (List.getElem_mem _)⟩
  obtain ⟨v, B, X', ⟨⟨hv, hh⟩, hl, hk, hs⟩, st⟩ := Len.pays x t A cd cs.length (fun j => cs.getD j 0) z (tabLen_of (movedLen hZ hw)) hfr hlo m meth c P g ig mk _ X hg hsize hdg hW hn ⟨r1, r2, rfl, hx, sta_is al S, hz⟩
  exact ⟨v, B, X', ⟨[], ⟨hv, rfl, hh⟩, hl, hk, hs⟩, st⟩
end StrChars.Road
namespace StrChars
open Jvm Sem ClassFile Op Lib Jvm.Stand Jvm.Free.XT Jvm.Free.ALB Jvm.Free.JM Jvm.Free
open Jvm.Lib.Cold (StaticIs)
namespace Emp
def yN : MethodName := ⟨"java/lang/String", "isEmpty", "()Z"⟩
abbrev yB : ByteArray := jdk_42_method_55_code
theorem d0 : decode yB 0 = .ok (.aload_n 0, 1) := by decide +kernel
theorem d1 : decode yB 1 = .ok (.getfield 9, 3) := by decide +kernel
theorem d4 : decode yB 4 = .ok (.arraylength, 1) := by decide +kernel
theorem d5 : decode yB 5 = .ok (.ifCond (.ne) 7, 3) := by decide +kernel
theorem d8 : decode yB 8 = .ok (.iconst 1, 1) := by decide +kernel
theorem d9 : decode yB 9 = .ok (.goto 4, 3) := by decide +kernel
theorem d12 : decode yB 12 = .ok (.iconst 0, 1) := by decide +kernel
theorem d13 : decode yB 13 = .ok (.ireturn, 1) := by decide +kernel
def site : List Cond := [.fieldLink "java/lang/String" 9 "java/lang/String" "value" "[B"]
def tab : Cond := tabOf yN yB 1 (some .boolean) site
def P (x t : Addr) (V : Cell) (cd : Int32) (n : Nat) (f : Nat → Int32) (args : Array Value) (s : State) : Prop := args = #[.ref x] ∧ Txt x t V cd n f s
def E (n : Nat) (r : Option Value) (s u : State) : Prop := XT.PureE (some (.int (if n = 0 then 1 else 0))) r s u
/-- isEmpty() of a String of n chars -/
theorem law (l : Launch) (x t : Addr) (V : Cell) (cd : Int32) (n : Nat) (f : Nat → Int32) : Law l yN 1 0 0 0 yB 1 (some .boolean) site (P x t V cd n f) (E n) [] 0 0 := by
  refine Law.of_walk (plainFor_of_name (by decide +kernel)) (by decide +kernel) (by decide +kernel) (by decide) (fun _ _ h => by rw [h.1]; rfl) (fun _ U U' hal hh h => ⟨h.1, h.2.mv hal hh⟩) (fun r U U' V V' h1 hal h2 h => XT.PureE.mv r U U' V V' h1 hal h2 h) ?_
  intro p e s m args below meth c s₁ X0 hexec hbytes hml hret hlk hnm hown hh0 W hP
  obtain ⟨rfl, hx⟩ := hP
  have v31 := hx.2.2.2.1.2.2.2
  have c1 : Steps p.tables e below (s₁.setTop (entryFrame m #[.ref x] 1)) (s₁.setTop (mkF m 1 #[.val (.ref x)] [.ref x])) := Steps.trans (entry rfl) (by
    show Steps p.tables e below (s₁.setTop (mkF m 0 #[.val (.ref x)] [])) _
    refine XS.aloadN X0.here hexec rfl (hb hbytes d0) rfl rfl ?_
    exact Steps.refl _)
  obtain ⟨T2, X2, q2, st2⟩ := X0.hget hexec hown (wk W (.fieldLink "java/lang/String" 9 "java/lang/String" "value" "[B")) (hx.mv X0.warmed.alike hh0).2.1 (g := (mkF m 1 #[.val (.ref x)] [.ref x])) rfl (rest := []) rfl (hb hbytes d1)
  have hh2 := q2.trans hh0
  have hx2 := hx.mv X2.warmed.alike hh2
  have c3 : Steps p.tables e below (s₁.setTop (entryFrame m #[.ref x] 1)) (T2.setTop (mkF m 5 #[.val (.ref x)] [.int (Int32.ofNat V.slots.size)])) := (c1.trans (st2 _ (Steps.refl _))).trans (by
    refine X2.alen hexec hx2.2.2.2.1 rfl rfl (hb hbytes d4) ?_
    exact Steps.refl _)
  have hz : V.slots.size = 0 ↔ n = 0 := by
    rcases hx.2.2.2.2.1 with ⟨-, q, -⟩ | ⟨-, q, -⟩ <;> omega
  by_cases h0 : n = 0
  · have c4 : Steps p.tables e below (s₁.setTop (entryFrame m #[.ref x] 1)) (T2.setTop (mkF m 13 #[.val (.ref x)] [.int 1])) := c3.trans (by
      refine XS.ifNo X2.here hexec rfl (hb hbytes d5) rfl (i0_ne_f (by rw [hz.mpr h0]; rfl)) ?_
      refine iconstV X2.here hexec rfl 1 (hb hbytes d8) (by decide) ?_
      refine XS.goto X2.here hexec rfl (pc0 := 9) rfl (hb hbytes d9) (by decide) rfl ?_
      exact Steps.refl _)
    exact ⟨T2, some (.int 1), _, _, _, X2, rfl, rfl, rfl, (fun h => by cases h), ⟨by rw [if_pos h0], hh2⟩, fun fs hl => c4.trans (X2.ireturnOut hexec hret rfl (Or.inr (Or.inl rfl)) (hb hbytes d13) hl)⟩
  · have c4 : Steps p.tables e below (s₁.setTop (entryFrame m #[.ref x] 1)) (T2.setTop (mkF m 13 #[.val (.ref x)] [.int 0])) := c3.trans (by
      refine XS.ifYes X2.here hexec rfl (pc0 := 5) rfl (hb hbytes d5) rfl (i0_ne_t (nz32 v31 (by omega))) (by decide) rfl ?_
      refine iconstV X2.here hexec rfl 0 (hb hbytes d12) (by decide) ?_
      exact Steps.refl _)
    exact ⟨T2, some (.int 0), _, _, _, X2, rfl, rfl, rfl, (fun h => by cases h), ⟨by rw [if_neg h0], hh2⟩, fun fs hl => c4.trans (X2.ireturnOut hexec hret rfl (Or.inr (Or.inl rfl)) (hb hbytes d13) hl)⟩
theorem pays {l : Launch} {R : Room} {p : Program} {e : Env} {below : List Frame} {s : State} {sargs : Array Value} {len W : Nat} (x t : Addr) (V : Cell) (cd : Int32) (n : Nat) (f : Nat → Int32) (htab : tab.before sargs s = true) (hfr : 1 ≤ R.frames) (hlo : W + 12 ≤ R.locals) :
    Back l R p e below s sargs yN len W (fun A₁ a₁ => A₁.cells + 0 ≤ R.cells ∧ A₁.slots + 0 ≤ R.slots ∧ P x t V cd n f a₁ A₁.U) (fun A₁ _ v₁ B₁ => E n v₁ A₁.U B₁.U ∧ B₁.locs = A₁.locs ++ [] ∧ B₁.cells = A₁.cells + 0 ∧ B₁.slots = A₁.slots + 0) :=
  (law l x t V cd n f).pays htab hfr (by omega)
end Emp
end StrChars
namespace StrChars.Road
open Jvm Sem ClassFile Op Lib Jvm.Stand Jvm.Free Jvm.Free.XT
open Jvm.Lib.Cold (StaticIs)
/-- the words of String.isEmpty() -/
abbrev wordsEmp : List Jvm.Cond := [.code Emp.yN Emp.yB 1 (some .boolean), .initialized ST, .fieldLink ST 9 ST "value" "[B"]
theorem tabEmp_of {a : Array Value} {s : State} (h : ∀ w ∈ wordsEmp, w.before a s = true) : Emp.tab.before a s = true := unparts (wk h (.code Emp.yN Emp.yB 1 (some .boolean))) (wks h (.initialized Emp.yN.cls :: Emp.site))
theorem movedEmp {Z s : State} {a0 args : Array Value} (hZ : Z.Warmed39 s.vm) (hw : ∀ d ∈ wordsEmp, d.before a0 Z = true) : ∀ d ∈ wordsEmp, d.before args s = true := fun d hd => by
  have t : ∀ d ∈ wordsEmp, (d.onTables && d.keepsFace) = true := by decide +kernel
  exact RoadKit.mv hZ (hw d hd) (t d hd)
/-- the road's facts of a String, as the laws ask it -/
theorem txt_of {Z U : State} {a0 : Array Value} {kI : Nat} (wi : (Jvm.Cond.instantiable ST kI).before a0 Z = true) (al : Z.vm.Alike U.vm) {x t : Addr} {kb : ClassId} {cs : List Int32} {cd N2 : Int32} {vs : List Value} (E : RoadKit.Exa Z U.heap x ST) (V : RoadKit.Fld Z U.heap x ST "value" "[B" (.ref t)) (C : RoadKit.Fld Z U.heap x ST "coder" "B" (.int cd)) (K : RoadKit.Arv Z U.heap t kb .byte N2 vs (.int 0)) (hc : CodA cs cd N2 vs) (hb : ∀ c ∈ cs, ¬ c < 0 ∧ ¬ (65535 : Int32) < c) (l2 : cs.length ≤ 4000) :
    ∃ A, Txt x t A cd cs.length (fun j => cs.getD j 0) U := by
  obtain ⟨A, K1, K2, K3, K4, K5, K6⟩ := K
  have hcod := hc.cod (by omega) K3 K5
  obtain ⟨D, fV, fC, hB, F1, F2, g1, g2, -, -⟩ := strObj wi al E V C
  exact ⟨A, ⟨_, hB.2.2.1, D, hB.1, rfl, by cases q : D.vm <;> first | rfl | exact absurd q (hB.2.1.2 _)⟩, Has.of hB F1 g1, Has.of hB F2 g2, ⟨K1.1, State.isArrayOf_alike al K1.2.1, K1.2.2, by rcases hcod with ⟨-, q, -⟩ | ⟨-, q, -⟩ <;> omega⟩, hcod, fun j hj => by
    have e : cs.getD j 0 = cs[j] := by simp [List.getD_eq_getElem?_getD, hj]
    show ¬ cs.getD j 0 < 0 ∧ ¬ 65535 < cs.getD j 0
    rw [e]; exact hb _ (List.getElem_mem _)⟩
/-- **isEmpty() OF SUCH A STRING** -/
theorem empW {p : Program} {l : Launch} {e : Env} {R : Room} {s : State} {args : Array Value} {below : List Frame} {len W : Nat} {Z : State} {a0 : Array Value} {h : Heap} (hZ : Z.Warmed39 s.vm) (hw : ∀ d ∈ wordsEmp, d.before a0 Z = true) {kI : Nat} (wi : (Jvm.Cond.instantiable ST kI).before a0 Z = true)
    {x t : Addr} {kb : ClassId} {cs : List Int32} {cd N2 : Int32} {vs : List Value} (E : RoadKit.Exa Z h x ST) (V : RoadKit.Fld Z h x ST "value" "[B" (.ref t)) (C : RoadKit.Fld Z h x ST "coder" "B" (.int cd)) (K : RoadKit.Arv Z h t kb .byte N2 vs (.int 0)) (hc : CodA cs cd N2 vs) (hb : ∀ c ∈ cs, ¬ c < 0 ∧ ¬ (65535 : Int32) < c) (l2 : cs.length ≤ 4000) (hfr : 1 ≤ R.frames) (hlo : W + 12 ≤ R.locals) :
    Back l R p e below s args (⟨"java/lang/String", "isEmpty", "()Z"⟩ : MethodName) len W (fun P a => a = #[.ref x] ∧ P.U.heap = h ∧ P.cells + 0 ≤ R.cells ∧ P.slots + 0 ≤ R.slots)
      (fun P _ v B => ∃ L, (v = some (.int (if cs.length = 0 then 1 else 0)) ∧ L = [] ∧ B.U.heap = h) ∧ B.locs = P.locs ++ L ∧ B.cells = P.cells + 0 ∧ B.slots = P.slots + 0) := by
  intro m meth c P g ig mk a X hg hsize hdg hW hn hp'
  obtain ⟨rfl, rfl, r1, r2⟩ := hp'
  have al : Z.vm.Alike P.U.vm := hZ.alike.trans X.warmed.alike
  obtain ⟨A, hx⟩ := txt_of wi al E V C K hc hb l2
  obtain ⟨v, B, X', ⟨⟨hv, hh⟩, hl, hk, hs⟩, st⟩ := Emp.pays x t A cd cs.length (fun j => cs.getD j 0) (tabEmp_of (movedEmp hZ hw)) hfr hlo m meth c P g ig mk _ X hg hsize hdg hW hn ⟨r1, r2, rfl, hx⟩
  exact ⟨v, B, X', ⟨[], ⟨hv, rfl, hh⟩, hl, hk, hs⟩, st⟩
end StrChars.Road
namespace StrChars
open Jvm Sem ClassFile Op Lib Jvm.Stand Jvm.Free.XT Jvm.Free.ALB Jvm.Free.JM Jvm.Free
open Jvm.Lib.Cold (StaticIs)
namespace ChN
def yN : MethodName := ⟨"java/lang/String", "charAt", "(I)C"⟩
abbrev yB : ByteArray := jdk_42_method_56_code
theorem d0 : decode yB 0 = .ok (.aload_n 0, 1) := by decide +kernel
theorem d1 : decode yB 1 = .ok (.invokevirtual 492, 3) := by decide +kernel
theorem d4 : decode yB 4 = .ok (.ifCond (.eq) 12, 3) := by decide +kernel
theorem d7 : decode yB 7 = .ok (.aload_n 0, 1) := by decide +kernel
theorem d8 : decode yB 8 = .ok (.getfield 9, 3) := by decide +kernel
theorem d11 : decode yB 11 = .ok (.iload_n 1, 1) := by decide +kernel
theorem d12 : decode yB 12 = .ok (.invokestatic 495, 3) := by decide +kernel
theorem d15 : decode yB 15 = .ok (.ireturn, 1) := by decide +kernel
def site : List Cond := [.fieldLink "java/lang/String" 9 "java/lang/String" "value" "[B", IsL.tab, LChA.tab] ++ virtW "java/lang/String" 492 "java/lang/String" IsL.yN IsL.yN ++ staticW "java/lang/String" 495 LChA.yN
def tab : Cond := tabOf yN yB 2 (some .char) site
def P (x t : Addr) (V : Cell) (n : Nat) (f : Nat → Int32) (z : Int32) (fm : Value) (i : Nat) (args : Array Value) (s : State) : Prop := args = #[.ref x, .int (Int32.ofNat i)] ∧ Txt x t V 0 n f s ∧ i < n ∧ StaticIs s "java/lang/String" "COMPACT_STRINGS" "Z" (.int z) ∧ ¬ z = 0 ∧ StaticIs s "jdk/internal/util/Preconditions" "SIOOBE_FORMATTER" "Ljava/util/function/BiFunction;" fm ∧ fm.isRef = true
def E (f : Nat → Int32) (i : Nat) (r : Option Value) (s u : State) : Prop := XT.PureE (some (.int (f i))) r s u
/-- charAt(i) of a Latin-1 String of n chars, i < n: f i -/
theorem law (l : Launch) (x t : Addr) (V : Cell) (n : Nat) (f : Nat → Int32) (z : Int32) (fm : Value) (i : Nat) : Law l yN 2 1 3 40 yB 2 (some .char) site (P x t V n f z fm i) (E f i) [] 0 0 := by
  refine Law.of_walk (plainFor_of_name (by decide +kernel)) (by decide +kernel) (by decide +kernel) (by decide) (fun _ _ h => by rw [h.1]; rfl) (fun _ U U' hal hh h => ⟨h.1, h.2.1.mv hal hh, h.2.2.1, h.2.2.2.1.there hal hh, h.2.2.2.2.1, h.2.2.2.2.2.1.there hal hh, h.2.2.2.2.2.2⟩) (fun r U U' V V' h1 hal h2 h => XT.PureE.mv r U U' V V' h1 hal h2 h) ?_
  intro p e s m args below meth c s₁ X0 hexec hbytes hml hret hlk hnm hown hh0 W hP
  obtain ⟨rfl, hx, hi, s1, hz, s3, rf⟩ := hP
  have v31 := hx.2.2.2.1.2.2.2
  have hr := hx.2.2.2.2.2 i hi
  have hx0 := hx.mv X0.warmed.alike hh0
  have c1 : Steps p.tables e below (s₁.setTop (entryFrame m #[.ref x, .int (Int32.ofNat i)] 2)) (s₁.setTop (mkF m 1 #[.val (.ref x), .val (.int (Int32.ofNat i))] [.ref x])) := Steps.trans (entry rfl) (by
    show Steps p.tables e below (s₁.setTop (mkF m 0 #[.val (.ref x), .val (.int (Int32.ofNat i))] [])) _
    refine XS.aloadN X0.here hexec rfl (hb hbytes d0) rfl rfl ?_
    exact Steps.refl _)
  obtain ⟨v2, T2, X2, E2, g2⟩ := X0.callV hexec (IsL.law l x 0 z) hown (wks W (virtW "java/lang/String" 492 "java/lang/String" IsL.yN IsL.yN)) rfl (by decide) (wk W IsL.tab) (W := 0) (Nat.le_of_ble_eq_true rfl) (Nat.le_of_ble_eq_true rfl) (Nat.le_refl _) (Nat.le_refl _) (hx0.1.fc X0.warmed.alike) hx0.1.is (g := (mkF m 1 #[.val (.ref x), .val (.int (Int32.ofNat i))] [.ref x])) rfl (by rw [hml]; rfl) c1 (argsL := []) (rest := []) rfl rfl (by show 2 * 0 + 0 ≤ _; decide) (hb hbytes d1) (⟨rfl, hx0.2.2.1, hx.2.2.2.2.1.cd, s1.there X0.warmed.alike hh0, hz⟩)
  obtain ⟨rfl, q2⟩ := E2
  have hh2 := q2.trans hh0
  have hx2 := hx.mv X2.warmed.alike hh2
  obtain ⟨-, k1, k2⟩ | ⟨k0, -⟩ := hx.2.2.2.2.1
  · have c3 : Steps p.tables e below (s₁.setTop (entryFrame m #[.ref x, .int (Int32.ofNat i)] 2)) (T2.setTop (mkF m 8 #[.val (.ref x), .val (.int (Int32.ofNat i))] [.ref x])) := Steps.trans g2 (by
      refine XS.ifNo X2.here hexec rfl (hb hbytes d4) rfl (i0_eq_f (by decide)) ?_
      refine XS.aloadN X2.here hexec rfl (hb hbytes d7) rfl rfl ?_
      exact Steps.refl _)
    obtain ⟨T4, X4, q4, st4⟩ := X2.hget hexec hown (wk W (.fieldLink "java/lang/String" 9 "java/lang/String" "value" "[B")) hx2.2.1 (g := (mkF m 8 #[.val (.ref x), .val (.int (Int32.ofNat i))] [.ref x])) rfl (rest := []) rfl (hb hbytes d8)
    have hh4 := q4.trans hh2
    have c5 : Steps p.tables e below (s₁.setTop (entryFrame m #[.ref x, .int (Int32.ofNat i)] 2)) (T4.setTop (mkF m 12 #[.val (.ref x), .val (.int (Int32.ofNat i))] [.int (Int32.ofNat i), .ref t])) := (c3.trans (st4 _ (Steps.refl _))).trans (by
      refine XS.iloadN X4.here hexec rfl (hb hbytes d11) rfl ?_
      exact Steps.refl _)
    obtain ⟨v6, T6, X6, E6, g6⟩ := X4.callS hexec (LChA.law l t V i (lo8 (f i)) fm) hown (wks W (staticW "java/lang/String" 495 LChA.yN)) (wk W LChA.tab) (W := 0) (Nat.le_of_ble_eq_true rfl) (Nat.le_of_ble_eq_true rfl) (Nat.le_refl _) (Nat.le_refl _) (g := (mkF m 12 #[.val (.ref x), .val (.int (Int32.ofNat i))] [.int (Int32.ofNat i), .ref t])) rfl (by rw [hml]; rfl) c5 (argsL := [.ref t, .int (Int32.ofNat i)]) (rest := []) rfl rfl (by show 2 * 0 + 0 ≤ _; decide) (hb hbytes d12) (⟨rfl, hx.2.2.2.1.mv X4.warmed.alike hh4, (k2 i hi).1, s3.there X4.warmed.alike hh4, rf⟩)
    obtain ⟨rfl, q6⟩ := E6
    rw [chr8_lo8 hr.1 (k2 i hi).2] at g6
    exact ⟨T6, some (.int (f i)), _, _, _, X6, rfl, rfl, rfl, (fun h => by cases h), ⟨rfl, q6.trans hh4⟩, fun fs hl => Steps.trans g6 (X6.ireturnOut hexec hret (narrow_ch hr.1 hr.2) (Or.inr (Or.inr (Or.inr (Or.inl rfl)))) (hb hbytes d15) hl)⟩
  · exact absurd k0 (by decide)
theorem pays {l : Launch} {R : Room} {p : Program} {e : Env} {below : List Frame} {s : State} {sargs : Array Value} {len W : Nat} (x t : Addr) (V : Cell) (n : Nat) (f : Nat → Int32) (z : Int32) (fm : Value) (i : Nat) (htab : tab.before sargs s = true) (hfr : 4 ≤ R.frames) (hlo : W + 53 ≤ R.locals) :
    Back l R p e below s sargs yN len W (fun A₁ a₁ => A₁.cells + 0 ≤ R.cells ∧ A₁.slots + 0 ≤ R.slots ∧ P x t V n f z fm i a₁ A₁.U) (fun A₁ _ v₁ B₁ => E f i v₁ A₁.U B₁.U ∧ B₁.locs = A₁.locs ++ [] ∧ B₁.cells = A₁.cells + 0 ∧ B₁.slots = A₁.slots + 0) :=
  (law l x t V n f z fm i).pays htab hfr (by omega)
end ChN
end StrChars
namespace StrChars.Road
open Jvm Sem ClassFile Op Lib Jvm.Stand Jvm.Free Jvm.Free.XT
open Jvm.Lib.Cold (StaticIs)
/-- the words of String.charAt(int), the Latin-1 road alone -/
abbrev wordsChN : List Jvm.Cond := [.code ChN.yN ChN.yB 2 (some .char), .initialized ST, .fieldLink ST 9 ST "value" "[B", .fieldLink ST 38 ST "COMPACT_STRINGS" "Z", .fieldLink ST 15 ST "coder" "B", .code IsL.yN IsL.yB 1 (some .boolean), .methodLink ST 492 IsL.yN, .declares IsL.yN, .selects ST IsL.yN IsL.yN, .instanceMethod IsL.yN,
  .methodLink ST 495 LChA.yN, .static LChA.yN, .code LChA.yN LChA.yB 2 (some .char), .initialized "java/lang/StringLatin1", .methodLink "java/lang/StringLatin1" 9 JO.Str_checkIndex.yN, .static JO.Str_checkIndex.yN, .code JO.Str_checkIndex.yN JO.Str_checkIndex.yB 2 none,
  .fieldLink ST 1053 "jdk/internal/util/Preconditions" "SIOOBE_FORMATTER" "Ljava/util/function/BiFunction;", .methodLink ST 1059 JC.PreCheck.yN, .static JC.PreCheck.yN, .code JC.PreCheck.yN JC.PreCheck.yB 3 (some .int), .initialized "jdk/internal/util/Preconditions"]
theorem tabChN_of {a : Array Value} {s : State} (h : ∀ w ∈ wordsChN, w.before a s = true) : ChN.tab.before a s = true := by
  have hp : JC.PreCheck.tab.before a s = true := unparts (wk h (.code JC.PreCheck.yN JC.PreCheck.yB 3 (some .int))) (wks h (.initialized JC.PreCheck.yN.cls :: JC.PreCheck.site))
  have qk := consq hp h
  have hk : JO.Str_checkIndex.tab.before a s = true := unparts (wk qk (.code JO.Str_checkIndex.yN JO.Str_checkIndex.yB 2 none)) (wks qk (.initialized JO.Str_checkIndex.yN.cls :: JO.Str_checkIndex.site))
  have ql := consq hk h
  have hl : LChA.tab.before a s = true := unparts (wk ql (.code LChA.yN LChA.yB 2 (some .char))) (wks ql (.initialized LChA.yN.cls :: LChA.site))
  have hi : IsL.tab.before a s = true := unparts (wk h (.code IsL.yN IsL.yB 1 (some .boolean))) (wks h (.initialized IsL.yN.cls :: IsL.site))
  have q := consq hi (consq hl h)
  exact unparts (wk q (.code ChN.yN ChN.yB 2 (some .char))) (wks q (.initialized ChN.yN.cls :: ChN.site))
theorem movedChN {Z s : State} {a0 args : Array Value} (hZ : Z.Warmed39 s.vm) (hw : ∀ d ∈ wordsChN, d.before a0 Z = true) : ∀ d ∈ wordsChN, d.before args s = true := fun d hd => by
  have t : ∀ d ∈ wordsChN, (d.onTables && d.keepsFace) = true := by decide +kernel
  exact RoadKit.mv hZ (hw d hd) (t d hd)
/-- **charAt(i) OF A LATIN-1 STRING**, i < n: the char -/
theorem chN {p : Program} {l : Launch} {e : Env} {R : Room} {s : State} {args : Array Value} {below : List Frame} {len W : Nat} {Z : State} {a0 : Array Value} {h : Heap} (hZ : Z.Warmed39 s.vm) (hw : ∀ d ∈ wordsChN, d.before a0 Z = true) {kI : Nat} (wi : (Jvm.Cond.instantiable ST kI).before a0 Z = true)
    {x t : Addr} {kb : ClassId} {cs : List Int32} {N2 z : Int32} {vs : List Value} {fm : Value} {i : Nat} {j : Int32} (E : RoadKit.Exa Z h x ST) (V : RoadKit.Fld Z h x ST "value" "[B" (.ref t)) (C : RoadKit.Fld Z h x ST "coder" "B" (.int 0)) (K : RoadKit.Arv Z h t kb .byte N2 vs (.int 0)) (hc : CodA cs 0 N2 vs) (hb : ∀ c ∈ cs, ¬ c < 0 ∧ ¬ (65535 : Int32) < c)
    (S : RoadKit.Sta Z h ST "COMPACT_STRINGS" "Z" (.int z)) (hz : ¬ z = 0) (F : RoadKit.Sta Z h "jdk/internal/util/Preconditions" "SIOOBE_FORMATTER" "Ljava/util/function/BiFunction;" fm) (rf : fm.isRef = true) (l2 : cs.length ≤ 4000) (hi : i < cs.length) (hj : j = Int32.ofNat i) (hfr : 4 ≤ R.frames) (hlo : W + 53 ≤ R.locals) :
    Back l R p e below s args (⟨"java/lang/String", "charAt", "(I)C"⟩ : MethodName) len W (fun P a => a = #[.ref x, .int j] ∧ P.U.heap = h ∧ P.cells + 0 ≤ R.cells ∧ P.slots + 0 ≤ R.slots)
      (fun P _ v B => ∃ L, (v = some (.int (cs.getD i 0)) ∧ L = [] ∧ B.U.heap = h) ∧ B.locs = P.locs ++ L ∧ B.cells = P.cells + 0 ∧ B.slots = P.slots + 0) := by
  subst hj
  intro m meth c P g ig mk a X hg hsize hdg hW hn hp'
  obtain ⟨rfl, rfl, r1, r2⟩ := hp'
  have al : Z.vm.Alike P.U.vm := hZ.alike.trans X.warmed.alike
  obtain ⟨A, hx⟩ := txt_of wi al E V C K hc hb l2
  obtain ⟨v, B, X', ⟨⟨hv, hh⟩, hl, hk, hs⟩, st⟩ := ChN.pays x t A cs.length (fun j => cs.getD j 0) z fm i (tabChN_of (movedChN hZ hw)) hfr hlo m meth c P g ig mk _ X hg hsize hdg hW hn ⟨r1, r2, rfl, hx, hi, sta_is al S, hz, sta_is al F, rf⟩
  exact ⟨v, B, X', ⟨[], ⟨hv, rfl, hh⟩, hl, hk, hs⟩, st⟩
/-- what backV says of its String, as the contracts of this text ask it: cs's low bytes, coder 0 -/
theorem codOf {cs : List Int32} {n : Nat} (hn : cs.length = n) (hb : ∀ c ∈ cs, ¬ 255 < c) : CodA cs 0 (Int32.ofNat n) ((cs.map lo8).map Value.int) := Or.inl ⟨rfl, by rw [hn], by simp [List.map_map, Function.comp_def], hb⟩
end StrChars.Road
end Jvm.Pilot.@@N@@

namespace Jvm.Pilot.@@N@@
open Jvm Jvm.ClassFile Sem Op Lib Jvm.Free Jvm.Stand Jvm.LawKit Jvm.RoadKit Bundle Jvm.Pilot.@@N@@.Jvm.D
theorem own_w {Z : State} {a0 : Array Value} (hw : ∀ d ∈ tables_1, d.before a0 Z = true) (i : Nat) {d : Jvm.Cond} (h : tables_1[i]? = some d) : d.before a0 Z = true := hw _ (List.mem_of_getElem? h)
/-! own layer: a body's rest as one predicate (OFin), a contract (OMet), calls that give the plain facts back -/
def OFin (p : Program) (e : Env) (below : List Frame) (s : State) (kc ks : Nat) (Q : Option Value → Heap → List Loc → Prop) (S : State) : Prop :=
  ∃ s₂ o, Steps p.tables e below S s₂ ∧ s₂.status = .running ∧ Ended s₂ below o ∧ ∃ v L, o = .returned v ∧ Q v s₂.heap L ∧ FrameEnd s o s₂ L kc ks
def OMet (l : Launch) (Z : State) (y : MethodName) (bytes : ByteArray) (maxL : Nat) (ret : Option FieldType) (rm : Room) (as' : Array Value) (h0 : Heap) (Q : Option Value → Heap → List Loc → Prop) : Prop :=
  ∀ ws : List Jvm.Cond, MetFree l y (head1 (Jvm.Cond.code y bytes maxL ret :: ws) rm) (fun a U => a = as' ∧ Z.Warmed39 U.vm ∧ U.heap = h0) (fun _ _ _ _ _ => True) (fun _ U o U' => ∃ v L, o = .returned v ∧ Q v U'.heap L ∧ FrameEnd U o U' L rm.cells rm.slots)
def OCtx (Z : State) (p : Program) (s : State) (m : MethodId) (meth : Method) (c : Code) (cls nam : String) (bytes : ByteArray) (maxL : Nat) (ret : Option FieldType) : Prop :=
  p.tables.exec = Jvm.exec ∧ Z.Warmed39 s.vm ∧ c.code = bytes ∧ c.maxLocals = maxL ∧ s.vm.findClass cls = some m.cls ∧ meth.sig.returnType = ret ∧ meth.locks = false ∧ meth.name = nam
section OwnLayer
variable {p : Program} {l : Launch} {e : Env} {R : Room} {s : State} {m : MethodId} {args : Array Value} {below : List Frame} {meth : Method} {c : Code} {T : State} {locs : List Loc} {cells slots : Nat} {Z : State} {a0 : Array Value} {h : Heap}
variable {kc ks : Nat} {Q : Option Value → Heap → List Loc → Prop}
theorem own_st {A B : State} (hs : ∀ t, Steps p.tables e below B t → Steps p.tables e below A t) (k : OFin p e below s kc ks Q B) : OFin p e below s kc ks Q A := by
  obtain ⟨s₂, o, h1, r⟩ := k; exact ⟨s₂, o, hs _ h1, r⟩
theorem own_at {g g' : JFrame} (q : g = g') (k : OFin p e below s kc ks Q (T.setTop g')) : OFin p e below s kc ks Q (T.setTop g) := q ▸ k
theorem own_mono {Q' : Option Value → Heap → List Loc → Prop} {S : State} (k : OFin p e below s kc ks Q S) (q : ∀ v h L, Q v h L → Q' v h L) : OFin p e below s kc ks Q' S := by
  obtain ⟨s₂, o, h1, h2, h3, v, L, h4, h5, h6⟩ := k; exact ⟨s₂, o, h1, h2, h3, v, L, h4, q _ _ _ h5, h6⟩
theorem own_enter {y : MethodName} {bytes : ByteArray} {maxL : Nat} {ret : Option FieldType} {rm : Room} {as' : Array Value} {h0 : Heap} (hp : plainFor y = true)
    (hB : ∀ (p : Program) (e : Env) (s : State) (m : MethodId) (below : List Frame) (meth : Method) (c : Code) (T : State), Stand p l e rm s m as' below meth c T [] 0 0 → OCtx Z p s m meth c y.cls y.name bytes maxL ret → T.heap = h0 → OFin p e below s rm.cells rm.slots Q (T.setTop (entryFrame m as' maxL))) :
    OMet l Z y bytes maxL ret rm as' h0 Q := by
  intro ws
  refine MetFree.of_bodySF hp hisR ?_
  intro p e s m args below meth c s₁ Bd hml0 hP hK
  obtain ⟨rfl, hZ, hh⟩ := hP
  exact hB p e s m below meth c s₁ (Stand.of_body Bd) ⟨Bd.exec, hZ, Bd.bytes, hml0, findClass_of_methodNamed Bd.named, Bd.returns, BodyLoose.notSynchronized Bd, (name_of_methodNamed Bd.named Bd.method).1⟩ (by rw [← hh, Bd.state]; rfl)
theorem own_ret (X : Stand p l e R s m args below meth c T locs cells slots) (hx : p.tables.exec = Jvm.exec) {t : FieldType} (hret : meth.sig.returnType = some t) (hlk : meth.locks = false) {pc : Nat} {Ls : Array Slot} {w : Value} {i : Instr} {rest : List Value} (hn : narrow t w = w)
    (hi : (i = .ireturn ∧ (t = .int ∨ t = .boolean ∨ t = .byte ∨ t = .char ∨ t = .short) ∧ ∃ z, w = .int z) ∨ (i = .lreturn ∧ t = .long ∧ ∃ z, w = .long z) ∨ (i = .dreturn ∧ t = .double ∧ ∃ z, w = .double z) ∨ (i = .freturn ∧ t = .float ∧ ∃ z, w = .float z) ∨ (i = .areturn ∧ t.isReference = true ∧ w.isRef = true))
    (hd : decode c.code pc = .ok (i, 1)) (hc : cells ≤ kc) (hs : slots ≤ ks) (hq : Q (some w) T.heap locs) : OFin p e below s kc ks Q (T.setTop (mkF m pc Ls (w :: rest))) := by
  obtain ⟨fs, hr, hrun, hended, hW, hsame⟩ := X.leave (v := some w) (fun h => by rw [hret] at h; cases h) hlk
  exact ⟨_, _, retOut X hx hret hn hi hd hr, hrun, hended, _, _, rfl, hq, ⟨_, rfl⟩, hW, hsame.mono hc hs⟩
theorem own_retV (X : Stand p l e R s m args below meth c T locs cells slots) (hx : p.tables.exec = Jvm.exec) (hret : meth.sig.returnType = none) (hlk : meth.locks = false) {pc : Nat} {Ls : Array Slot}
    (hd : decode c.code pc = .ok (.return_, 1)) (hc : cells ≤ kc) (hs : slots ≤ ks) (hq : Q none T.heap locs) : OFin p e below s kc ks Q (T.setTop (mkF m pc Ls [])) := by
  obtain ⟨fs, hr, hrun, hended, hW, hsame⟩ := X.leave (v := none) (fun _ => rfl) hlk
  exact ⟨_, _, X.returnOut hx hret hd hr, hrun, hended, _, _, rfl, hq, ⟨_, rfl⟩, hW, hsame.mono hc hs⟩
theorem own_back {y : MethodName} {bytes : ByteArray} {maxL : Nat} {ret : Option FieldType} {rm : Room} {len W : Nat} {as' : Array Value} (hM : OMet l Z y bytes maxL ret rm as' h Q) (hZ : Z.Warmed39 s.vm) (wc : (Jvm.Cond.code y bytes maxL ret).before a0 Z = true) (wz : (Jvm.Cond.initialized y.cls).before a0 Z = true) (hf : rm.frames + 1 ≤ R.frames) (hl : W + (maxL + 11) + rm.locals ≤ R.locals) :
    Back l R p e below s args y len W (fun A a => a = as' ∧ A.U.heap = h ∧ A.cells + rm.cells ≤ R.cells ∧ A.slots + rm.slots ≤ R.slots)
      (fun A _ v B => ∃ L, Q v B.U.heap L ∧ B.locs = A.locs ++ L ∧ B.cells = A.cells + rm.cells ∧ B.slots = A.slots + rm.slots) := backOf (hM []) hZ wc wz hf hl
theorem own_static (X : Stand p l e R s m args below meth c T locs cells slots) (hx : p.tables.exec = Jvm.exec) (hZ : Z.Warmed39 s.vm) {own : String} {index : Nat} {y : MethodName} {bytes : ByteArray} {maxL : Nat} {ret : Option FieldType} {rm : Room} {W : Nat} {argsL rest : List Value}
    (hown : s.vm.findClass own = some m.cls) (w1 : (Jvm.Cond.methodLink own index y).before a0 Z = true) (w2 : (Jvm.Cond.static y).before a0 Z = true) (wz : (Jvm.Cond.initialized y.cls).before a0 Z = true) (wc : (Jvm.Cond.code y bytes maxL ret).before a0 Z = true)
    (hM : OMet l Z y bytes maxL ret rm argsL.toArray h Q) (eT : T.heap = h) {g : JFrame} (hg : g.method = m) (hsize : g.locals.size = c.maxLocals) (hlen : ∀ sig, parseMethodDescriptor y.desc = some sig → argsL.length = sig.parameters.length)
    (hstack : g.stack = argsL.reverse ++ rest) (hW : 2 * g.monitorRoom + (rest.map fun v => v.category).sum ≤ W) (hdg : decode c.code g.pc = .ok (.invokestatic index, 3))
    (hf : rm.frames + 1 ≤ R.frames) (hl : W + (maxL + 11) + rm.locals ≤ R.locals) (hc : cells + rm.cells ≤ R.cells) (hs : slots + rm.slots ≤ R.slots)
    (hy : y.cls ≠ "java/lang/invoke/MethodHandle" ∧ y.cls ≠ "java/lang/invoke/VarHandle" := by decide) :
    ∃ (v : Option Value) (T' : State) (L : List Loc), Stand p l e R s m args below meth c T' (locs ++ L) (cells + rm.cells) (slots + rm.slots) ∧ Q v T'.heap L ∧
      ∀ target, Steps p.tables e below (T'.setTop { g with pc := g.pc + 3, stack := v.toList ++ rest }) target → Steps p.tables e below (T.setTop g) target := by
  obtain ⟨v, vm₁, ⟨T', L', k', n'⟩, -, X', ⟨L, hQ, l1, y1, z1⟩, st⟩ := Jvm.LawKit.callS X hx hown (mvT hZ w1) (mvT hZ w2) (mvT hZ wz) (mvT hZ wc) hy (own_back (W := W) hM hZ wc wz hf hl) hg hsize hlen hstack hW hdg (fun _ _ => ⟨rfl, eT, hc, hs⟩)
  dsimp only [Pt.U, Pt.locs, Pt.cells, Pt.slots] at X' l1 y1 z1 st hQ
  subst l1 y1 z1
  exact ⟨v, T', L, X', hQ, st⟩
theorem own_init (X : Stand p l e R s m args below meth c T locs cells slots) (hx : p.tables.exec = Jvm.exec) (hZ : Z.Warmed39 s.vm) {own : String} {index : Nat} {y : MethodName} {bytes : ByteArray} {maxL : Nat} {rm : Room} {W : Nat} {a : Addr} {argsL rest : List Value} (hy1 : y.name = "<init>")
    (hown : s.vm.findClass own = some m.cls) (w1 : (Jvm.Cond.methodLink own index y).before a0 Z = true) (w2 : (Jvm.Cond.instanceMethod y).before a0 Z = true) (wz : (Jvm.Cond.initialized y.cls).before a0 Z = true) (wc : (Jvm.Cond.code y bytes maxL none).before a0 Z = true)
    (hM : OMet l Z y bytes maxL none rm (.ref a :: argsL).toArray h Q) (eT : T.heap = h) {g : JFrame} (hg : g.method = m) (hsize : g.locals.size = c.maxLocals) (hlen : ∀ sig, parseMethodDescriptor y.desc = some sig → argsL.length = sig.parameters.length)
    (hstack : g.stack = argsL.reverse ++ .ref a :: rest) (hW : 2 * g.monitorRoom + (rest.map fun v => v.category).sum ≤ W) (hdg : decode c.code g.pc = .ok (.invokespecial index, 3))
    (hf : rm.frames + 1 ≤ R.frames) (hl : W + (maxL + 11) + rm.locals ≤ R.locals) (hc : cells + rm.cells ≤ R.cells) (hs : slots + rm.slots ≤ R.slots)
    (hy : y.cls ≠ "java/lang/invoke/MethodHandle" ∧ y.cls ≠ "java/lang/invoke/VarHandle" := by decide) :
    ∃ (v : Option Value) (T' : State) (L : List Loc), Stand p l e R s m args below meth c T' (locs ++ L) (cells + rm.cells) (slots + rm.slots) ∧ Q v T'.heap L ∧
      ∀ target, Steps p.tables e below (T'.setTop { g with pc := g.pc + 3, stack := v.toList ++ rest }) target → Steps p.tables e below (T.setTop g) target := by
  obtain ⟨v, vm₁, ⟨T', L', k', n'⟩, -, X', ⟨L, hQ, l1, y1, z1⟩, st⟩ := X.specialBack hx hy1 hown (mvT hZ w1) (mvT hZ w2) (mvT hZ wc) hy (own_back (W := W) hM hZ wc wz hf hl) hg hsize (Steps.refl _) hlen hstack hW hdg (fun _ _ => ⟨rfl, eT, hc, hs⟩)
  dsimp only [Pt.U, Pt.locs, Pt.cells, Pt.slots] at X' l1 y1 z1 st hQ
  subst l1 y1 z1
  exact ⟨v, T', L, X', hQ, fun t k => st.trans k⟩
theorem own_virtual (X : Stand p l e R s m args below meth c T locs cells slots) (hx : p.tables.exec = Jvm.exec) (hZ : Z.Warmed39 s.vm) {own C : String} {index : Nat} {y z : MethodName} {bytes : ByteArray} {maxL : Nat} {ret : Option FieldType} {rm : Room} {W : Nat} {a : Addr} {argsL rest : List Value}
    (hown : s.vm.findClass own = some m.cls) (w1 : (Jvm.Cond.methodLink own index y).before a0 Z = true) (w2 : (Jvm.Cond.declares y).before a0 Z = true) (hnf : NotFace s y) (w3 : (Jvm.Cond.selects C y z).before a0 Z = true) (w4 : (Jvm.Cond.instanceMethod z).before a0 Z = true) (wz : (Jvm.Cond.initialized z.cls).before a0 Z = true) (wc : (Jvm.Cond.code z bytes maxL ret).before a0 Z = true)
    (hM : OMet l Z z bytes maxL ret rm (.ref a :: argsL).toArray h Q) (eT : T.heap = h) (E : Exa Z h a C) {g : JFrame} (hg : g.method = m) (hsize : g.locals.size = c.maxLocals) (hlen : ∀ sig, parseMethodDescriptor y.desc = some sig → argsL.length = sig.parameters.length)
    (hstack : g.stack = argsL.reverse ++ .ref a :: rest) (hW : 2 * g.monitorRoom + (rest.map fun v => v.category).sum ≤ W) (hdg : decode c.code g.pc = .ok (.invokevirtual index, 3))
    (hf : rm.frames + 1 ≤ R.frames) (hl : W + (maxL + 11) + rm.locals ≤ R.locals) (hc : cells + rm.cells ≤ R.cells) (hs : slots + rm.slots ≤ R.slots)
    (hy : y.cls ≠ "java/lang/invoke/MethodHandle" ∧ y.cls ≠ "java/lang/invoke/VarHandle" := by decide) :
    ∃ (v : Option Value) (T' : State) (L : List Loc), Stand p l e R s m args below meth c T' (locs ++ L) (cells + rm.cells) (slots + rm.slots) ∧ Q v T'.heap L ∧
      ∀ target, Steps p.tables e below (T'.setTop { g with pc := g.pc + 3, stack := v.toList ++ rest }) target → Steps p.tables e below (T.setTop g) target := by
  obtain ⟨cq, kq, qa, qb, qc⟩ := isOf hZ eT E
  obtain ⟨v, vm₁, ⟨T', L', k', n'⟩, -, X', ⟨L, hQ, l1, y1, z1⟩, st⟩ := X.virtualBack hx hown (mvT hZ w1) (mvT hZ w2) hnf (mvT hZ w3) (mvT hZ w4) hy (own_back (W := W) hM hZ wc wz hf hl) qa qc hg hsize (Steps.refl _) hlen hstack hW hdg (fun _ _ => ⟨rfl, eT, hc, hs⟩)
  dsimp only [Pt.U, Pt.locs, Pt.cells, Pt.slots] at X' l1 y1 z1 st hQ
  subst l1 y1 z1
  exact ⟨v, T', L, X', hQ, fun t k => st.trans k⟩
end OwnLayer
/-! own layer 2: an array as a function of the place -/
def OArr (Z : State) (h : Heap) (a : Addr) (ty : FieldType) (N : Nat) (f : Nat → Value) : Prop := ∃ c : Cell, Arr Z h a c ty ∧ c.slots.size = N ∧ N < 2 ^ 31 ∧ ∀ i, i < N → c.slots[i]? = some (f i)
section OwnArr
variable {Z : State} {h h' : Heap} {a b : Addr} {ty : FieldType} {N : Nat} {f : Nat → Value} {ws : List Addr} {sl : Nat} {v : Value}
theorem OArr.lt (F : OArr Z h a ty N f) : a < h.size := by obtain ⟨c, A, -⟩ := F; exact A.lt
theorem OArr.ext (F : OArr Z h a ty N f) (E : Ext h h') : OArr Z h' a ty N f := by obtain ⟨c, A, r⟩ := F; exact ⟨c, A.ext E, r⟩
theorem OArr.other (F : OArr Z h b ty N f) (W : Wr h h' a sl v) (q : b ≠ a) : OArr Z h' b ty N f := by obtain ⟨c, A, r⟩ := F; exact ⟨c, A.other W q, r⟩
theorem OArr.keep (F : OArr Z h a ty N f) (K : Keep h h' ws) (q : a ∉ ws) : OArr Z h' a ty N f := by obtain ⟨c, A, r⟩ := F; exact ⟨c, ⟨K.2.1 a c A.1 q, A.2⟩, r⟩
theorem OArr.set (F : OArr Z h a ty N f) {j : Nat} (W : Wr h h' a j v) : OArr Z h' a ty N (fun i => if i = j then v else f i) := by
  obtain ⟨c, A, S, B, H⟩ := F
  refine ⟨_, A.same W, by rw [sz_set]; exact S, B, fun i hi => ?_⟩
  show (c.slots.setIfInBounds j v)[i]? = some (if i = j then v else f i)
  by_cases q : i = j
  · subst q; simp [S, hi]
  · rw [Array.getElem?_setIfInBounds_ne (Ne.symm q), if_neg q]; exact H i hi
theorem OArr.setI {g : Nat → Int32} (F : OArr Z h a ty N (fun i => .int (g i))) {j : Nat} {x : Int32} (W : Wr h h' a j (.int x)) : OArr Z h' a ty N (fun i => .int (if i = j then x else g i)) := by
  have q := F.set W
  have e : (fun i => if i = j then Value.int x else Value.int (g i)) = fun i => Value.int (if i = j then x else g i) := by funext i; split <;> rfl
  rw [e] at q; exact q
theorem OArr.setJ {g : Nat → Int64} (F : OArr Z h a ty N (fun i => .long (g i))) {j : Nat} {x : Int64} (W : Wr h h' a j (.long x)) : OArr Z h' a ty N (fun i => .long (if i = j then x else g i)) := by
  have q := F.set W
  have e : (fun i => if i = j then Value.long x else Value.long (g i)) = fun i => Value.long (if i = j then x else g i) := by funext i; split <;> rfl
  rw [e] at q; exact q
theorem own_clamp (z : Int32) : z.toNatClampNeg < 2 ^ 31 := by have := z.toInt_lt; simp only [Int32.toNatClampNeg]; omega
theorem OArr.new {k : ClassId} {z : Int32} (A : Arr Z h a (newA k ty z) ty) (q : z.toNatClampNeg = N) : OArr Z h a ty N (fun _ => defaultValue ty) :=
  ⟨_, A, by rw [sz_new]; exact q, by rw [← q]; exact own_clamp z, fun i hi => by rw [← q] at hi; simp [newA, hi]⟩
theorem OArr.of {k : ClassId} {z : Int32} {vs : List Value} {dv : Value} (A : Arv Z h a k ty z vs dv) (q : z.toNatClampNeg = N) (r : ∀ i, i < N → vs.getD i dv = f i) : OArr Z h a ty N f := by
  obtain ⟨c, A1, -, S, -, H, -⟩ := A
  exact ⟨c, A1, by rw [S]; exact q, by rw [← q]; exact own_clamp z, fun i hi => by rw [← r i hi]; exact H i (by rw [S, q]; exact hi)⟩
theorem OArr.congr {g : Nat → Value} (F : OArr Z h a ty N f) (r : ∀ i, i < N → f i = g i) : OArr Z h a ty N g := by
  obtain ⟨c, A, S, B, H⟩ := F; exact ⟨c, A, S, B, fun i hi => by rw [← r i hi]; exact H i hi⟩
theorem own_inb {c : Cell} {j : Int32} {i : Nat} (S : c.slots.size = N) (h0 : ¬ j < 0) (hj : j.toNatClampNeg = i) (hi : i < N) : ¬ (j < 0 ∨ c.slots.size ≤ j.toNatClampNeg) := by
  rintro (q | q)
  · exact h0 q
  · rw [S, hj] at q; omega
theorem own_hv {c : Cell} {j : Int32} {i : Nat} (H : ∀ i, i < N → c.slots[i]? = some (f i)) (hj : j.toNatClampNeg = i) (hi : i < N) : c.slots[j.toNatClampNeg]? = some (f i) := by rw [hj]; exact H i hi
theorem own_len {c : Cell} {z : Int32} (S : c.slots.size = N) (q : N.toInt32 = z) : c.slots.size.toInt32 = z := by rw [S]; exact q
theorem own_wrj {j : Int32} {i : Nat} (W : Wr h h' a j.toNatClampNeg v) (hj : j.toNatClampNeg = i) : Wr h h' a i v := hj ▸ W
theorem own_nb (x : Int32) : nar .byte (x.toInt8.toInt32) = x.toInt8.toInt32 := by show (x.toInt8.toInt32).toInt8.toInt32 = _; simp
theorem own_nwb (x : Int32) : narrow .byte (.int x.toInt8.toInt32) = .int x.toInt8.toInt32 := by show Value.int ((x.toInt8.toInt32).toInt8.toInt32) = _; simp
end OwnArr
/-! own layer 4: arrays of references; calls up, private, through an interface -/
def ORef (Z : State) (h : Heap) (a : Addr) (ty : FieldType) (C : String) (N : Nat) (f : Nat → Value) : Prop := ∃ c : Cell, Arr Z h a c ty ∧ c.slots.size = N ∧ N < 2 ^ 31 ∧ (∀ i, i < N → c.slots[i]? = some (f i)) ∧ (Ovr Z c.cls C ∨ ∃ t, OvrA Z c.cls t C)
section OwnRef
variable {Z : State} {h h' : Heap} {a b : Addr} {ty : FieldType} {C : String} {N : Nat} {f : Nat → Value} {ws : List Addr} {sl : Nat} {v : Value}
theorem ORef.lt (F : ORef Z h a ty C N f) : a < h.size := by obtain ⟨c, A, -⟩ := F; exact A.lt
theorem ORef.ext (F : ORef Z h a ty C N f) (E : Ext h h') : ORef Z h' a ty C N f := by obtain ⟨c, A, r⟩ := F; exact ⟨c, A.ext E, r⟩
theorem ORef.other (F : ORef Z h b ty C N f) (W : Wr h h' a sl v) (q : b ≠ a) : ORef Z h' b ty C N f := by obtain ⟨c, A, r⟩ := F; exact ⟨c, A.other W q, r⟩
theorem ORef.keep (F : ORef Z h a ty C N f) (K : Keep h h' ws) (q : a ∉ ws) : ORef Z h' a ty C N f := by obtain ⟨c, A, r⟩ := F; exact ⟨c, ⟨K.2.1 a c A.1 q, A.2⟩, r⟩
theorem ORef.set (F : ORef Z h a ty C N f) {j : Nat} (W : Wr h h' a j v) : ORef Z h' a ty C N (fun i => if i = j then v else f i) := by
  obtain ⟨c, A, S, B, H, O⟩ := F
  refine ⟨_, A.same W, by rw [sz_set]; exact S, B, fun i hi => ?_, O⟩
  show (c.slots.setIfInBounds j v)[i]? = some (if i = j then v else f i)
  by_cases q : i = j
  · subst q; simp [S, hi]
  · rw [Array.getElem?_setIfInBounds_ne (Ne.symm q), if_neg q]; exact H i hi
theorem ORef.new {k : ClassId} {z : Int32} (A : Arr Z h a (newA k (.object C) z) (.object C)) (O : Ovr Z k C) (q : z.toNatClampNeg = N) : ORef Z h a (.object C) C N (fun _ => .null) :=
  ⟨_, A, by rw [sz_new]; exact q, by rw [← q]; exact own_clamp z, fun i hi => by rw [← q] at hi; simp [newA, hi, defaultValue], Or.inl O⟩
theorem ORef.newA {k : ClassId} {z : Int32} {t : FieldType} (A : Arr Z h a (newA k (.array t) z) (.array t)) (O : OvrA Z k t C) (q : z.toNatClampNeg = N) : ORef Z h a (.array t) C N (fun _ => .null) :=
  ⟨_, A, by rw [sz_new]; exact q, by rw [← q]; exact own_clamp z, fun i hi => by rw [← q] at hi; simp [Jvm.RoadKit.newA, hi, defaultValue], Or.inr ⟨t, O⟩⟩
theorem own_sto {c : Cell} (A : Arr Z h a c ty) (O : Ovr Z c.cls C ∨ ∃ t, OvrA Z c.cls t C) {y : Addr} (I : Ins Z h y C true) : Sto Z h a (.ref y) := by
  rcases O with O | ⟨t, O⟩
  · exact Sto.of A O I
  · exact Sto.ofVA A rfl O I
theorem ORef.congr {g : Nat → Value} (F : ORef Z h a ty C N f) (r : ∀ i, i < N → f i = g i) : ORef Z h a ty C N g := by
  obtain ⟨c, A, S, B, H, O⟩ := F; exact ⟨c, A, S, B, fun i hi => by rw [← r i hi]; exact H i hi, O⟩
end OwnRef
section OwnCalls
variable {p : Program} {l : Launch} {e : Env} {R : Room} {s : State} {m : MethodId} {args : Array Value} {below : List Frame} {meth : Method} {c : Code} {T : State} {locs : List Loc} {cells slots : Nat} {Z : State} {a0 : Array Value} {h : Heap}
variable {Q : Option Value → Heap → List Loc → Prop}
theorem own_virtualUp (X : Stand p l e R s m args below meth c T locs cells slots) (hx : p.tables.exec = Jvm.exec) (hZ : Z.Warmed39 s.vm) {own C owner : String} {index : Nat} {y z : MethodName} {bytes : ByteArray} {maxL : Nat} {ret : Option FieldType} {rm : Room} {W : Nat} {a : Addr} {argsL rest : List Value}
    (hown : s.vm.findClass own = some m.cls) (w1 : (Jvm.Cond.methodLink own index y).before a0 Z = true) (w2 : (Jvm.Cond.sameMethod y.cls owner y.name y.desc).before a0 Z = true) (w5 : (Jvm.Cond.declares ⟨owner, y.name, y.desc⟩).before a0 Z = true) (w3 : (Jvm.Cond.selects C y z).before a0 Z = true) (w4 : (Jvm.Cond.instanceMethod z).before a0 Z = true) (wz : (Jvm.Cond.initialized z.cls).before a0 Z = true) (wc : (Jvm.Cond.code z bytes maxL ret).before a0 Z = true)
    (hM : OMet l Z z bytes maxL ret rm (.ref a :: argsL).toArray h Q) (eT : T.heap = h) (E : Exa Z h a C) {g : JFrame} (hg : g.method = m) (hsize : g.locals.size = c.maxLocals) (hlen : ∀ sig, parseMethodDescriptor y.desc = some sig → argsL.length = sig.parameters.length)
    (hstack : g.stack = argsL.reverse ++ .ref a :: rest) (hW : 2 * g.monitorRoom + (rest.map fun v => v.category).sum ≤ W) (hdg : decode c.code g.pc = .ok (.invokevirtual index, 3))
    (hf : rm.frames + 1 ≤ R.frames) (hl : W + (maxL + 11) + rm.locals ≤ R.locals) (hc : cells + rm.cells ≤ R.cells) (hs : slots + rm.slots ≤ R.slots)
    (hy : owner ≠ "java/lang/invoke/MethodHandle" ∧ owner ≠ "java/lang/invoke/VarHandle" := by decide) :
    ∃ (v : Option Value) (T' : State) (L : List Loc), Stand p l e R s m args below meth c T' (locs ++ L) (cells + rm.cells) (slots + rm.slots) ∧ Q v T'.heap L ∧
      ∀ target, Steps p.tables e below (T'.setTop { g with pc := g.pc + 3, stack := v.toList ++ rest }) target → Steps p.tables e below (T.setTop g) target := by
  obtain ⟨cq, kq, qa, qb, qc⟩ := isOf hZ eT E
  obtain ⟨v, vm₁, ⟨T', L', k', n'⟩, -, X', ⟨L, hQ, l1, y1, z1⟩, st⟩ := X.virtualBackUp hx hown (mvT hZ w1) (mvT hZ w2) (mvT hZ w5) hy (mvT hZ w3) (mvT hZ w4) (own_back (W := W) hM hZ wc wz hf hl) qa qc hg hsize (Steps.refl _) hlen hstack hW hdg (fun _ _ => ⟨rfl, eT, hc, hs⟩)
  dsimp only [Pt.U, Pt.locs, Pt.cells, Pt.slots] at X' l1 y1 z1 st hQ
  subst l1 y1 z1
  exact ⟨v, T', L, X', hQ, fun t k => st.trans k⟩
theorem own_private (X : Stand p l e R s m args below meth c T locs cells slots) (hx : p.tables.exec = Jvm.exec) (hZ : Z.Warmed39 s.vm) {own C K : String} {u : MethodName} {index : Nat} {y : MethodName} {bytes : ByteArray} {maxL : Nat} {ret : Option FieldType} {rm : Room} {W : Nat} {a : Addr} {argsL rest : List Value}
    (hown : s.vm.findClass own = some m.cls) (w1 : (Jvm.Cond.methodLink own index y).before a0 Z = true) (w4 : (Jvm.Cond.instanceMethod y).before a0 Z = true) (w5 : (Jvm.Cond.privateMethod y).before a0 Z = true) (w6 : (Jvm.Cond.selects K u u).before a0 Z = true) (hu : u.cls = y.cls) (wz : (Jvm.Cond.initialized y.cls).before a0 Z = true) (wc : (Jvm.Cond.code y bytes maxL ret).before a0 Z = true)
    (hM : OMet l Z y bytes maxL ret rm (.ref a :: argsL).toArray h Q) (eT : T.heap = h) (E : Exa Z h a C) {g : JFrame} (hg : g.method = m) (hsize : g.locals.size = c.maxLocals) (hlen : ∀ sig, parseMethodDescriptor y.desc = some sig → argsL.length = sig.parameters.length)
    (hstack : g.stack = argsL.reverse ++ .ref a :: rest) (hW : 2 * g.monitorRoom + (rest.map fun v => v.category).sum ≤ W) (hdg : decode c.code g.pc = .ok (.invokevirtual index, 3))
    (hf : rm.frames + 1 ≤ R.frames) (hl : W + (maxL + 11) + rm.locals ≤ R.locals) (hc : cells + rm.cells ≤ R.cells) (hs : slots + rm.slots ≤ R.slots)
    (hy : y.cls ≠ "java/lang/invoke/MethodHandle" ∧ y.cls ≠ "java/lang/invoke/VarHandle" := by decide) :
    ∃ (v : Option Value) (T' : State) (L : List Loc), Stand p l e R s m args below meth c T' (locs ++ L) (cells + rm.cells) (slots + rm.slots) ∧ Q v T'.heap L ∧
      ∀ target, Steps p.tables e below (T'.setTop { g with pc := g.pc + 3, stack := v.toList ++ rest }) target → Steps p.tables e below (T.setTop g) target := by
  obtain ⟨cell, hcell, hobj⟩ := E.cell
  have hpriv : s.PrivateAt y := Cond.privateMethod_at (mvP hZ w5 (args := args))
  have hinst : (Jvm.Cond.instanceMethod y).before args s = true := mvT hZ w4
  obtain ⟨c2, r2, m2, -, -, q3, -, kP, hkP, hkPi⟩ := Cond.selects_spec (mvT hZ w6 : (Jvm.Cond.selects K u u).before args s = true)
  have hfc : s.vm.findClass y.cls = some m2.cls := by rw [← hu]; exact findClass_of_methodNamed q3
  have hsel := selects_self_of_private (args := args) hfc hkP hkPi hpriv hinst hy
  obtain ⟨v, vm₁, ⟨T', L', k', n'⟩, -, X', ⟨L, hQ, l1, y1, z1⟩, st⟩ := X.privateBack hx hown (mvT hZ w1) hinst hsel hpriv (mvT hZ wc) hy (own_back (W := W) hM hZ wc wz hf hl) hg hsize (Steps.refl _) (by rw [eT]; exact hcell) hobj hlen hstack hW hdg (fun _ _ => ⟨rfl, eT, hc, hs⟩)
  dsimp only [Pt.U, Pt.locs, Pt.cells, Pt.slots] at X' l1 y1 z1 st hQ
  subst l1 y1 z1
  exact ⟨v, T', L, X', hQ, fun t k => st.trans k⟩
theorem own_face (X : Stand p l e R s m args below meth c T locs cells slots) (hx : p.tables.exec = Jvm.exec) (hZ : Z.Warmed39 s.vm) {own C : String} {index count : Nat} {y z : MethodName} {bytes : ByteArray} {maxL : Nat} {ret : Option FieldType} {rm : Room} {W : Nat} {a : Addr} {argsL rest : List Value}
    (hown : s.vm.findClass own = some m.cls) (w1 : (Jvm.Cond.methodLink own index y).before a0 Z = true) (w2 : (Jvm.Cond.declares y).before a0 Z = true) (w5 : (Jvm.Cond.interfaceMethod y.cls y.cls y.name y.desc).before args s = true) (w3 : (Jvm.Cond.selects C y z).before a0 Z = true) (w4 : (Jvm.Cond.instanceMethod z).before a0 Z = true) (w6 : (Jvm.Cond.publicMethod z).before a0 Z = true) (w7 : (Jvm.Cond.unhidden C y.name y.desc).before a0 Z = true) (w8 : (Jvm.Cond.castable C y.cls).before a0 Z = true) (wz : (Jvm.Cond.initialized z.cls).before a0 Z = true) (wc : (Jvm.Cond.code z bytes maxL ret).before a0 Z = true)
    (hM : OMet l Z z bytes maxL ret rm (.ref a :: argsL).toArray h Q) (eT : T.heap = h) (E : Exa Z h a C) {g : JFrame} (hg : g.method = m) (hsize : g.locals.size = c.maxLocals) (hlen : ∀ sig, parseMethodDescriptor y.desc = some sig → argsL.length = sig.parameters.length)
    (hstack : g.stack = argsL.reverse ++ .ref a :: rest) (hW : 2 * g.monitorRoom + (rest.map fun v => v.category).sum ≤ W) (hdg : decode c.code g.pc = .ok (.invokeinterface index count, 5))
    (hf : rm.frames + 1 ≤ R.frames) (hl : W + (maxL + 11) + rm.locals ≤ R.locals) (hc : cells + rm.cells ≤ R.cells) (hs : slots + rm.slots ≤ R.slots)
    (hy : y.cls ≠ "java/lang/invoke/MethodHandle" ∧ y.cls ≠ "java/lang/invoke/VarHandle" := by decide) :
    ∃ (v : Option Value) (T' : State) (L : List Loc), Stand p l e R s m args below meth c T' (locs ++ L) (cells + rm.cells) (slots + rm.slots) ∧ Q v T'.heap L ∧
      ∀ target, Steps p.tables e below (T'.setTop { g with pc := g.pc + 5, stack := v.toList ++ rest }) target → Steps p.tables e below (T.setTop g) target := by
  obtain ⟨cq, kq, qa, qb, qc⟩ := isOf hZ eT E
  obtain ⟨v, vm₁, ⟨T', L', k', n'⟩, -, X', ⟨L, hQ, l1, y1, z1⟩, st⟩ := X.interfaceBack hx hown (mvT hZ w1) (mvT hZ w2) w5 (mvT hZ w3) (mvT hZ w4) (mvT hZ w6) (mvT hZ w7) (mvT hZ w8) hy (own_back (W := W) hM hZ wc wz hf hl) qa qb qc hg hsize (Steps.refl _) hlen hstack hW hdg (fun _ _ => ⟨rfl, eT, hc, hs⟩)
  dsimp only [Pt.U, Pt.locs, Pt.cells, Pt.slots] at X' l1 y1 z1 st hQ
  subst l1 y1 z1
  exact ⟨v, T', L, X', hQ, fun t k => st.trans k⟩
end OwnCalls
/-! own layer 5: a call that a 'Back' of the pasted String laws pays -/
section OwnBack
variable {p : Program} {l : Launch} {e : Env} {R : Room} {s : State} {m : MethodId} {args : Array Value} {below : List Frame} {meth : Method} {c : Code} {T : State} {locs : List Loc} {cells slots : Nat} {Z : State} {a0 : Array Value} {h : Heap}
theorem own_initB (Q : Option Value → Heap → List Loc → Prop) (kc ks : Nat) (X : Stand p l e R s m args below meth c T locs cells slots) (hx : p.tables.exec = Jvm.exec) (hZ : Z.Warmed39 s.vm) {own : String} {index : Nat} {y : MethodName} {bytes : ByteArray} {maxL : Nat} {W : Nat} {a : Addr} {argsL rest : List Value} (hy1 : y.name = "<init>")
    (hown : s.vm.findClass own = some m.cls) (w1 : (Jvm.Cond.methodLink own index y).before a0 Z = true) (w2 : (Jvm.Cond.instanceMethod y).before a0 Z = true) (wc : (Jvm.Cond.code y bytes maxL none).before a0 Z = true)
    (hK : Back l R p e below s args y 3 W (fun A b => b = (.ref a :: argsL).toArray ∧ A.U.heap = h ∧ A.cells + kc ≤ R.cells ∧ A.slots + ks ≤ R.slots) (fun A _ v B => ∃ L, Q v B.U.heap L ∧ B.locs = A.locs ++ L ∧ B.cells = A.cells + kc ∧ B.slots = A.slots + ks))
    (eT : T.heap = h) {g : JFrame} (hg : g.method = m) (hsize : g.locals.size = c.maxLocals) (hlen : ∀ sig, parseMethodDescriptor y.desc = some sig → argsL.length = sig.parameters.length)
    (hstack : g.stack = argsL.reverse ++ .ref a :: rest) (hW : 2 * g.monitorRoom + (rest.map fun v => v.category).sum ≤ W) (hdg : decode c.code g.pc = .ok (.invokespecial index, 3))
    (hc : cells + kc ≤ R.cells) (hs : slots + ks ≤ R.slots)
    (hy : y.cls ≠ "java/lang/invoke/MethodHandle" ∧ y.cls ≠ "java/lang/invoke/VarHandle" := by decide) :
    ∃ (v : Option Value) (T' : State) (L : List Loc), Stand p l e R s m args below meth c T' (locs ++ L) (cells + kc) (slots + ks) ∧ Q v T'.heap L ∧
      ∀ target, Steps p.tables e below (T'.setTop { g with pc := g.pc + 3, stack := v.toList ++ rest }) target → Steps p.tables e below (T.setTop g) target := by
  obtain ⟨v, vm₁, ⟨T', L', k', n'⟩, -, X', ⟨L, hQ, l1, y1, z1⟩, st⟩ := X.specialBack hx hy1 hown (mvT hZ w1) (mvT hZ w2) (mvT hZ wc) hy hK hg hsize (Steps.refl _) hlen hstack hW hdg (fun _ _ => ⟨rfl, eT, hc, hs⟩)
  dsimp only [Pt.U, Pt.locs, Pt.cells, Pt.slots] at X' l1 y1 z1 st hQ
  subst l1 y1 z1
  exact ⟨v, T', L, X', hQ, fun t k => st.trans k⟩
theorem own_virtualB (Q : Option Value → Heap → List Loc → Prop) (kc ks : Nat) (X : Stand p l e R s m args below meth c T locs cells slots) (hx : p.tables.exec = Jvm.exec) (hZ : Z.Warmed39 s.vm) {own C : String} {index : Nat} {y z : MethodName} {W : Nat} {a : Addr} {argsL rest : List Value}
    (hown : s.vm.findClass own = some m.cls) (w1 : (Jvm.Cond.methodLink own index y).before a0 Z = true) (w2 : (Jvm.Cond.declares y).before a0 Z = true) (hnf : NotFace s y) (w3 : (Jvm.Cond.selects C y z).before a0 Z = true) (w4 : (Jvm.Cond.instanceMethod z).before a0 Z = true)
    (hK : Back l R p e below s args z 3 W (fun A b => b = (.ref a :: argsL).toArray ∧ A.U.heap = h ∧ A.cells + kc ≤ R.cells ∧ A.slots + ks ≤ R.slots) (fun A _ v B => ∃ L, Q v B.U.heap L ∧ B.locs = A.locs ++ L ∧ B.cells = A.cells + kc ∧ B.slots = A.slots + ks))
    (eT : T.heap = h) (E : Exa Z h a C) {g : JFrame} (hg : g.method = m) (hsize : g.locals.size = c.maxLocals) (hlen : ∀ sig, parseMethodDescriptor y.desc = some sig → argsL.length = sig.parameters.length)
    (hstack : g.stack = argsL.reverse ++ .ref a :: rest) (hW : 2 * g.monitorRoom + (rest.map fun v => v.category).sum ≤ W) (hdg : decode c.code g.pc = .ok (.invokevirtual index, 3))
    (hc : cells + kc ≤ R.cells) (hs : slots + ks ≤ R.slots)
    (hy : y.cls ≠ "java/lang/invoke/MethodHandle" ∧ y.cls ≠ "java/lang/invoke/VarHandle" := by decide) :
    ∃ (v : Option Value) (T' : State) (L : List Loc), Stand p l e R s m args below meth c T' (locs ++ L) (cells + kc) (slots + ks) ∧ Q v T'.heap L ∧
      ∀ target, Steps p.tables e below (T'.setTop { g with pc := g.pc + 3, stack := v.toList ++ rest }) target → Steps p.tables e below (T.setTop g) target := by
  obtain ⟨cq, kq, qa, qb, qc⟩ := isOf hZ eT E
  obtain ⟨v, vm₁, ⟨T', L', k', n'⟩, -, X', ⟨L, hQ, l1, y1, z1⟩, st⟩ := X.virtualBack hx hown (mvT hZ w1) (mvT hZ w2) hnf (mvT hZ w3) (mvT hZ w4) hy hK qa qc hg hsize (Steps.refl _) hlen hstack hW hdg (fun _ _ => ⟨rfl, eT, hc, hs⟩)
  dsimp only [Pt.U, Pt.locs, Pt.cells, Pt.slots] at X' l1 y1 z1 st hQ
  subst l1 y1 z1
  exact ⟨v, T', L, X', hQ, fun t k => st.trans k⟩
end OwnBack
/-! own layer 7: THE WIDE END: a body that may intern a String constant (OFinE, OEnd, OMetW), and the way from the narrow end to it -/
def OFinE (p : Program) (e : Env) (below : List Frame) (E : Option Value → State → List Loc → Prop) (S : State) : Prop :=
  ∃ s₂ o, Steps p.tables e below S s₂ ∧ s₂.status = .running ∧ Ended s₂ below o ∧ ∃ v L, o = .returned v ∧ E v s₂ L
def OEnd (s : State) (kc ks : Nat) (Q : Option Value → Vm → Heap → List Loc → Prop) : Option Value → State → List Loc → Prop := fun v u L => Q v u.vm u.heap L ∧ ReturnedEndW s (.returned v) u L kc ks
def OMetW (l : Launch) (Z : State) (P : Vm → Prop) (y : MethodName) (bytes : ByteArray) (maxL : Nat) (ret : Option FieldType) (rm : Room) (as' : Array Value) (h0 : Heap) (Q : Option Value → Vm → Heap → List Loc → Prop) : Prop :=
  ∀ ws : List Jvm.Cond, MetFree l y (head1 (Jvm.Cond.code y bytes maxL ret :: ws) rm) (fun a U => a = as' ∧ Z.Warmed39 U.vm ∧ U.heap = h0 ∧ P U.vm) (fun _ _ _ _ _ => True) (fun _ U o U' => ∃ v L, o = .returned v ∧ Q v U'.vm U'.heap L ∧ ReturnedEndW U o U' L rm.cells rm.slots)
section OwnWide
variable {p : Program} {l : Launch} {e : Env} {R : Room} {s : State} {m : MethodId} {args : Array Value} {below : List Frame} {meth : Method} {c : Code} {T : State} {locs : List Loc} {cells slots : Nat} {Z : State} {a0 : Array Value} {h : Heap}
variable {kc ks : Nat} {Q : Option Value → Vm → Heap → List Loc → Prop} {E : Option Value → State → List Loc → Prop} {P : Vm → Prop}
theorem own_stE {A B : State} (hs : ∀ t, Steps p.tables e below B t → Steps p.tables e below A t) (k : OFinE p e below E B) : OFinE p e below E A := by
  obtain ⟨s₂, o, h1, r⟩ := k; exact ⟨s₂, o, hs _ h1, r⟩
theorem own_atE {g g' : JFrame} (q : g = g') (k : OFinE p e below E (T.setTop g')) : OFinE p e below E (T.setTop g) := q ▸ k
theorem own_enterW {y : MethodName} {bytes : ByteArray} {maxL : Nat} {ret : Option FieldType} {rm : Room} {as' : Array Value} {h0 : Heap} (hp : plainFor y = true)
    (hB : ∀ (p : Program) (e : Env) (s : State) (m : MethodId) (below : List Frame) (meth : Method) (c : Code) (T : State), Stand p l e rm s m as' below meth c T [] 0 0 → OCtx Z p s m meth c y.cls y.name bytes maxL ret → T.heap = h0 → s.heap = h0 → P s.vm → OFinE p e below (OEnd s rm.cells rm.slots Q) (T.setTop (entryFrame m as' maxL))) :
    OMetW l Z P y bytes maxL ret rm as' h0 Q := by
  intro ws
  refine MetFree.of_bodySF hp hisR ?_
  intro p e s m args below meth c s₁ Bd hml0 hP hK
  obtain ⟨rfl, hZ, hh, hpv⟩ := hP
  obtain ⟨s₂, o, h1, h2, h3, v, L, rfl, h4, h5⟩ := hB p e s m below meth c s₁ (Stand.of_body Bd) ⟨Bd.exec, hZ, Bd.bytes, hml0, findClass_of_methodNamed Bd.named, Bd.returns, BodyLoose.notSynchronized Bd, (name_of_methodNamed Bd.named Bd.method).1⟩ (by rw [← hh, Bd.state]; rfl) hh hpv
  exact ⟨s₂, _, h1, h2, h3, v, L, rfl, h4, h5⟩
/-- the rest of a walk that has interned is a narrow walk over the start with the tables at hand -/
theorem own_narrow {vm1 : Vm} {n : Nat} (hS : s.Since vm1 n) {Q' : Option Value → Heap → List Loc → Prop} {S : State} (k : OFin p e below (s.setVm vm1) kc ks Q' S)
    (q : ∀ v vm h L, (s.setVm vm1).WarmedH vm → Q' v h L → n ≤ h.size ∧ Q v vm h L) : OFinE p e below (OEnd s kc ks Q) S := by
  obtain ⟨s₂, o, h1, h2, h3, v, L, rfl, h5, -, hW, hs⟩ := k
  obtain ⟨q1, q2⟩ := q _ _ _ _ hW h5
  obtain ⟨a, b, c'⟩ := hS.ended (U := s₂) hW q1 hs
  exact ⟨s₂, _, h1, h2, h3, v, L, rfl, q2, ⟨v, rfl⟩, a, b, c'⟩
/-- a walk that has not interned and will not -/
theorem own_narrow0 {Q' : Option Value → Heap → List Loc → Prop} {S : State} (k : OFin p e below s kc ks Q' S) (q : ∀ v vm h L, s.WarmedH vm → Q' v h L → Q v vm h L) : OFinE p e below (OEnd s kc ks Q) S := by
  obtain ⟨s₂, o, h1, h2, h3, v, L, rfl, h5, -, hW, hs⟩ := k
  exact ⟨s₂, _, h1, h2, h3, v, L, rfl, q _ _ _ _ hW h5, ReturnedEndW.of_narrow ⟨v, rfl⟩ hW hs⟩
/-- the rest of a walk that has interned may intern again -/
theorem own_rebase {vm1 : Vm} {n : Nat} (hS : s.Since vm1 n) {Q' : Option Value → Vm → Heap → List Loc → Prop} {S : State} (k : OFinE p e below (OEnd (s.setVm vm1) kc ks Q') S)
    (q : ∀ v vm h L, Q' v vm h L → n ≤ h.size ∧ Q v vm h L) : OFinE p e below (OEnd s kc ks Q) S := by
  obtain ⟨s₂, o, h1, h2, h3, v, L, rfl, h5, -, a, b, c'⟩ := k
  obtain ⟨q1, q2⟩ := q _ _ _ _ h5
  have hS2 : s.Since s₂.vm s₂.heap.size := hS.trans (vm₂ := s₂.vm) (n₂ := s₂.heap.size) ⟨a, b⟩ q1
  exact ⟨s₂, _, h1, h2, h3, v, L, rfl, q2, ⟨v, rfl⟩, hS2.1, hS2.2, c'.setVm s.vm⟩
theorem own_retW (X : Stand p l e R s m args below meth c T locs cells slots) (hx : p.tables.exec = Jvm.exec) {t : FieldType} (hret : meth.sig.returnType = some t) (hlk : meth.locks = false) {pc : Nat} {Ls : Array Slot} {w : Value} {i : Instr} {rest : List Value} (hn : narrow t w = w)
    (hi : (i = .ireturn ∧ (t = .int ∨ t = .boolean ∨ t = .byte ∨ t = .char ∨ t = .short) ∧ ∃ z, w = .int z) ∨ (i = .lreturn ∧ t = .long ∧ ∃ z, w = .long z) ∨ (i = .dreturn ∧ t = .double ∧ ∃ z, w = .double z) ∨ (i = .freturn ∧ t = .float ∧ ∃ z, w = .float z) ∨ (i = .areturn ∧ t.isReference = true ∧ w.isRef = true))
    (hd : decode c.code pc = .ok (i, 1)) (hc : cells ≤ kc) (hs : slots ≤ ks) {Q' : Option Value → Heap → List Loc → Prop} (hq : Q' (some w) T.heap locs) : OFin p e below s kc ks Q' (T.setTop (mkF m pc Ls (w :: rest))) := own_ret X hx hret hlk hn hi hd hc hs hq
theorem own_backW {y : MethodName} {bytes : ByteArray} {maxL : Nat} {ret : Option FieldType} {rm : Room} {len W : Nat} {as' : Array Value} (hM : OMetW l Z P y bytes maxL ret rm as' h Q) (hZ : Z.Warmed39 s.vm) (hP : ∀ vm, s.WarmedH vm → P vm) (wc : (Jvm.Cond.code y bytes maxL ret).before a0 Z = true) (wz : (Jvm.Cond.initialized y.cls).before a0 Z = true) (hf : rm.frames + 1 ≤ R.frames) (hl : W + (maxL + 11) + rm.locals ≤ R.locals) :
    BackS l R p e below s args y len W (fun A a => a = as' ∧ A.U.heap = h ∧ A.cells + rm.cells ≤ R.cells ∧ A.slots + rm.slots ≤ R.slots)
      (fun A _ v B => ∃ L, Q v B.U.vm B.U.heap L ∧ B.locs = A.locs ++ L ∧ B.cells = A.cells + rm.cells ∧ B.slots = A.slots + rm.slots) :=
  BackS.of_freeW (bytes := bytes) (maxL := maxL) (ret := ret) (E := fun _ _ o t L k n => k = rm.cells ∧ n = rm.slots ∧ ∃ v, o = .returned v ∧ Q v t.vm t.heap L) (hM []) hf hl
    (fun m meth c A a Y hp => have hU : Z.Warmed39 A.U.vm := wtrans hZ Y.warmed
      ⟨by show (Jvm.Cond.and _ .tt).before a A.U = true; rw [Cond.before_and, mv hU wc]; rfl, mv hU wc, mv hU wz, hp.2.2.1, hp.2.2.2⟩)
    (fun m meth c A a g mk Y hp => ⟨hp.1, wtrans hZ Y.warmed, hp.2.1, hP _ Y.warmed⟩) (fun _ _ _ _ _ _ _ _ _ => trivial)
    (fun _ _ _ _ ⟨v, L, h1, h2, h3⟩ => ⟨L, _, _, h3, rfl, rfl, v, h1, h2⟩)
    (fun m meth c A a g mk v t L k n Y hp _ _ ⟨e1, e2, v', e3, e4⟩ => by cases e3; subst e1 e2; exact ⟨L, e4, rfl, rfl, rfl⟩)
theorem own_initW (X : Stand p l e R s m args below meth c T locs cells slots) (hx : p.tables.exec = Jvm.exec) (hZ : Z.Warmed39 s.vm) {own : String} {index : Nat} {y : MethodName} {bytes : ByteArray} {maxL : Nat} {rm : Room} {W : Nat} {a : Addr} {argsL rest : List Value} (hy1 : y.name = "<init>")
    (hown : s.vm.findClass own = some m.cls) (w1 : (Jvm.Cond.methodLink own index y).before a0 Z = true) (w2 : (Jvm.Cond.instanceMethod y).before a0 Z = true) (wz : (Jvm.Cond.initialized y.cls).before a0 Z = true) (wc : (Jvm.Cond.code y bytes maxL none).before a0 Z = true)
    (hM : OMetW l Z P y bytes maxL none rm (.ref a :: argsL).toArray h Q) (hP : ∀ vm, s.WarmedH vm → P vm) (eT : T.heap = h) {g : JFrame} (hg : g.method = m) (hsize : g.locals.size = c.maxLocals) (hlen : ∀ sig, parseMethodDescriptor y.desc = some sig → argsL.length = sig.parameters.length)
    (hstack : g.stack = argsL.reverse ++ .ref a :: rest) (hW : 2 * g.monitorRoom + (rest.map fun v => v.category).sum ≤ W) (hdg : decode c.code g.pc = .ok (.invokespecial index, 3))
    (hf : rm.frames + 1 ≤ R.frames) (hl : W + (maxL + 11) + rm.locals ≤ R.locals) (hc : cells + rm.cells ≤ R.cells) (hs : slots + rm.slots ≤ R.slots)
    (hy : y.cls ≠ "java/lang/invoke/MethodHandle" ∧ y.cls ≠ "java/lang/invoke/VarHandle" := by decide) :
    ∃ (v : Option Value) (T' : State) (L : List Loc), Stand p l e R (s.setVm T'.vm) m args below meth c T' (locs ++ L) (cells + rm.cells) (slots + rm.slots) ∧ s.Since T'.vm T'.heap.size ∧ Z.Warmed39 (s.setVm T'.vm).vm ∧ (s.setVm T'.vm).vm.findClass own = some m.cls ∧ Q v T'.vm T'.heap L ∧
      ∀ target, Steps p.tables e below (T'.setTop { g with pc := g.pc + 3, stack := v.toList ++ rest }) target → Steps p.tables e below (T.setTop g) target := by
  obtain ⟨v, vm₁, ⟨T', L', k', n'⟩, -, X', hS, -, ⟨L, hQ, l1, y1, z1⟩, st⟩ := X.specialBackS hx hy1 hown (mvT hZ w1) (mvT hZ w2) (mvT hZ wc) hy (own_backW (W := W) hM hZ hP wc wz hf hl) hg hsize (Steps.refl _) hlen hstack hW hdg (fun _ _ => ⟨rfl, eT, hc, hs⟩)
  dsimp only [Pt.U, Pt.locs, Pt.cells, Pt.slots] at X' l1 y1 z1 st hQ hS
  subst l1 y1 z1
  exact ⟨v, T', L, X', hS, State.Warmed39.trans hZ hS.1, by rw [show (s.setVm T'.vm).vm = T'.vm from rfl, hS.1.alike.findClass]; exact hown, hQ, fun t k => st.trans k⟩
theorem own_staticW (X : Stand p l e R s m args below meth c T locs cells slots) (hx : p.tables.exec = Jvm.exec) (hZ : Z.Warmed39 s.vm) {own : String} {index : Nat} {y : MethodName} {bytes : ByteArray} {maxL : Nat} {ret : Option FieldType} {rm : Room} {W : Nat} {argsL rest : List Value}
    (hown : s.vm.findClass own = some m.cls) (w1 : (Jvm.Cond.methodLink own index y).before a0 Z = true) (w2 : (Jvm.Cond.static y).before a0 Z = true) (wz : (Jvm.Cond.initialized y.cls).before a0 Z = true) (wc : (Jvm.Cond.code y bytes maxL ret).before a0 Z = true)
    (hM : OMetW l Z P y bytes maxL ret rm argsL.toArray h Q) (hP : ∀ vm, s.WarmedH vm → P vm) (eT : T.heap = h) {g : JFrame} (hg : g.method = m) (hsize : g.locals.size = c.maxLocals) (hlen : ∀ sig, parseMethodDescriptor y.desc = some sig → argsL.length = sig.parameters.length)
    (hstack : g.stack = argsL.reverse ++ rest) (hW : 2 * g.monitorRoom + (rest.map fun v => v.category).sum ≤ W) (hdg : decode c.code g.pc = .ok (.invokestatic index, 3))
    (hf : rm.frames + 1 ≤ R.frames) (hl : W + (maxL + 11) + rm.locals ≤ R.locals) (hc : cells + rm.cells ≤ R.cells) (hs : slots + rm.slots ≤ R.slots)
    (hy : y.cls ≠ "java/lang/invoke/MethodHandle" ∧ y.cls ≠ "java/lang/invoke/VarHandle" := by decide) :
    ∃ (v : Option Value) (T' : State) (L : List Loc), Stand p l e R (s.setVm T'.vm) m args below meth c T' (locs ++ L) (cells + rm.cells) (slots + rm.slots) ∧ s.Since T'.vm T'.heap.size ∧ Z.Warmed39 (s.setVm T'.vm).vm ∧ (s.setVm T'.vm).vm.findClass own = some m.cls ∧ Q v T'.vm T'.heap L ∧
      ∀ target, Steps p.tables e below (T'.setTop { g with pc := g.pc + 3, stack := v.toList ++ rest }) target → Steps p.tables e below (T.setTop g) target := by
  obtain ⟨v, vm₁, ⟨T', L', k', n'⟩, -, X', hS, -, ⟨L, hQ, l1, y1, z1⟩, st⟩ := callSS X hx hown (mvT hZ w1) (mvT hZ w2) (mvT hZ wz) (mvT hZ wc) hy (own_backW (W := W) hM hZ hP wc wz hf hl) hg hsize hlen hstack hW hdg (fun _ _ => ⟨rfl, eT, hc, hs⟩)
  dsimp only [Pt.U, Pt.locs, Pt.cells, Pt.slots] at X' l1 y1 z1 st hQ hS
  subst l1 y1 z1
  exact ⟨v, T', L, X', hS, State.Warmed39.trans hZ hS.1, by rw [show (s.setVm T'.vm).vm = T'.vm from rfl, hS.1.alike.findClass]; exact hown, hQ, fun t k => st.trans k⟩
/-- what the tables and the heap say of the empty String constant of java/lang/String: nothing has been loaded since Z's time, or it has been loaded and here it lies -/
def OLitAt (Z : State) (vm : Vm) (h : Heap) (la lb : Addr) (lk : ClassId) : Prop := Lit (Z.setVm vm) "java/lang/String" 7 la ∧ Exa Z h la "java/lang/String" ∧ Fld Z h la "java/lang/String" "coder" "B" (.int 0) ∧ Fld Z h la "java/lang/String" "value" "[B" (.ref lb) ∧ Arv Z h lb lk .byte (0 : Int32) [] (.int 0)
def OLit (Z : State) (h : Heap) (vm : Vm) : Prop := IB Z vm [] ∨ ∃ la lb lk, OLitAt Z vm h la lb lk
theorem OLit.start : OLit Z Z.heap Z.vm := Or.inl IB.start
theorem IB.warm {Ts : List String} {vm : Vm} (hW : s.WarmedH vm) (I : IB Z s.vm Ts) : IB Z vm Ts := by obtain ⟨more, e1, e2⟩ := I; exact ⟨more, hW.interned_eq.trans e1, e2⟩
theorem OLitAt.warm {la lb : Addr} {lk : ClassId} {vm : Vm} (hW : s.WarmedH vm) (F : OLitAt Z s.vm h la lb lk) : OLitAt Z vm h la lb lk := ⟨State.resolvedAt?_warmed39 (s := s) hW.wide F.1, F.2⟩
theorem OLit.warm {vm : Vm} (hW : s.WarmedH vm) (F : OLit Z h s.vm) : OLit Z h vm := F.imp (IB.warm hW) (fun ⟨a, b, k, F⟩ => ⟨a, b, k, F.warm hW⟩)
theorem OLitAt.keep {h' : Heap} {ws : List Addr} {la lb : Addr} {lk : ClassId} {vm : Vm} (F : OLitAt Z vm h la lb lk) (K : Keep h h' ws) (n1 : la ∉ ws) (n2 : lb ∉ ws) : OLitAt Z vm h' la lb lk := ⟨F.1, F.2.1.keep K, F.2.2.1.keep K n1, F.2.2.2.1.keep K n1, F.2.2.2.2.keep K n2⟩
theorem OLit.keep {h' : Heap} {vm : Vm} (F : OLit Z h vm) (K : Keep h h' []) : OLit Z h' vm := F.imp id (fun ⟨a, b, k, F⟩ => ⟨a, b, k, F.keep K nin0 nin0⟩)
/-- 'ldc' of the empty String constant in java/lang/String's own code -/
theorem own_ldcE (X : Stand p l e R s m args below meth c T [] cells slots) (hx : p.tables.exec = Jvm.exec) (hZ : Z.Warmed39 s.vm) (hown : s.vm.findClass "java/lang/String" = some m.cls) (w : (Jvm.Cond.stringLink "java/lang/String" 7 "").before a0 Z = true) (wS : ∀ a ∈ Bundle.stringAtoms, a.before a0 Z = true)
    (eT : T.heap = h) (eS : s.heap = h) {n0 : Nat} (O : Old Z n0 h) (F : OLit Z h s.vm) (hh : Jvm.Lit.constHeld Z "java/lang/String" 7) (hcw : Jvm.Lit.compactW.before a0 Z = true)
    {g : JFrame} (hg : g.method = m) (hd : decode c.code g.pc = .ok (.ldc 7, 2)) (hc : cells + 2 ≤ R.cells) (hl' : slots + 4 ≤ R.slots) :
    ∃ (la lb : Addr) (lk : ClassId) (T' : State) (h' : Heap) (k1 : Nat), Stand p l e R (s.setVm T'.vm) m args below meth c T' [] (cells + 2) (slots + 4) ∧ T'.heap = h' ∧ Ext h h' ∧ s.Since T'.vm k1 ∧ k1 ≤ h'.size ∧ Z.Warmed39 (s.setVm T'.vm).vm ∧ (s.setVm T'.vm).vm.findClass "java/lang/String" = some m.cls ∧ OLitAt Z T'.vm h' la lb lk ∧
      ∀ target, Steps p.tables e below (T'.setTop { g with pc := g.pc + 2, stack := .ref la :: g.stack }) target → Steps p.tables e below (T.setTop g) target := by
  rcases F with I | ⟨la, lb, lk, F⟩
  · obtain ⟨a, T', h', k1, b, k, X', e', E', S', hk', Z', own', Ex, Co, Va, Ar, -, -, -, Li, st⟩ := ldcSVL (s := s) (vm0 := s.vm) (Ts := []) X hx hZ hown w wS eT ((State.WarmedH.refl s).since 0) (Nat.zero_le _) (Fr.nil _) (fun b cl q => by rw [eS]; exact O.2.2 b cl q) I (by simp) hh hcw (vs := []) (z := 0) ⟨by decide, rfl⟩ (by decide) (by decide) hg hd (n := 0) (by decide) (by decide) hc hl'
    exact ⟨a, b, k, T', h', k1, X', e', E', S', hk', Z', own', ⟨Li, Ex, Co, Va, Ar⟩, st⟩
  · have F' : OLitAt Z T.vm h la lb lk := F.warm X.warmed
    exact ⟨la, lb, lk, T, h, 0, (X.mono (by omega) (by omega)).retabled X.warmed.wide, eT, ⟨Nat.le_refl _, fun _ _ q => q⟩, X.warmed.since 0, Nat.zero_le _, State.Warmed39.trans (t := s) hZ X.warmed.wide, by rw [show (s.setVm T.vm).vm = T.vm from rfl, X.warmed.wide.alike.findClass]; exact hown, F', ldcAgain (s := s) (vm0 := s.vm) X hx hZ hown w F.1 hg hd⟩
/-- .. a second time -/
theorem own_ldcA (X : Stand p l e R s m args below meth c T locs cells slots) (hx : p.tables.exec = Jvm.exec) (hZ : Z.Warmed39 s.vm) (hown : s.vm.findClass "java/lang/String" = some m.cls) (w : (Jvm.Cond.stringLink "java/lang/String" 7 "").before a0 Z = true) {la : Addr} (F : Lit s "java/lang/String" 7 la)
    {g : JFrame} (hg : g.method = m) (hd : decode c.code g.pc = .ok (.ldc 7, 2)) : ∀ target, Steps p.tables e below (T.setTop { g with pc := g.pc + 2, stack := .ref la :: g.stack }) target → Steps p.tables e below (T.setTop g) target :=
  ldcAgain (s := s) (vm0 := s.vm) X hx hZ hown w F hg hd
end OwnWide
/-! own layer 8: an opaque String constant; a virtual call with a wide end; clone of an empty array; a call through an interface that inherits the method -/
theorem own_mvI {Z s : State} {a0 args : Array Value} {r o n d : String} (hZ : Z.Warmed39 s.vm) (h : (Jvm.Cond.interfaceMethod r o n d).before a0 Z = true) : (Jvm.Cond.interfaceMethod r o n d).before args s = true := by
  have hal := hZ.alike
  obtain ⟨c, k, m, h1, h2, h3, h4, h5⟩ := Cond.interfaceMethod_spec h
  obtain ⟨k', g2, e⟩ := hal.2.2 _ _ h2
  have f1 : s.vm.findClass r = some c := by rw [hal.findClass]; exact h1
  have f4 : s.methodFound? r n d = some m := (State.methodFound?_setVm hal r n d).trans h4
  have f5 : s.methodNamed? ⟨o, n, d⟩ = some m := (State.methodNamed?_setVm hal ⟨o, n, d⟩).trans h5
  have f3 : k'.isInterface = true := by rw [e]; exact h3
  simp [Cond.before, Cond.holds, Cond.value, f1, f4, f5, g2, f3]
theorem own_nf {args : Array Value} {s : State} {C : String} {y y' : MethodName} (hsel : (Jvm.Cond.selects C y' y').before args s = true) (e : y'.cls = y.cls) : NotFace s y := fun r0 h0 => by
  obtain ⟨c2, r2, m2, q1, q2, q3, q4, kP, hkP, hkPi⟩ := Cond.selects_spec hsel
  have a := findClass_of_methodNamed h0
  have b := findClass_of_methodNamed q3
  rw [e] at b
  have c : r0.cls = m2.cls := Option.some.inj (a.symm.trans b)
  exact ⟨kP, by rw [c]; exact hkP, hkPi⟩
theorem own_links {first s : State} {args : Array Value} {o : Option Outcome} {idx : List Nat} {cls : String} {x : MethodName} {index d c : Nat} {ck ok : Class} {meth : Method} {mf : MethodId}
    (hd : s.vm.findClass cls = some d) (hc : s.vm.findClass x.cls = some c) (hck : s.vm.classes[c]? = some ck) (hvi : ck.isInterface = true) (hnone : ck.findMethod x.name x.desc = none) (hf : s.methodFound? x.cls x.name x.desc = some mf)
    (hok : s.vm.classes[mf.cls]? = some ok) (hm : ok.methods[mf.idx]? = some meth) (hx : x.cls ≠ "java/lang/invoke/MethodHandle" ∧ x.cls ≠ "java/lang/invoke/VarHandle") (hnc : x.name ≠ "clone")
    (h : (Jvm.Cond.methodLink cls index x).holds args first o s idx = true) (pl : Platform) (hpl : pl.magicAccessors = ({} : Platform).magicAccessors) : ∃ ci, s.vm.MethodLinksFF pl d index ci c mf ∧ s.rightAt d index (.method mf) = true := by
  have hmeth : s.vm.method? mf = some meth := by simp [Vm.method?, hok, hm]
  have hpoly : ∀ y, signaturePolymorphic ck y = false := fun y => by
    obtain ⟨k, q1, q2⟩ := Vm.findClass_spec hc
    cases hck.symm.trans q1
    simp [signaturePolymorphic, q2, hx.1, hx.2]
  obtain ⟨dk, hdk, -⟩ := Vm.findClass_spec hd
  simp only [Cond.holds, Cond.value, hd, hc, hf] at h
  rcases hme : s.memberEntry? cls index with _ | ⟨ci, via⟩
  · simp [hme] at h
  rcases hcl : s.classLinks cls ci x.cls with _ | linked
  · simp [hme, hcl] at h
  simp only [hme, hcl, hdk, hck, hok, hmeth, Option.bind_eq_bind, Option.bind_some, Option.pure_def, beq_iff_eq, bne_iff_ne, ne_eq, Option.some.injEq, Bool.and_eq_true, Option.isNone_iff_eq_none, Bool.or_eq_true] at h
  obtain ⟨⟨⟨⟨⟨⟨⟨rfl, hnm⟩, hopen⟩, hvia⟩, -⟩, -⟩, hml⟩, hacc⟩ := h
  have hP : s.vm.Plain meth.accessFlags mf.cls ok c d dk := by
    rcases hacc with q | q
    · simpa [Vm.Plain, plainAccess, or_assoc, and_assoc] using q
    · exact (hnc q.1.2).elim
  obtain ⟨cr, hcr, hlinks⟩ := State.classLinks_spec hd hcl pl hpl
  cases hc.symm.trans hcr
  obtain ⟨cp, hcp, hnames⟩ := State.names_spec hnm
  obtain ⟨dk', cf, hdk', hcf, rfl⟩ := State.poolOf?_spec hd hcp
  cases hdk.symm.trans hdk'
  obtain ⟨ci', nt, hent, hnt, -⟩ := namesOf?_method hnames
  have hvt : via = true := hvia.symm.trans hvi
  obtain ⟨dk2, cf2, nm2, q0, q1, q2, q3, q4, -⟩ := hlinks.here
  cases hdk.symm.trans q1
  cases hcf.symm.trans q2
  rcases hent with hent | hent
  · simp [State.memberEntry?, hcp, hent, hvt] at hme
  · obtain rfl : ci' = ci := by simpa [State.memberEntry?, hcp, hent, hvt] using hme
    refine ⟨ci', ⟨dk, cf, nt, x.name, x.desc, ck, ok, meth, hdk, hcf, hent, hnt, hlinks, fun he => ?_, hck, hvi, hpoly, hnone, State.faceFind_of_found hc hck hvi hpoly hnone hf, hok, hm, q3.trans hml.symm, hP, State.openOr_spec hd hdk hopen⟩, by simp [State.rightAt, hdk, hcf, hnames, hf]⟩
    subst he
    simp [ConstantPool.className?, hent] at q4
section OwnEight
variable {p : Program} {l : Launch} {e : Env} {R : Room} {s : State} {m : MethodId} {args : Array Value} {below : List Frame} {meth : Method} {c : Code} {T : State} {locs : List Loc} {cells slots : Nat} {Z : State} {a0 : Array Value} {h : Heap}
variable {Q : Option Value → Heap → List Loc → Prop} {QW : Option Value → Vm → Heap → List Loc → Prop} {P : Vm → Prop}
theorem own_ifUp (X : Stand p l e R s m args below meth c T locs cells slots) (hexec : p.tables.exec = Jvm.exec) {own J C : String} {index count : Nat} {x z : MethodName} (hown : s.vm.findClass own = some m.cls)
    (hlink : (Jvm.Cond.methodLink own index x).before args s = true) (hface : (Jvm.Cond.interfaceMethod x.cls J x.name x.desc).before args s = true) (hdecl : (Jvm.Cond.declares ⟨J, x.name, x.desc⟩).before args s = true) (hxo : x.cls ≠ J) (hnc : x.name ≠ "clone")
    (hx : x.cls ≠ "java/lang/invoke/MethodHandle" ∧ x.cls ≠ "java/lang/invoke/VarHandle") (hsel : (Jvm.Cond.selects C x z).before args s = true) (hinst : (Jvm.Cond.instanceMethod z).before args s = true) (hpub : (Jvm.Cond.publicMethod z).before args s = true)
    (hunh : (Jvm.Cond.unhidden C x.name x.desc).before args s = true) (hcast : (Jvm.Cond.castable C x.cls).before args s = true)
    {b : Addr} {cB : ClassId} {kB : Class} (hcB : s.vm.findClass C = some cB) (hkB : s.vm.classes[cB]? = some kB) (hrecv : IsOf cB T b)
    {g : JFrame} (hg : g.method = m) {argsL rest : List Value} (hlen : ∀ sig, parseMethodDescriptor x.desc = some sig → argsL.length = sig.parameters.length) (hstack : g.stack = argsL.reverse ++ .ref b :: rest) (hdg : decode c.code g.pc = .ok (.invokeinterface index count, 5)) :
    ∃ vm' mk, Stand p l e R s m args below meth c (T.setVm vm') locs cells slots ∧ s.methodNamed? z = some mk ∧
      ∀ target, (∀ acts, Steps p.tables e below (doInvoke e ((T.setVm vm').setTop { g with stack := rest }) acts mk (.ref b :: argsL).toArray).1 target) → Steps p.tables e below (T.setTop g) target := by
  have hpl : e.platform.magicAccessors = ({} : Platform).magicAccessors := by rw [X.admits.platform]
  obtain ⟨cell, hcell, hcls, hstat⟩ := hrecv
  obtain ⟨r0, r, hn, hrm, hstR, hsigR⟩ := Cond.declares_spec hdecl
  obtain ⟨cL, kL, r1, hcL, hkL, hiL, hfL, hn1⟩ := Cond.interfaceMethod_spec hface
  cases hn.symm.trans hn1
  obtain ⟨hnR, hdR⟩ := name_of_methodNamed hn hrm
  obtain ⟨mk, mm, hnamed, hmm, -, habs⟩ := Cond.instanceMethod_spec hinst
  obtain ⟨c2, r2, m2, u1, u2, u3, u4, -⟩ := Cond.selects_spec hsel
  cases hcB.symm.trans u1
  cases hfL.symm.trans u2
  cases hnamed.symm.trans u3
  obtain ⟨c3, t3, v1, v2, v3⟩ := Cond.castable_spec hcast
  cases hcB.symm.trans v1
  cases hcL.symm.trans v2
  obtain ⟨ok, hok, hokn⟩ := className_of_methodNamed hn
  have hmO : ok.methods[r0.idx]? = some r := by simpa [Vm.method?, hok] using hrm
  obtain ⟨kL', hkL', hnL⟩ := Vm.findClass_spec hcL
  cases hkL.symm.trans hkL'
  have hnone : kL.findMethod x.name x.desc = none := by
    rcases hj : kL.findMethod x.name x.desc with _ | j
    · rfl
    · exfalso
      have hlt : (kL.methods[j]?).isSome := by
        obtain ⟨q, -, -⟩ := Array.findIdx?_eq_some_iff_getElem.mp hj
        simp [q]
      have q := State.methodFound?_declared hcL hkL (fun y => by simp [signaturePolymorphic, hnL, hx.1, hx.2]) hj hlt
      obtain rfl : r0 = ⟨cL, j⟩ := Option.some.inj (hfL.symm.trans q)
      cases hkL.symm.trans hok
      exact hxo (hnL.symm.trans hokn)
  obtain ⟨ci, hl, hright⟩ := own_links hown hcL hkL hiL hnone hfL hok hmO hx hnc hlink e.platform hpl
  have hE := State.methodEntryFF (e := e) X.warmed hl hright
  obtain ⟨dk, cf, nt, _, _, ck, _, _, hd, hcf, hcp, -, -, -, hck, hvia, -⟩ := hl.here
  cases hkL.symm.trans hck
  have al := hE.warmed.alike
  obtain ⟨dk2, hdk2, hres⟩ := hE.classReady
  obtain ⟨dk3, hdk3, hed⟩ := al.2.2 _ _ hd
  cases hdk2.symm.trans hdk3
  obtain ⟨ck2, hck2, hec⟩ := al.2.2 _ _ hck
  obtain ⟨kB2, hkB2, -⟩ := al.2.2 _ _ hkB
  have hway : ((cell.cls :: s.vm.superclasses cell.cls).any fun k => (declaredIn s.vm r.name r.desc k).any fun (_, y) => y.isPrivate || y.isStatic) = false := by rw [hnR, hdR, hcls]; exact Cond.unhidden_spec hcB hunh
  refine ⟨T.vm.calledUp m.cls ci index cL r0, mk, X.noted hE.warmed, hnamed, fun target k => ?_⟩
  subst hg
  jvm_step X.here [hexec, hdg, invokeinterface.wp_coldFace (e := e) (s := T) (s₀ := s) (f := g) (count := count) X.here.top X.warmed hE hd hcf (Or.inr hcp) hck hvia,
    invokeinterface.wp_ready (e := e) (s := T.setVm (T.vm.calledUp g.method.cls ci index cL r0)) (f := g) (count := count) (r := r) (meth := mm) (m := mk) (args := argsL) (rest := rest) (cell := cell) (kcell := kB2) (ck := dk2) (nk := ck2) (cf := cf) (ci := ci) (nt := nt) (named := cL)
      X.here.top hE.ready ((al.method? _).trans hrm) hstR (hlen _ hsigR) hstack hcell (fun z q => by rw [q] at hstat; cases hstat) (by rw [hcls]; exact hkB2) hdk2 (by rw [hed]; exact hcf) hcp hres hck2 (by rw [hec]; exact hvia)
      ((al.assignable _ _).trans (by rw [hcls]; exact v3)) ((al.selectMethod _ _ _).trans (by rw [Launch.admits_selectMethod X.admits, hcls]; exact u4)) ((al.method? _).trans hmm)
      (Or.inr (Or.inr (by show ((cell.cls :: (T.vm.calledUp g.method.cls ci index cL r0).superclasses cell.cls).any fun k => (declaredIn (T.vm.calledUp g.method.cls ci index cL r0) r.name r.desc k).any fun (_, y) => y.isPrivate || y.isStatic) = false; simp only [al.superclasses, al.declaredIn]; exact hway)))
      (Or.inl (Cond.publicMethod_spec hnamed hmm hpub)) habs]
  exact k
theorem own_faceUp (X : Stand p l e R s m args below meth c T locs cells slots) (hx : p.tables.exec = Jvm.exec) (hZ : Z.Warmed39 s.vm) {own C J : String} {index count : Nat} {y z : MethodName} {bytes : ByteArray} {maxL : Nat} {ret : Option FieldType} {rm : Room} {W : Nat} {a : Addr} {argsL rest : List Value}
    (hown : s.vm.findClass own = some m.cls) (w1 : (Jvm.Cond.methodLink own index y).before a0 Z = true) (w2 : (Jvm.Cond.declares ⟨J, y.name, y.desc⟩).before a0 Z = true) (w5 : (Jvm.Cond.interfaceMethod y.cls J y.name y.desc).before args s = true) (hxo : y.cls ≠ J) (hnc : y.name ≠ "clone") (w3 : (Jvm.Cond.selects C y z).before a0 Z = true) (w4 : (Jvm.Cond.instanceMethod z).before a0 Z = true) (w6 : (Jvm.Cond.publicMethod z).before a0 Z = true) (w7 : (Jvm.Cond.unhidden C y.name y.desc).before a0 Z = true) (w8 : (Jvm.Cond.castable C y.cls).before a0 Z = true) (wz : (Jvm.Cond.initialized z.cls).before a0 Z = true) (wc : (Jvm.Cond.code z bytes maxL ret).before a0 Z = true)
    (hM : OMet l Z z bytes maxL ret rm (.ref a :: argsL).toArray h Q) (eT : T.heap = h) (E : Exa Z h a C) {g : JFrame} (hg : g.method = m) (hsize : g.locals.size = c.maxLocals) (hlen : ∀ sig, parseMethodDescriptor y.desc = some sig → argsL.length = sig.parameters.length)
    (hstack : g.stack = argsL.reverse ++ .ref a :: rest) (hW : 2 * g.monitorRoom + (rest.map fun v => v.category).sum ≤ W) (hdg : decode c.code g.pc = .ok (.invokeinterface index count, 5))
    (hf : rm.frames + 1 ≤ R.frames) (hl : W + (maxL + 11) + rm.locals ≤ R.locals) (hc : cells + rm.cells ≤ R.cells) (hs : slots + rm.slots ≤ R.slots)
    (hy : y.cls ≠ "java/lang/invoke/MethodHandle" ∧ y.cls ≠ "java/lang/invoke/VarHandle" := by decide) :
    ∃ (v : Option Value) (T' : State) (L : List Loc), Stand p l e R s m args below meth c T' (locs ++ L) (cells + rm.cells) (slots + rm.slots) ∧ Q v T'.heap L ∧
      ∀ target, Steps p.tables e below (T'.setTop { g with pc := g.pc + 5, stack := v.toList ++ rest }) target → Steps p.tables e below (T.setTop g) target := by
  obtain ⟨cq, kq, qa, qb, qc⟩ := isOf hZ eT E
  obtain ⟨vm', mk, X1, hnamed, st1⟩ := own_ifUp X hx hown (mvT hZ w1) w5 (mvT hZ w2) hxo hnc hy (mvT hZ w3) (mvT hZ w4) (mvT hZ w6) (mvT hZ w7) (mvT hZ w8) qa qb qc hg hlen hstack hdg
  obtain ⟨v, ⟨T', L', k', n'⟩, X', ⟨L, hQ, l1, y1, z1⟩, st⟩ := own_back (W := W) hM hZ wc wz hf hl m meth c ⟨T.setVm vm', locs, cells, slots⟩ { g with stack := rest } (.invokeinterface index count) mk (.ref a :: argsL).toArray X1 hg hsize hdg hW (X1.named hnamed) ⟨rfl, eT, hc, hs⟩
  dsimp only [Pt.U, Pt.locs, Pt.cells, Pt.slots] at X' l1 y1 z1 st hQ
  subst l1 y1 z1
  exact ⟨v, T', L, X', hQ, fun t k => st1 _ fun acts => by rw [doInvoke_state]; exact st.trans k⟩
theorem own_virtualW (X : Stand p l e R s m args below meth c T locs cells slots) (hx : p.tables.exec = Jvm.exec) (hZ : Z.Warmed39 s.vm) {own C : String} {index : Nat} {y z : MethodName} {bytes : ByteArray} {maxL : Nat} {ret : Option FieldType} {rm : Room} {W : Nat} {a : Addr} {argsL rest : List Value}
    (hown : s.vm.findClass own = some m.cls) (w1 : (Jvm.Cond.methodLink own index y).before a0 Z = true) (w2 : (Jvm.Cond.declares y).before a0 Z = true) (hnf : NotFace s y) (w3 : (Jvm.Cond.selects C y z).before a0 Z = true) (w4 : (Jvm.Cond.instanceMethod z).before a0 Z = true) (wz : (Jvm.Cond.initialized z.cls).before a0 Z = true) (wc : (Jvm.Cond.code z bytes maxL ret).before a0 Z = true)
    (hM : OMetW l Z P z bytes maxL ret rm (.ref a :: argsL).toArray h QW) (hP : ∀ vm, s.WarmedH vm → P vm) (eT : T.heap = h) (E : Exa Z h a C) {g : JFrame} (hg : g.method = m) (hsize : g.locals.size = c.maxLocals) (hlen : ∀ sig, parseMethodDescriptor y.desc = some sig → argsL.length = sig.parameters.length)
    (hstack : g.stack = argsL.reverse ++ .ref a :: rest) (hW : 2 * g.monitorRoom + (rest.map fun v => v.category).sum ≤ W) (hdg : decode c.code g.pc = .ok (.invokevirtual index, 3))
    (hf : rm.frames + 1 ≤ R.frames) (hl : W + (maxL + 11) + rm.locals ≤ R.locals) (hc : cells + rm.cells ≤ R.cells) (hs : slots + rm.slots ≤ R.slots)
    (hy : y.cls ≠ "java/lang/invoke/MethodHandle" ∧ y.cls ≠ "java/lang/invoke/VarHandle" := by decide) :
    ∃ (v : Option Value) (T' : State) (L : List Loc), Stand p l e R (s.setVm T'.vm) m args below meth c T' (locs ++ L) (cells + rm.cells) (slots + rm.slots) ∧ s.Since T'.vm T'.heap.size ∧ Z.Warmed39 (s.setVm T'.vm).vm ∧ (s.setVm T'.vm).vm.findClass own = some m.cls ∧ QW v T'.vm T'.heap L ∧
      ∀ target, Steps p.tables e below (T'.setTop { g with pc := g.pc + 3, stack := v.toList ++ rest }) target → Steps p.tables e below (T.setTop g) target := by
  obtain ⟨cq, kq, qa, qb, qc⟩ := isOf hZ eT E
  obtain ⟨v, vm₁, ⟨T', L', k', n'⟩, -, X', hS, -, ⟨L, hQ, l1, y1, z1⟩, st⟩ := X.virtualBackS hx hown (mvT hZ w1) (mvT hZ w2) hnf (mvT hZ w3) (mvT hZ w4) hy (own_backW (W := W) hM hZ hP wc wz hf hl) qa qc hg hsize (Steps.refl _) hlen hstack hW hdg (fun _ _ => ⟨rfl, eT, hc, hs⟩)
  dsimp only [Pt.U, Pt.locs, Pt.cells, Pt.slots] at X' l1 y1 z1 st hQ hS
  subst l1 y1 z1
  exact ⟨v, T', L, X', hS, State.Warmed39.trans hZ hS.1, by rw [show (s.setVm T'.vm).vm = T'.vm from rfl, hS.1.alike.findClass]; exact hown, hQ, fun t k => st.trans k⟩
theorem own_ldcO (X : Stand p l e R s m args below meth c T locs cells slots) (hx : p.tables.exec = Jvm.exec) (hZ : Z.Warmed39 s.vm) {own text : String} {index : Nat} (hown : s.vm.findClass own = some m.cls) (w : (Jvm.Cond.stringLink own index text).before a0 Z = true) (wS : ∀ a ∈ Bundle.stringAtoms, a.before a0 Z = true)
    (eT : T.heap = h) {g : JFrame} (hg : g.method = m) (hd : decode c.code g.pc = .ok (.ldc index, 2)) {n : Nat} (hn : 4 * text.toList.length ≤ n) (hbig : n ≤ 536870912) (hc : cells + 2 ≤ R.cells) (hl' : slots + (n + 4) ≤ R.slots) :
    ∃ (a : Addr) (T' : State) (h' : Heap) (k1 : Nat), Stand p l e R (s.setVm T'.vm) m args below meth c T' locs (cells + 2) (slots + (n + 4)) ∧ T'.heap = h' ∧ Ext h h' ∧ s.Since T'.vm k1 ∧ k1 ≤ h'.size ∧ Z.Warmed39 (s.setVm T'.vm).vm ∧ (s.setVm T'.vm).vm.findClass own = some m.cls ∧
      ∀ target, Steps p.tables e below (T'.setTop { g with pc := g.pc + 2, stack := .ref a :: g.stack }) target → Steps p.tables e below (T.setTop g) target := by
  obtain ⟨a, T', h', k1, r1, r2, r3, r4, r5, r6, r7, -, -, st⟩ := ldcOH (s := s) (vm0 := s.vm) (EL := []) X hx hZ hown w wS eT ((State.WarmedH.refl s).since 0) (Nat.zero_le _) EW.nil (fun q hq => by cases hq) hg hd hn hbig hc hl'
  exact ⟨a, T', h', k1, r1, r2, r3, r4, r5, r6, r7, st⟩
theorem own_clone (X : Stand p l e R s m args below meth c T locs cells slots) (hx : p.tables.exec = Jvm.exec) (hZ : Z.Warmed39 s.vm) {own ad : String} {index : Nat} (hown : s.vm.findClass own = some m.cls)
    (w1 : (Jvm.Cond.methodLink own index ⟨ad, "clone", "()Ljava/lang/Object;"⟩).before a0 Z = true) (w2 : (Jvm.Cond.sameMethod ad "java/lang/Object" "clone" "()Ljava/lang/Object;").before a0 Z = true) (w3 : (Jvm.Cond.native ⟨"java/lang/Object", "clone", "()Ljava/lang/Object;"⟩).before a0 Z = true)
    (w4 : (Jvm.Cond.instanceMethod ⟨"java/lang/Object", "clone", "()Ljava/lang/Object;"⟩).before a0 Z = true) (w5 : (Jvm.Cond.selects ad ⟨ad, "clone", "()Ljava/lang/Object;"⟩ ⟨"java/lang/Object", "clone", "()Ljava/lang/Object;"⟩).before a0 Z = true) (w6 : (Jvm.Cond.castable ad "java/lang/Cloneable").before a0 Z = true)
    (eT : T.heap = h) {a : Addr} {ty : FieldType} {C : String} {f : Nat → Value} (A : ORef Z h a ty C 0 f) (E : Exa Z h a ad) {g : JFrame} (hg : g.method = m) (hsize : g.locals.size = c.maxLocals) {rest : List Value} (hs : g.stack = .ref a :: rest) (hd : decode c.code g.pc = .ok (.invokevirtual index, 3))
    (hf : 1 ≤ R.frames) {W : Nat} (hW : 2 * g.monitorRoom + (rest.map fun v => v.category).sum ≤ W) (hl : W + 14 ≤ R.locals) (hc : cells + 1 ≤ R.cells) (hsl : slots + 0 ≤ R.slots) :
    ∃ T' h', Stand p l e R s m args below meth c T' locs (cells + 1) (slots + 0) ∧ T'.heap = h' ∧ Ext h h' ∧ ORef Z h' h.size ty C 0 f ∧ Exa Z h' h.size ad ∧
      ∀ target, Steps p.tables e below (T'.setTop { g with pc := g.pc + 3, stack := .ref h.size :: rest }) target → Steps p.tables e below (T.setTop g) target := by
  obtain ⟨cl, A1, S, B, H, O⟩ := A
  obtain ⟨T', h', X', e', ex, A', E', st⟩ := cloneA X hx hZ hown w1 w2 w3 w4 w5 w6 eT A1 E (fitC_of A1 fun i hi => absurd hi (by rw [S]; exact Nat.not_lt_zero i)) hg hsize hs hd hf hW hl (cap := 0) (by rw [S]; exact Nat.le_refl _) hc hsl
  exact ⟨T', h', X', e', ex, ⟨cloneOf cl, A', S, B, H, O⟩, E', st⟩
theorem own_staticUp (X : Stand p l e R s m args below meth c T locs cells slots) (hx : p.tables.exec = Jvm.exec) (hZ : Z.Warmed39 s.vm) {own owner : String} {index : Nat} {y : MethodName} {bytes : ByteArray} {maxL : Nat} {ret : Option FieldType} {rm : Room} {W : Nat} {argsL rest : List Value}
    (hown : s.vm.findClass own = some m.cls) (w1 : (Jvm.Cond.methodLink own index y).before a0 Z = true) (w5 : (Jvm.Cond.sameMethod y.cls owner y.name y.desc).before a0 Z = true) (w2 : (Jvm.Cond.static ⟨owner, y.name, y.desc⟩).before a0 Z = true) (wz : (Jvm.Cond.initialized owner).before a0 Z = true) (wc : (Jvm.Cond.code ⟨owner, y.name, y.desc⟩ bytes maxL ret).before a0 Z = true)
    (hM : OMet l Z ⟨owner, y.name, y.desc⟩ bytes maxL ret rm argsL.toArray h Q) (eT : T.heap = h) {g : JFrame} (hg : g.method = m) (hsize : g.locals.size = c.maxLocals) (hlen : ∀ sig, parseMethodDescriptor y.desc = some sig → argsL.length = sig.parameters.length)
    (hstack : g.stack = argsL.reverse ++ rest) (hW : 2 * g.monitorRoom + (rest.map fun v => v.category).sum ≤ W) (hdg : decode c.code g.pc = .ok (.invokestatic index, 3))
    (hf : rm.frames + 1 ≤ R.frames) (hl : W + (maxL + 11) + rm.locals ≤ R.locals) (hc : cells + rm.cells ≤ R.cells) (hs : slots + rm.slots ≤ R.slots)
    (hy : owner ≠ "java/lang/invoke/MethodHandle" ∧ owner ≠ "java/lang/invoke/VarHandle" := by decide) :
    ∃ (v : Option Value) (T' : State) (L : List Loc), Stand p l e R s m args below meth c T' (locs ++ L) (cells + rm.cells) (slots + rm.slots) ∧ Q v T'.heap L ∧
      ∀ target, Steps p.tables e below (T'.setTop { g with pc := g.pc + 3, stack := v.toList ++ rest }) target → Steps p.tables e below (T.setTop g) target := by
  have hcode : (Jvm.Cond.code ⟨owner, y.name, y.desc⟩ bytes maxL ret).before args s = true := mvT hZ wc
  obtain ⟨mk, hnamed⟩ := Cond.code_named hcode
  obtain ⟨methM, cM, hmethM, -, -, -, -, -, -, hsig⟩ := Cond.code_spec hnamed hcode
  obtain ⟨v, vm₁, ⟨T', L', k', n'⟩, -, X', ⟨L, hQ, l1, y1, z1⟩, st⟩ := X.staticBackUp hx hown (mvT hZ w1) (mvT hZ w5) (mvT hZ w2) (mvT hZ wz) hnamed hmethM hsig hy (own_back (W := W) hM hZ wc wz hf hl) hg hsize (Steps.refl _) hlen hstack hW hdg (fun _ _ => ⟨rfl, eT, hc, hs⟩)
  dsimp only [Pt.U, Pt.locs, Pt.cells, Pt.slots] at X' l1 y1 z1 st hQ
  subst l1 y1 z1
  exact ⟨v, T', L, X', hQ, fun t k => st.trans k⟩
end OwnEight
theorem own_pn49 : plainFor (⟨"com/example/unify_trace/unifytrace/term/Term", "isNameCharacter", "(C)Z"⟩ : MethodName) = true := plainFor_of_name (by first | (simp [plainName, overriddenIn]; done) | decide +kernel)
theorem own_ef49_I (m : MethodId) (x0 : Int32) : entryFrame m #[(.int x0)] 1 = mkF m 0 #[.val (.int x0)] [] := by first | (simp [entryFrame, mkF, argsToLocals, Value.category]; done) | rfl
theorem own_d49_0 : decode prog_27_method_8_code 0 = .ok (.iload_n 0, 1) := by decide +kernel
theorem own_d49_1 : decode prog_27_method_8_code 1 = .ok (.bipush 97, 2) := by decide +kernel
theorem own_d49_3 : decode prog_27_method_8_code 3 = .ok (.if_icmp .lt 9, 3) := by decide +kernel
theorem own_d49_12 : decode prog_27_method_8_code 12 = .ok (.iload_n 0, 1) := by decide +kernel
theorem own_d49_13 : decode prog_27_method_8_code 13 = .ok (.bipush 65, 2) := by decide +kernel
theorem own_d49_15 : decode prog_27_method_8_code 15 = .ok (.if_icmp .lt 9, 3) := by decide +kernel
theorem own_d49_24 : decode prog_27_method_8_code 24 = .ok (.iload_n 0, 1) := by decide +kernel
theorem own_d49_25 : decode prog_27_method_8_code 25 = .ok (.bipush 48, 2) := by decide +kernel
theorem own_d49_27 : decode prog_27_method_8_code 27 = .ok (.if_icmp .lt 9, 3) := by decide +kernel
theorem own_d49_36 : decode prog_27_method_8_code 36 = .ok (.iload_n 0, 1) := by decide +kernel
theorem own_d49_37 : decode prog_27_method_8_code 37 = .ok (.bipush 95, 2) := by decide +kernel
theorem own_d49_39 : decode prog_27_method_8_code 39 = .ok (.if_icmp .ne 7, 3) := by decide +kernel
theorem own_d49_42 : decode prog_27_method_8_code 42 = .ok (.iconst 1, 1) := by decide +kernel
theorem own_d49_43 : decode prog_27_method_8_code 43 = .ok (.goto 4, 3) := by decide +kernel
theorem own_d49_47 : decode prog_27_method_8_code 47 = .ok (.ireturn, 1) := by decide +kernel
theorem own_d49_46 : decode prog_27_method_8_code 46 = .ok (.iconst 0, 1) := by decide +kernel
theorem own_d49_30 : decode prog_27_method_8_code 30 = .ok (.iload_n 0, 1) := by decide +kernel
theorem own_d49_31 : decode prog_27_method_8_code 31 = .ok (.bipush 57, 2) := by decide +kernel
theorem own_d49_33 : decode prog_27_method_8_code 33 = .ok (.if_icmp .le 9, 3) := by decide +kernel
theorem own_d49_18 : decode prog_27_method_8_code 18 = .ok (.iload_n 0, 1) := by decide +kernel
theorem own_d49_19 : decode prog_27_method_8_code 19 = .ok (.bipush 90, 2) := by decide +kernel
theorem own_d49_21 : decode prog_27_method_8_code 21 = .ok (.if_icmp .le 21, 3) := by decide +kernel
theorem own_d49_6 : decode prog_27_method_8_code 6 = .ok (.iload_n 0, 1) := by decide +kernel
theorem own_d49_7 : decode prog_27_method_8_code 7 = .ok (.bipush 122, 2) := by decide +kernel
theorem own_d49_9 : decode prog_27_method_8_code 9 = .ok (.if_icmp .le 33, 3) := by decide +kernel
theorem own_pn48 : plainFor (⟨"com/example/unify_trace/unifytrace/program/TypeBasePinLaw", "rest", "(I)C"⟩ : MethodName) = true := plainFor_of_name (by first | (simp [plainName, overriddenIn]; done) | decide +kernel)
theorem own_ef48_I (m : MethodId) (x0 : Int32) : entryFrame m #[(.int x0)] 2 = mkF m 0 #[.val (.int x0), .unset] [] := by first | (simp [entryFrame, mkF, argsToLocals, Value.category]; done) | rfl
theorem own_d48_0 : decode method_2_code 0 = .ok (.iload_n 0, 1) := by decide +kernel
theorem own_d48_1 : decode method_2_code 1 = .ok (.ldc 7, 2) := by decide +kernel
theorem own_d48_3 : decode method_2_code 3 = .ok (.iand, 1) := by decide +kernel
theorem own_d48_4 : decode method_2_code 4 = .ok (.bipush 63, 2) := by decide +kernel
theorem own_d48_6 : decode method_2_code 6 = .ok (.irem, 1) := by decide +kernel
theorem own_d48_7 : decode method_2_code 7 = .ok (.istore_n 1, 1) := by decide +kernel
theorem own_d48_8 : decode method_2_code 8 = .ok (.iload_n 1, 1) := by decide +kernel
theorem own_d48_9 : decode method_2_code 9 = .ok (.bipush 26, 2) := by decide +kernel
theorem own_d48_11 : decode method_2_code 11 = .ok (.if_icmp .ge 9, 3) := by decide +kernel
theorem own_d48_14 : decode method_2_code 14 = .ok (.bipush 97, 2) := by decide +kernel
theorem own_d48_16 : decode method_2_code 16 = .ok (.iload_n 1, 1) := by decide +kernel
theorem own_d48_17 : decode method_2_code 17 = .ok (.iadd, 1) := by decide +kernel
theorem own_d48_18 : decode method_2_code 18 = .ok (.i2c, 1) := by decide +kernel
theorem own_d48_19 : decode method_2_code 19 = .ok (.ireturn, 1) := by decide +kernel
theorem own_d48_20 : decode method_2_code 20 = .ok (.iload_n 1, 1) := by decide +kernel
theorem own_d48_21 : decode method_2_code 21 = .ok (.bipush 52, 2) := by decide +kernel
theorem own_d48_23 : decode method_2_code 23 = .ok (.if_icmp .ge 12, 3) := by decide +kernel
theorem own_d48_26 : decode method_2_code 26 = .ok (.bipush 65, 2) := by decide +kernel
theorem own_d48_28 : decode method_2_code 28 = .ok (.iload_n 1, 1) := by decide +kernel
theorem own_d48_29 : decode method_2_code 29 = .ok (.bipush 26, 2) := by decide +kernel
theorem own_d48_31 : decode method_2_code 31 = .ok (.isub, 1) := by decide +kernel
theorem own_d48_32 : decode method_2_code 32 = .ok (.iadd, 1) := by decide +kernel
theorem own_d48_33 : decode method_2_code 33 = .ok (.i2c, 1) := by decide +kernel
theorem own_d48_34 : decode method_2_code 34 = .ok (.ireturn, 1) := by decide +kernel
theorem own_d48_35 : decode method_2_code 35 = .ok (.iload_n 1, 1) := by decide +kernel
theorem own_d48_36 : decode method_2_code 36 = .ok (.bipush 62, 2) := by decide +kernel
theorem own_d48_38 : decode method_2_code 38 = .ok (.if_icmp .ge 12, 3) := by decide +kernel
theorem own_d48_41 : decode method_2_code 41 = .ok (.bipush 48, 2) := by decide +kernel
theorem own_d48_43 : decode method_2_code 43 = .ok (.iload_n 1, 1) := by decide +kernel
theorem own_d48_44 : decode method_2_code 44 = .ok (.bipush 52, 2) := by decide +kernel
theorem own_d48_46 : decode method_2_code 46 = .ok (.isub, 1) := by decide +kernel
theorem own_d48_47 : decode method_2_code 47 = .ok (.iadd, 1) := by decide +kernel
theorem own_d48_48 : decode method_2_code 48 = .ok (.i2c, 1) := by decide +kernel
theorem own_d48_49 : decode method_2_code 49 = .ok (.ireturn, 1) := by decide +kernel
theorem own_d48_50 : decode method_2_code 50 = .ok (.bipush 95, 2) := by decide +kernel
theorem own_d48_52 : decode method_2_code 52 = .ok (.ireturn, 1) := by decide +kernel
theorem own_d41_2 : decode prog_27_method_7_code 2 = .ok (.iload_n 2, 1) := by decide +kernel
theorem own_d41_3 : decode prog_27_method_7_code 3 = .ok (.aload_n 0, 1) := by decide +kernel
theorem own_d41_4 : decode prog_27_method_7_code 4 = .ok (.invokevirtual 75, 3) := by decide +kernel
theorem own_pd0 : parseMethodDescriptor "()I" = some ⟨[], some .int⟩ := by decide +kernel
theorem own_d41_7 : decode prog_27_method_7_code 7 = .ok (.if_icmp .ge 22, 3) := by decide +kernel
theorem own_d41_29 : decode prog_27_method_7_code 29 = .ok (.iconst 1, 1) := by decide +kernel
theorem own_d41_30 : decode prog_27_method_7_code 30 = .ok (.ireturn, 1) := by decide +kernel
theorem own_d41_10 : decode prog_27_method_7_code 10 = .ok (.aload_n 0, 1) := by decide +kernel
theorem own_d41_11 : decode prog_27_method_7_code 11 = .ok (.iload_n 2, 1) := by decide +kernel
theorem own_d41_12 : decode prog_27_method_7_code 12 = .ok (.invokevirtual 80, 3) := by decide +kernel
theorem own_pd1 : parseMethodDescriptor "(I)C" = some ⟨[.int], some .char⟩ := by decide +kernel
theorem own_d41_15 : decode prog_27_method_7_code 15 = .ok (.invokestatic 84, 3) := by decide +kernel
theorem own_pd2 : parseMethodDescriptor "(C)Z" = some ⟨[.char], some .boolean⟩ := by decide +kernel
theorem own_d41_18 : decode prog_27_method_7_code 18 = .ok (.ifCond .ne 5, 3) := by decide +kernel
theorem own_d41_23 : decode prog_27_method_7_code 23 = .ok (.iinc 2 1, 3) := by decide +kernel
theorem own_d41_26 : decode prog_27_method_7_code 26 = .ok (.goto (-24), 3) := by decide +kernel
theorem own_pn41 : plainFor (⟨"com/example/unify_trace/unifytrace/term/Term", "isNameRest", "(Ljava/lang/String;I)Z"⟩ : MethodName) = true := plainFor_of_name (by first | (simp [plainName, overriddenIn]; done) | decide +kernel)
theorem own_ef41_RI (m : MethodId) (x0 : Addr) (x1 : Int32) : entryFrame m #[(.ref x0), (.int x1)] 3 = mkF m 0 #[.val (.ref x0), .val (.int x1), .unset] [] := by first | (simp [entryFrame, mkF, argsToLocals, Value.category]; done) | rfl
theorem own_d41_0 : decode prog_27_method_7_code 0 = .ok (.iload_n 1, 1) := by decide +kernel
theorem own_d41_1 : decode prog_27_method_7_code 1 = .ok (.istore_n 2, 1) := by decide +kernel
theorem own_pn35 : plainFor (⟨"java/util/Objects", "requireNonNull", "(Ljava/lang/Object;Ljava/lang/String;)Ljava/lang/Object;"⟩ : MethodName) = true := plainFor_of_name (by first | (simp [plainName, overriddenIn]; done) | decide +kernel)
theorem own_ef35_RR (m : MethodId) (x0 : Addr) (x1 : Addr) : entryFrame m #[(.ref x0), (.ref x1)] 2 = mkF m 0 #[.val (.ref x0), .val (.ref x1)] [] := by first | (simp [entryFrame, mkF, argsToLocals, Value.category]; done) | rfl
theorem own_d35_0 : decode jdk_31_method_11_code 0 = .ok (.aload_n 0, 1) := by decide +kernel
theorem own_d35_1 : decode jdk_31_method_11_code 1 = .ok (.ifnonnull 12, 3) := by decide +kernel
theorem own_d35_13 : decode jdk_31_method_11_code 13 = .ok (.aload_n 0, 1) := by decide +kernel
theorem own_d35_14 : decode jdk_31_method_11_code 14 = .ok (.areturn, 1) := by decide +kernel
theorem own_d34_3 : decode prog_25_method_2_code 3 = .ok (.invokestatic 24, 3) := by decide +kernel
theorem own_pd3 : parseMethodDescriptor "(Ljava/lang/Object;Ljava/lang/String;)Ljava/lang/Object;" = some ⟨[(.object "java/lang/Object"), (.object "java/lang/String")], some (.object "java/lang/Object")⟩ := by decide +kernel
theorem own_d34_6 : decode prog_25_method_2_code 6 = .ok (.pop, 1) := by decide +kernel
theorem own_d34_7 : decode prog_25_method_2_code 7 = .ok (.aload_n 0, 1) := by decide +kernel
theorem own_d34_8 : decode prog_25_method_2_code 8 = .ok (.invokevirtual 32, 3) := by decide +kernel
theorem own_pd4 : parseMethodDescriptor "()Z" = some ⟨[], some .boolean⟩ := by decide +kernel
theorem own_d34_11 : decode prog_25_method_2_code 11 = .ok (.ifCond .ne 33, 3) := by decide +kernel
theorem own_d34_14 : decode prog_25_method_2_code 14 = .ok (.aload_n 0, 1) := by decide +kernel
theorem own_d34_15 : decode prog_25_method_2_code 15 = .ok (.iconst 0, 1) := by decide +kernel
theorem own_d34_16 : decode prog_25_method_2_code 16 = .ok (.invokevirtual 38, 3) := by decide +kernel
theorem own_d34_19 : decode prog_25_method_2_code 19 = .ok (.bipush 97, 2) := by decide +kernel
theorem own_d34_21 : decode prog_25_method_2_code 21 = .ok (.if_icmp .lt 23, 3) := by decide +kernel
theorem own_d34_24 : decode prog_25_method_2_code 24 = .ok (.aload_n 0, 1) := by decide +kernel
theorem own_d34_25 : decode prog_25_method_2_code 25 = .ok (.iconst 0, 1) := by decide +kernel
theorem own_d34_26 : decode prog_25_method_2_code 26 = .ok (.invokevirtual 38, 3) := by decide +kernel
theorem own_d34_29 : decode prog_25_method_2_code 29 = .ok (.bipush 122, 2) := by decide +kernel
theorem own_d34_31 : decode prog_25_method_2_code 31 = .ok (.if_icmp .gt 13, 3) := by decide +kernel
theorem own_d34_34 : decode prog_25_method_2_code 34 = .ok (.aload_n 0, 1) := by decide +kernel
theorem own_d34_35 : decode prog_25_method_2_code 35 = .ok (.iconst 1, 1) := by decide +kernel
theorem own_d34_36 : decode prog_25_method_2_code 36 = .ok (.invokestatic 42, 3) := by decide +kernel
theorem own_pd5 : parseMethodDescriptor "(Ljava/lang/String;I)Z" = some ⟨[(.object "java/lang/String"), .int], some .boolean⟩ := by decide +kernel
theorem own_d34_39 : decode prog_25_method_2_code 39 = .ok (.ifCond .eq 5, 3) := by decide +kernel
theorem own_d34_42 : decode prog_25_method_2_code 42 = .ok (.aload_n 0, 1) := by decide +kernel
theorem own_d34_43 : decode prog_25_method_2_code 43 = .ok (.areturn, 1) := by decide +kernel
theorem own_pn34 : plainFor (⟨"com/example/unify_trace/unifytrace/term/Compound", "checkName", "(Ljava/lang/String;I)Ljava/lang/String;"⟩ : MethodName) = true := plainFor_of_name (by first | (simp [plainName, overriddenIn]; done) | decide +kernel)
theorem own_ef34_RI (m : MethodId) (x0 : Addr) (x1 : Int32) : entryFrame m #[(.ref x0), (.int x1)] 3 = mkF m 0 #[.val (.ref x0), .val (.int x1), .unset] [] := by first | (simp [entryFrame, mkF, argsToLocals, Value.category]; done) | rfl
theorem own_d34_0 : decode prog_25_method_2_code 0 = .ok (.aload_n 0, 1) := by decide +kernel
theorem own_d34_1 : decode prog_25_method_2_code 1 = .ok (.ldc 30, 2) := by decide +kernel
theorem own_pn44 : plainFor (⟨"com/example/unify_trace/unifytrace/term/Term", "<init>", "(Ljava/lang/String;)V"⟩ : MethodName) = true := plainFor_of_name (by first | (simp [plainName, overriddenIn]; done) | decide +kernel)
theorem own_ef44_RR (m : MethodId) (x0 : Addr) (x1 : Addr) : entryFrame m #[(.ref x0), (.ref x1)] 2 = mkF m 0 #[.val (.ref x0), .val (.ref x1)] [] := by first | (simp [entryFrame, mkF, argsToLocals, Value.category]; done) | rfl
theorem own_d44_0 : decode prog_27_method_1_code 0 = .ok (.aload_n 0, 1) := by decide +kernel
theorem own_d44_1 : decode prog_27_method_1_code 1 = .ok (.invokespecial 1, 3) := by decide +kernel
theorem own_d44_4 : decode prog_27_method_1_code 4 = .ok (.aload_n 0, 1) := by decide +kernel
theorem own_d44_5 : decode prog_27_method_1_code 5 = .ok (.aload_n 1, 1) := by decide +kernel
theorem own_d44_6 : decode prog_27_method_1_code 6 = .ok (.putfield 7, 3) := by decide +kernel
theorem own_d44_9 : decode prog_27_method_1_code 9 = .ok (.return_, 1) := by decide +kernel
theorem own_pn33 : plainFor (⟨"com/example/unify_trace/unifytrace/term/Compound", "<init>", "(Ljava/lang/String;[Lcom/example/unify_trace/unifytrace/term/Term;)V"⟩ : MethodName) = true := plainFor_of_name (by first | (simp [plainName, overriddenIn]; done) | decide +kernel)
theorem own_ef33_RRR (m : MethodId) (x0 : Addr) (x1 : Addr) (x2 : Addr) : entryFrame m #[(.ref x0), (.ref x1), (.ref x2)] 7 = mkF m 0 #[.val (.ref x0), .val (.ref x1), .val (.ref x2), .unset, .unset, .unset, .unset] [] := by first | (simp [entryFrame, mkF, argsToLocals, Value.category]; done) | rfl
theorem own_d33_0 : decode prog_25_method_1_code 0 = .ok (.aload_n 0, 1) := by decide +kernel
theorem own_d33_1 : decode prog_25_method_1_code 1 = .ok (.aload_n 1, 1) := by decide +kernel
theorem own_d33_2 : decode prog_25_method_1_code 2 = .ok (.aload_n 2, 1) := by decide +kernel
theorem own_d33_3 : decode prog_25_method_1_code 3 = .ok (.arraylength, 1) := by decide +kernel
theorem own_d33_4 : decode prog_25_method_1_code 4 = .ok (.invokestatic 1, 3) := by decide +kernel
theorem own_pd6 : parseMethodDescriptor "(Ljava/lang/String;I)Ljava/lang/String;" = some ⟨[(.object "java/lang/String"), .int], some (.object "java/lang/String")⟩ := by decide +kernel
theorem own_d33_7 : decode prog_25_method_1_code 7 = .ok (.invokespecial 7, 3) := by decide +kernel
theorem own_pd7 : parseMethodDescriptor "(Ljava/lang/String;)V" = some ⟨[(.object "java/lang/String")], none⟩ := by decide +kernel
theorem own_d33_10 : decode prog_25_method_1_code 10 = .ok (.aload_n 0, 1) := by decide +kernel
theorem own_d33_11 : decode prog_25_method_1_code 11 = .ok (.aload_n 2, 1) := by decide +kernel
theorem own_d33_12 : decode prog_25_method_1_code 12 = .ok (.invokevirtual 13, 3) := by decide +kernel
theorem own_d33_15 : decode prog_25_method_1_code 15 = .ok (.checkcast 14, 3) := by decide +kernel
theorem own_d33_18 : decode prog_25_method_1_code 18 = .ok (.putfield 19, 3) := by decide +kernel
theorem own_d33_21 : decode prog_25_method_1_code 21 = .ok (.aload_n 0, 1) := by decide +kernel
theorem own_d33_22 : decode prog_25_method_1_code 22 = .ok (.getfield 19, 3) := by decide +kernel
theorem own_d33_25 : decode prog_25_method_1_code 25 = .ok (.astore_n 3, 1) := by decide +kernel
theorem own_d33_26 : decode prog_25_method_1_code 26 = .ok (.aload_n 3, 1) := by decide +kernel
theorem own_d33_27 : decode prog_25_method_1_code 27 = .ok (.arraylength, 1) := by decide +kernel
theorem own_d33_28 : decode prog_25_method_1_code 28 = .ok (.istore 4, 2) := by decide +kernel
theorem own_d33_30 : decode prog_25_method_1_code 30 = .ok (.iconst 0, 1) := by decide +kernel
theorem own_d33_31 : decode prog_25_method_1_code 31 = .ok (.istore 5, 2) := by decide +kernel
theorem own_d33_33 : decode prog_25_method_1_code 33 = .ok (.iload 5, 2) := by decide +kernel
theorem own_d33_35 : decode prog_25_method_1_code 35 = .ok (.iload 4, 2) := by decide +kernel
theorem own_d33_37 : decode prog_25_method_1_code 37 = .ok (.if_icmp .ge 23, 3) := by decide +kernel
theorem own_d33_60 : decode prog_25_method_1_code 60 = .ok (.return_, 1) := by decide +kernel
theorem own_pn12 : plainFor (⟨"java/util/AbstractCollection", "<init>", "()V"⟩ : MethodName) = true := plainFor_of_name (by first | (simp [plainName, overriddenIn]; done) | decide +kernel)
theorem own_ef12_R (m : MethodId) (x0 : Addr) : entryFrame m #[(.ref x0)] 1 = mkF m 0 #[.val (.ref x0)] [] := by first | (simp [entryFrame, mkF, argsToLocals, Value.category]; done) | rfl
theorem own_d12_0 : decode jdk_22_method_1_code 0 = .ok (.aload_n 0, 1) := by decide +kernel
theorem own_d12_1 : decode jdk_22_method_1_code 1 = .ok (.invokespecial 1, 3) := by decide +kernel
theorem own_d12_4 : decode jdk_22_method_1_code 4 = .ok (.return_, 1) := by decide +kernel
theorem own_pn11 : plainFor (⟨"java/util/AbstractList", "<init>", "()V"⟩ : MethodName) = true := plainFor_of_name (by first | (simp [plainName, overriddenIn]; done) | decide +kernel)
theorem own_ef11_R (m : MethodId) (x0 : Addr) : entryFrame m #[(.ref x0)] 1 = mkF m 0 #[.val (.ref x0)] [] := by first | (simp [entryFrame, mkF, argsToLocals, Value.category]; done) | rfl
theorem own_d11_0 : decode jdk_39_method_1_code 0 = .ok (.aload_n 0, 1) := by decide +kernel
theorem own_d11_1 : decode jdk_39_method_1_code 1 = .ok (.invokespecial 1, 3) := by decide +kernel
theorem own_pd8 : parseMethodDescriptor "()V" = some ⟨[], none⟩ := by decide +kernel
theorem own_d11_4 : decode jdk_39_method_1_code 4 = .ok (.aload_n 0, 1) := by decide +kernel
theorem own_d11_5 : decode jdk_39_method_1_code 5 = .ok (.iconst 0, 1) := by decide +kernel
theorem own_d11_6 : decode jdk_39_method_1_code 6 = .ok (.putfield 7, 3) := by decide +kernel
theorem own_d11_9 : decode jdk_39_method_1_code 9 = .ok (.return_, 1) := by decide +kernel
theorem own_pn10 : plainFor (⟨"java/util/ArrayList", "<init>", "()V"⟩ : MethodName) = true := plainFor_of_name (by first | (simp [plainName, overriddenIn]; done) | decide +kernel)
theorem own_ef10_R (m : MethodId) (x0 : Addr) : entryFrame m #[(.ref x0)] 1 = mkF m 0 #[.val (.ref x0)] [] := by first | (simp [entryFrame, mkF, argsToLocals, Value.category]; done) | rfl
theorem own_d10_0 : decode jdk_38_method_2_code 0 = .ok (.aload_n 0, 1) := by decide +kernel
theorem own_d10_1 : decode jdk_38_method_2_code 1 = .ok (.invokespecial 1, 3) := by decide +kernel
theorem own_d10_4 : decode jdk_38_method_2_code 4 = .ok (.aload_n 0, 1) := by decide +kernel
theorem own_d10_5 : decode jdk_38_method_2_code 5 = .ok (.getstatic 39, 3) := by decide +kernel
theorem own_d10_8 : decode jdk_38_method_2_code 8 = .ok (.putfield 9, 3) := by decide +kernel
theorem own_d10_11 : decode jdk_38_method_2_code 11 = .ok (.return_, 1) := by decide +kernel
theorem own_pn27 : plainFor (⟨"java/lang/Math", "max", "(II)I"⟩ : MethodName) = true := Jvm.Free.JP.mathPlain rfl (by decide +kernel)
theorem own_ef27_II (m : MethodId) (x0 : Int32) (x1 : Int32) : entryFrame m #[(.int x0), (.int x1)] 2 = mkF m 0 #[.val (.int x0), .val (.int x1)] [] := by first | (simp [entryFrame, mkF, argsToLocals, Value.category]; done) | rfl
theorem own_d27_0 : decode jdk_29_method_65_code 0 = .ok (.iload_n 0, 1) := by decide +kernel
theorem own_d27_1 : decode jdk_29_method_65_code 1 = .ok (.iload_n 1, 1) := by decide +kernel
theorem own_d27_2 : decode jdk_29_method_65_code 2 = .ok (.if_icmp .lt 7, 3) := by decide +kernel
theorem own_d27_5 : decode jdk_29_method_65_code 5 = .ok (.iload_n 0, 1) := by decide +kernel
theorem own_d27_6 : decode jdk_29_method_65_code 6 = .ok (.goto 4, 3) := by decide +kernel
theorem own_d27_10 : decode jdk_29_method_65_code 10 = .ok (.ireturn, 1) := by decide +kernel
theorem own_pn31 : plainFor (⟨"jdk/internal/util/Preconditions", "checkIndex", "(IILjava/util/function/BiFunction;)I"⟩ : MethodName) = true := plainFor_of_name (by first | (simp [plainName, overriddenIn]; done) | decide +kernel)
theorem own_ef31_IIN (m : MethodId) (x0 : Int32) (x1 : Int32) : entryFrame m #[(.int x0), (.int x1), .null] 3 = mkF m 0 #[.val (.int x0), .val (.int x1), .val .null] [] := by first | (simp [entryFrame, mkF, argsToLocals, Value.category]; done) | rfl
theorem own_d31_0 : decode jdk_41_method_11_code 0 = .ok (.iload_n 0, 1) := by decide +kernel
theorem own_d31_1 : decode jdk_41_method_11_code 1 = .ok (.ifCond .lt 8, 3) := by decide +kernel
theorem own_d31_4 : decode jdk_41_method_11_code 4 = .ok (.iload_n 0, 1) := by decide +kernel
theorem own_d31_5 : decode jdk_41_method_11_code 5 = .ok (.iload_n 1, 1) := by decide +kernel
theorem own_d31_6 : decode jdk_41_method_11_code 6 = .ok (.if_icmp .lt 10, 3) := by decide +kernel
theorem own_d31_16 : decode jdk_41_method_11_code 16 = .ok (.iload_n 0, 1) := by decide +kernel
theorem own_d31_17 : decode jdk_41_method_11_code 17 = .ok (.ireturn, 1) := by decide +kernel
theorem own_pn30 : plainFor (⟨"java/util/Objects", "checkIndex", "(II)I"⟩ : MethodName) = true := plainFor_of_name (by first | (simp [plainName, overriddenIn]; done) | decide +kernel)
theorem own_ef30_II (m : MethodId) (x0 : Int32) (x1 : Int32) : entryFrame m #[(.int x0), (.int x1)] 2 = mkF m 0 #[.val (.int x0), .val (.int x1)] [] := by first | (simp [entryFrame, mkF, argsToLocals, Value.category]; done) | rfl
theorem own_d30_0 : decode jdk_31_method_17_code 0 = .ok (.iload_n 0, 1) := by decide +kernel
theorem own_d30_1 : decode jdk_31_method_17_code 1 = .ok (.iload_n 1, 1) := by decide +kernel
theorem own_d30_2 : decode jdk_31_method_17_code 2 = .ok (.aconst_null, 1) := by decide +kernel
theorem own_d30_3 : decode jdk_31_method_17_code 3 = .ok (.invokestatic 105, 3) := by decide +kernel
theorem own_pd9 : parseMethodDescriptor "(IILjava/util/function/BiFunction;)I" = some ⟨[.int, .int, (.object "java/util/function/BiFunction")], some .int⟩ := by decide +kernel
theorem own_d30_6 : decode jdk_31_method_17_code 6 = .ok (.ireturn, 1) := by decide +kernel
theorem own_pn28 : plainFor (⟨"java/util/ArrayList", "size", "()I"⟩ : MethodName) = true := plainFor_of_name (by first | (simp [plainName, overriddenIn]; done) | decide +kernel)
theorem own_ef28_R (m : MethodId) (x0 : Addr) : entryFrame m #[(.ref x0)] 1 = mkF m 0 #[.val (.ref x0)] [] := by first | (simp [entryFrame, mkF, argsToLocals, Value.category]; done) | rfl
theorem own_d28_0 : decode jdk_38_method_8_code 0 = .ok (.aload_n 0, 1) := by decide +kernel
theorem own_d28_1 : decode jdk_38_method_8_code 1 = .ok (.getfield 48, 3) := by decide +kernel
theorem own_d28_4 : decode jdk_38_method_8_code 4 = .ok (.ireturn, 1) := by decide +kernel
theorem own_pn32 : plainFor (⟨"java/util/ArrayList", "elementData", "(I)Ljava/lang/Object;"⟩ : MethodName) = true := plainFor_of_name (by first | (simp [plainName, overriddenIn]; done) | decide +kernel)
theorem own_ef32_RI (m : MethodId) (x0 : Addr) (x1 : Int32) : entryFrame m #[(.ref x0), (.int x1)] 2 = mkF m 0 #[.val (.ref x0), .val (.int x1)] [] := by first | (simp [entryFrame, mkF, argsToLocals, Value.category]; done) | rfl
theorem own_d32_0 : decode jdk_38_method_18_code 0 = .ok (.aload_n 0, 1) := by decide +kernel
theorem own_d32_1 : decode jdk_38_method_18_code 1 = .ok (.getfield 9, 3) := by decide +kernel
theorem own_d32_4 : decode jdk_38_method_18_code 4 = .ok (.iload_n 1, 1) := by decide +kernel
theorem own_d32_5 : decode jdk_38_method_18_code 5 = .ok (.aaload, 1) := by decide +kernel
theorem own_d32_6 : decode jdk_38_method_18_code 6 = .ok (.areturn, 1) := by decide +kernel
theorem own_pn29 : plainFor (⟨"java/util/ArrayList", "get", "(I)Ljava/lang/Object;"⟩ : MethodName) = true := plainFor_of_name (by first | (simp [plainName, overriddenIn]; done) | decide +kernel)
theorem own_ef29_RI (m : MethodId) (x0 : Addr) (x1 : Int32) : entryFrame m #[(.ref x0), (.int x1)] 2 = mkF m 0 #[.val (.ref x0), .val (.int x1)] [] := by first | (simp [entryFrame, mkF, argsToLocals, Value.category]; done) | rfl
theorem own_d29_0 : decode jdk_38_method_20_code 0 = .ok (.iload_n 1, 1) := by decide +kernel
theorem own_d29_1 : decode jdk_38_method_20_code 1 = .ok (.aload_n 0, 1) := by decide +kernel
theorem own_d29_2 : decode jdk_38_method_20_code 2 = .ok (.getfield 48, 3) := by decide +kernel
theorem own_d29_5 : decode jdk_38_method_20_code 5 = .ok (.invokestatic 118, 3) := by decide +kernel
theorem own_pd10 : parseMethodDescriptor "(II)I" = some ⟨[.int, .int], some .int⟩ := by decide +kernel
theorem own_d29_8 : decode jdk_38_method_20_code 8 = .ok (.pop, 1) := by decide +kernel
theorem own_d29_9 : decode jdk_38_method_20_code 9 = .ok (.aload_n 0, 1) := by decide +kernel
theorem own_d29_10 : decode jdk_38_method_20_code 10 = .ok (.iload_n 1, 1) := by decide +kernel
theorem own_d29_11 : decode jdk_38_method_20_code 11 = .ok (.invokevirtual 123, 3) := by decide +kernel
theorem own_pd11 : parseMethodDescriptor "(I)Ljava/lang/Object;" = some ⟨[.int], some (.object "java/lang/Object")⟩ := by decide +kernel
theorem own_d29_14 : decode jdk_38_method_20_code 14 = .ok (.areturn, 1) := by decide +kernel
theorem own_pn26 : plainFor (⟨"java/util/ArrayList", "grow", "(I)[Ljava/lang/Object;"⟩ : MethodName) = true := plainFor_of_name (by first | (simp [plainName, overriddenIn]; done) | decide +kernel)
theorem own_ef26_RI (m : MethodId) (x0 : Addr) (x1 : Int32) : entryFrame m #[(.ref x0), (.int x1)] 4 = mkF m 0 #[.val (.ref x0), .val (.int x1), .unset, .unset] [] := by first | (simp [entryFrame, mkF, argsToLocals, Value.category]; done) | rfl
theorem own_d26_0 : decode jdk_38_method_6_code 0 = .ok (.aload_n 0, 1) := by decide +kernel
theorem own_d26_1 : decode jdk_38_method_6_code 1 = .ok (.getfield 9, 3) := by decide +kernel
theorem own_d26_4 : decode jdk_38_method_6_code 4 = .ok (.arraylength, 1) := by decide +kernel
theorem own_d26_5 : decode jdk_38_method_6_code 5 = .ok (.istore_n 2, 1) := by decide +kernel
theorem own_d26_6 : decode jdk_38_method_6_code 6 = .ok (.iload_n 2, 1) := by decide +kernel
theorem own_d26_7 : decode jdk_38_method_6_code 7 = .ok (.ifCond .gt 13, 3) := by decide +kernel
theorem own_d26_10 : decode jdk_38_method_6_code 10 = .ok (.aload_n 0, 1) := by decide +kernel
theorem own_d26_11 : decode jdk_38_method_6_code 11 = .ok (.getfield 9, 3) := by decide +kernel
theorem own_d26_14 : decode jdk_38_method_6_code 14 = .ok (.getstatic 39, 3) := by decide +kernel
theorem own_d26_17 : decode jdk_38_method_6_code 17 = .ok (.if_acmp .eq 28, 3) := by decide +kernel
theorem own_d26_45 : decode jdk_38_method_6_code 45 = .ok (.aload_n 0, 1) := by decide +kernel
theorem own_d26_46 : decode jdk_38_method_6_code 46 = .ok (.bipush 10, 2) := by decide +kernel
theorem own_d26_48 : decode jdk_38_method_6_code 48 = .ok (.iload_n 1, 1) := by decide +kernel
theorem own_d26_49 : decode jdk_38_method_6_code 49 = .ok (.invokestatic 79, 3) := by decide +kernel
theorem own_d26_52 : decode jdk_38_method_6_code 52 = .ok (.anewarray 7, 3) := by decide +kernel
theorem own_d26_55 : decode jdk_38_method_6_code 55 = .ok (.dup_x1, 1) := by decide +kernel
theorem own_d26_56 : decode jdk_38_method_6_code 56 = .ok (.putfield 9, 3) := by decide +kernel
theorem own_d26_59 : decode jdk_38_method_6_code 59 = .ok (.areturn, 1) := by decide +kernel
theorem own_pn25 : plainFor (⟨"java/util/ArrayList", "grow", "()[Ljava/lang/Object;"⟩ : MethodName) = true := plainFor_of_name (by first | (simp [plainName, overriddenIn]; done) | decide +kernel)
theorem own_ef25_R (m : MethodId) (x0 : Addr) : entryFrame m #[(.ref x0)] 1 = mkF m 0 #[.val (.ref x0)] [] := by first | (simp [entryFrame, mkF, argsToLocals, Value.category]; done) | rfl
theorem own_d25_0 : decode jdk_38_method_7_code 0 = .ok (.aload_n 0, 1) := by decide +kernel
theorem own_d25_1 : decode jdk_38_method_7_code 1 = .ok (.aload_n 0, 1) := by decide +kernel
theorem own_d25_2 : decode jdk_38_method_7_code 2 = .ok (.getfield 48, 3) := by decide +kernel
theorem own_d25_5 : decode jdk_38_method_7_code 5 = .ok (.iconst 1, 1) := by decide +kernel
theorem own_d25_6 : decode jdk_38_method_7_code 6 = .ok (.iadd, 1) := by decide +kernel
theorem own_d25_7 : decode jdk_38_method_7_code 7 = .ok (.invokevirtual 69, 3) := by decide +kernel
theorem own_pd12 : parseMethodDescriptor "(I)[Ljava/lang/Object;" = some ⟨[.int], some (.array (.object "java/lang/Object"))⟩ := by decide +kernel
theorem own_d25_10 : decode jdk_38_method_7_code 10 = .ok (.areturn, 1) := by decide +kernel
theorem own_pn24 : plainFor (⟨"java/util/ArrayList", "add", "(Ljava/lang/Object;[Ljava/lang/Object;I)V"⟩ : MethodName) = true := plainFor_of_name (by first | (simp [plainName, overriddenIn]; done) | decide +kernel)
theorem own_ef24_RRRI (m : MethodId) (x0 : Addr) (x1 : Addr) (x2 : Addr) (x3 : Int32) : entryFrame m #[(.ref x0), (.ref x1), (.ref x2), (.int x3)] 4 = mkF m 0 #[.val (.ref x0), .val (.ref x1), .val (.ref x2), .val (.int x3)] [] := by first | (simp [entryFrame, mkF, argsToLocals, Value.category]; done) | rfl
theorem own_d24_0 : decode jdk_38_method_24_code 0 = .ok (.iload_n 3, 1) := by decide +kernel
theorem own_d24_1 : decode jdk_38_method_24_code 1 = .ok (.aload_n 2, 1) := by decide +kernel
theorem own_d24_2 : decode jdk_38_method_24_code 2 = .ok (.arraylength, 1) := by decide +kernel
theorem own_d24_3 : decode jdk_38_method_24_code 3 = .ok (.if_icmp .ne 8, 3) := by decide +kernel
theorem own_d24_6 : decode jdk_38_method_24_code 6 = .ok (.aload_n 0, 1) := by decide +kernel
theorem own_d24_7 : decode jdk_38_method_24_code 7 = .ok (.invokevirtual 129, 3) := by decide +kernel
theorem own_pd13 : parseMethodDescriptor "()[Ljava/lang/Object;" = some ⟨[], some (.array (.object "java/lang/Object"))⟩ := by decide +kernel
theorem own_d24_10 : decode jdk_38_method_24_code 10 = .ok (.astore_n 2, 1) := by decide +kernel
theorem own_d24_11 : decode jdk_38_method_24_code 11 = .ok (.aload_n 2, 1) := by decide +kernel
theorem own_d24_12 : decode jdk_38_method_24_code 12 = .ok (.iload_n 3, 1) := by decide +kernel
theorem own_d24_13 : decode jdk_38_method_24_code 13 = .ok (.aload_n 1, 1) := by decide +kernel
theorem own_d24_14 : decode jdk_38_method_24_code 14 = .ok (.aastore, 1) := by decide +kernel
theorem own_d24_15 : decode jdk_38_method_24_code 15 = .ok (.aload_n 0, 1) := by decide +kernel
theorem own_d24_16 : decode jdk_38_method_24_code 16 = .ok (.iload_n 3, 1) := by decide +kernel
theorem own_d24_17 : decode jdk_38_method_24_code 17 = .ok (.iconst 1, 1) := by decide +kernel
theorem own_d24_18 : decode jdk_38_method_24_code 18 = .ok (.iadd, 1) := by decide +kernel
theorem own_d24_19 : decode jdk_38_method_24_code 19 = .ok (.putfield 48, 3) := by decide +kernel
theorem own_d24_22 : decode jdk_38_method_24_code 22 = .ok (.return_, 1) := by decide +kernel
theorem own_pn23 : plainFor (⟨"java/util/ArrayList", "add", "(Ljava/lang/Object;)Z"⟩ : MethodName) = true := plainFor_of_name (by first | (simp [plainName, overriddenIn]; done) | decide +kernel)
theorem own_ef23_RR (m : MethodId) (x0 : Addr) (x1 : Addr) : entryFrame m #[(.ref x0), (.ref x1)] 2 = mkF m 0 #[.val (.ref x0), .val (.ref x1)] [] := by first | (simp [entryFrame, mkF, argsToLocals, Value.category]; done) | rfl
theorem own_d23_0 : decode jdk_38_method_25_code 0 = .ok (.aload_n 0, 1) := by decide +kernel
theorem own_d23_1 : decode jdk_38_method_25_code 1 = .ok (.dup, 1) := by decide +kernel
theorem own_d23_2 : decode jdk_38_method_25_code 2 = .ok (.getfield 63, 3) := by decide +kernel
theorem own_d23_5 : decode jdk_38_method_25_code 5 = .ok (.iconst 1, 1) := by decide +kernel
theorem own_d23_6 : decode jdk_38_method_25_code 6 = .ok (.iadd, 1) := by decide +kernel
theorem own_d23_7 : decode jdk_38_method_25_code 7 = .ok (.putfield 63, 3) := by decide +kernel
theorem own_d23_10 : decode jdk_38_method_25_code 10 = .ok (.aload_n 0, 1) := by decide +kernel
theorem own_d23_11 : decode jdk_38_method_25_code 11 = .ok (.aload_n 1, 1) := by decide +kernel
theorem own_d23_12 : decode jdk_38_method_25_code 12 = .ok (.aload_n 0, 1) := by decide +kernel
theorem own_d23_13 : decode jdk_38_method_25_code 13 = .ok (.getfield 9, 3) := by decide +kernel
theorem own_d23_16 : decode jdk_38_method_25_code 16 = .ok (.aload_n 0, 1) := by decide +kernel
theorem own_d23_17 : decode jdk_38_method_25_code 17 = .ok (.getfield 48, 3) := by decide +kernel
theorem own_d23_20 : decode jdk_38_method_25_code 20 = .ok (.invokevirtual 131, 3) := by decide +kernel
theorem own_pd14 : parseMethodDescriptor "(Ljava/lang/Object;[Ljava/lang/Object;I)V" = some ⟨[(.object "java/lang/Object"), (.array (.object "java/lang/Object")), .int], none⟩ := by decide +kernel
theorem own_d23_23 : decode jdk_38_method_25_code 23 = .ok (.iconst 1, 1) := by decide +kernel
theorem own_d23_24 : decode jdk_38_method_25_code 24 = .ok (.ireturn, 1) := by decide +kernel
theorem own_pn13 : plainFor (⟨"java/util/ArrayDeque", "<init>", "()V"⟩ : MethodName) = true := plainFor_of_name (by first | (simp [plainName, overriddenIn]; done) | decide +kernel)
theorem own_ef13_R (m : MethodId) (x0 : Addr) : entryFrame m #[(.ref x0)] 1 = mkF m 0 #[.val (.ref x0)] [] := by first | (simp [entryFrame, mkF, argsToLocals, Value.category]; done) | rfl
theorem own_d13_0 : decode jdk_21_method_3_code 0 = .ok (.aload_n 0, 1) := by decide +kernel
theorem own_d13_1 : decode jdk_21_method_3_code 1 = .ok (.invokespecial 42, 3) := by decide +kernel
theorem own_d13_4 : decode jdk_21_method_3_code 4 = .ok (.aload_n 0, 1) := by decide +kernel
theorem own_d13_5 : decode jdk_21_method_3_code 5 = .ok (.bipush 17, 2) := by decide +kernel
theorem own_d13_7 : decode jdk_21_method_3_code 7 = .ok (.anewarray 47, 3) := by decide +kernel
theorem own_d13_10 : decode jdk_21_method_3_code 10 = .ok (.putfield 3, 3) := by decide +kernel
theorem own_d13_13 : decode jdk_21_method_3_code 13 = .ok (.return_, 1) := by decide +kernel
theorem own_pn16 : plainFor (⟨"java/util/ArrayDeque", "dec", "(II)I"⟩ : MethodName) = true := plainFor_of_name (by first | (simp [plainName, overriddenIn]; done) | decide +kernel)
theorem own_ef16_II (m : MethodId) (x0 : Int32) (x1 : Int32) : entryFrame m #[(.int x0), (.int x1)] 2 = mkF m 0 #[.val (.int x0), .val (.int x1)] [] := by first | (simp [entryFrame, mkF, argsToLocals, Value.category]; done) | rfl
theorem own_d16_0 : decode jdk_21_method_7_code 0 = .ok (.iinc 0 (-1), 3) := by decide +kernel
theorem own_d16_3 : decode jdk_21_method_7_code 3 = .ok (.iload_n 0, 1) := by decide +kernel
theorem own_d16_4 : decode jdk_21_method_7_code 4 = .ok (.ifCond .ge 7, 3) := by decide +kernel
theorem own_d16_7 : decode jdk_21_method_7_code 7 = .ok (.iload_n 1, 1) := by decide +kernel
theorem own_d16_8 : decode jdk_21_method_7_code 8 = .ok (.iconst 1, 1) := by decide +kernel
theorem own_d16_9 : decode jdk_21_method_7_code 9 = .ok (.isub, 1) := by decide +kernel
theorem own_d16_10 : decode jdk_21_method_7_code 10 = .ok (.istore_n 0, 1) := by decide +kernel
theorem own_d16_11 : decode jdk_21_method_7_code 11 = .ok (.iload_n 0, 1) := by decide +kernel
theorem own_d16_12 : decode jdk_21_method_7_code 12 = .ok (.ireturn, 1) := by decide +kernel
theorem own_pn22 : plainFor (⟨"java/util/ArrayDeque", "inc", "(II)I"⟩ : MethodName) = true := plainFor_of_name (by first | (simp [plainName, overriddenIn]; done) | decide +kernel)
theorem own_ef22_II (m : MethodId) (x0 : Int32) (x1 : Int32) : entryFrame m #[(.int x0), (.int x1)] 2 = mkF m 0 #[.val (.int x0), .val (.int x1)] [] := by first | (simp [entryFrame, mkF, argsToLocals, Value.category]; done) | rfl
theorem own_d22_0 : decode jdk_21_method_6_code 0 = .ok (.iinc 0 1, 3) := by decide +kernel
theorem own_d22_3 : decode jdk_21_method_6_code 3 = .ok (.iload_n 0, 1) := by decide +kernel
theorem own_d22_4 : decode jdk_21_method_6_code 4 = .ok (.iload_n 1, 1) := by decide +kernel
theorem own_d22_5 : decode jdk_21_method_6_code 5 = .ok (.if_icmp .lt 5, 3) := by decide +kernel
theorem own_d22_8 : decode jdk_21_method_6_code 8 = .ok (.iconst 0, 1) := by decide +kernel
theorem own_d22_9 : decode jdk_21_method_6_code 9 = .ok (.istore_n 0, 1) := by decide +kernel
theorem own_d22_10 : decode jdk_21_method_6_code 10 = .ok (.iload_n 0, 1) := by decide +kernel
theorem own_d22_11 : decode jdk_21_method_6_code 11 = .ok (.ireturn, 1) := by decide +kernel
theorem own_pn15 : plainFor (⟨"java/util/ArrayDeque", "addFirst", "(Ljava/lang/Object;)V"⟩ : MethodName) = true := plainFor_of_name (by first | (simp [plainName, overriddenIn]; done) | decide +kernel)
theorem own_ef15_RR (m : MethodId) (x0 : Addr) (x1 : Addr) : entryFrame m #[(.ref x0), (.ref x1)] 3 = mkF m 0 #[.val (.ref x0), .val (.ref x1), .unset] [] := by first | (simp [entryFrame, mkF, argsToLocals, Value.category]; done) | rfl
theorem own_d15_0 : decode jdk_21_method_12_code 0 = .ok (.aload_n 1, 1) := by decide +kernel
theorem own_d15_1 : decode jdk_21_method_12_code 1 = .ok (.ifnonnull 11, 3) := by decide +kernel
theorem own_d15_12 : decode jdk_21_method_12_code 12 = .ok (.aload_n 0, 1) := by decide +kernel
theorem own_d15_13 : decode jdk_21_method_12_code 13 = .ok (.getfield 3, 3) := by decide +kernel
theorem own_d15_16 : decode jdk_21_method_12_code 16 = .ok (.astore_n 2, 1) := by decide +kernel
theorem own_d15_17 : decode jdk_21_method_12_code 17 = .ok (.aload_n 2, 1) := by decide +kernel
theorem own_d15_18 : decode jdk_21_method_12_code 18 = .ok (.aload_n 0, 1) := by decide +kernel
theorem own_d15_19 : decode jdk_21_method_12_code 19 = .ok (.aload_n 0, 1) := by decide +kernel
theorem own_d15_20 : decode jdk_21_method_12_code 20 = .ok (.getfield 24, 3) := by decide +kernel
theorem own_d15_23 : decode jdk_21_method_12_code 23 = .ok (.aload_n 2, 1) := by decide +kernel
theorem own_d15_24 : decode jdk_21_method_12_code 24 = .ok (.arraylength, 1) := by decide +kernel
theorem own_d15_25 : decode jdk_21_method_12_code 25 = .ok (.invokestatic 68, 3) := by decide +kernel
theorem own_d15_28 : decode jdk_21_method_12_code 28 = .ok (.dup_x1, 1) := by decide +kernel
theorem own_d15_29 : decode jdk_21_method_12_code 29 = .ok (.putfield 24, 3) := by decide +kernel
theorem own_d15_32 : decode jdk_21_method_12_code 32 = .ok (.aload_n 1, 1) := by decide +kernel
theorem own_d15_33 : decode jdk_21_method_12_code 33 = .ok (.aastore, 1) := by decide +kernel
theorem own_d15_34 : decode jdk_21_method_12_code 34 = .ok (.aload_n 0, 1) := by decide +kernel
theorem own_d15_35 : decode jdk_21_method_12_code 35 = .ok (.getfield 24, 3) := by decide +kernel
theorem own_d15_38 : decode jdk_21_method_12_code 38 = .ok (.aload_n 0, 1) := by decide +kernel
theorem own_d15_39 : decode jdk_21_method_12_code 39 = .ok (.getfield 20, 3) := by decide +kernel
theorem own_d15_42 : decode jdk_21_method_12_code 42 = .ok (.if_icmp .ne 8, 3) := by decide +kernel
theorem own_d15_50 : decode jdk_21_method_12_code 50 = .ok (.return_, 1) := by decide +kernel
theorem own_pn14 : plainFor (⟨"java/util/ArrayDeque", "push", "(Ljava/lang/Object;)V"⟩ : MethodName) = true := plainFor_of_name (by first | (simp [plainName, overriddenIn]; done) | decide +kernel)
theorem own_ef14_RR (m : MethodId) (x0 : Addr) (x1 : Addr) : entryFrame m #[(.ref x0), (.ref x1)] 2 = mkF m 0 #[.val (.ref x0), .val (.ref x1)] [] := by first | (simp [entryFrame, mkF, argsToLocals, Value.category]; done) | rfl
theorem own_d14_0 : decode jdk_21_method_34_code 0 = .ok (.aload_n 0, 1) := by decide +kernel
theorem own_d14_1 : decode jdk_21_method_34_code 1 = .ok (.aload_n 1, 1) := by decide +kernel
theorem own_d14_2 : decode jdk_21_method_34_code 2 = .ok (.invokevirtual 86, 3) := by decide +kernel
theorem own_pd15 : parseMethodDescriptor "(Ljava/lang/Object;)V" = some ⟨[(.object "java/lang/Object")], none⟩ := by decide +kernel
theorem own_d14_5 : decode jdk_21_method_34_code 5 = .ok (.return_, 1) := by decide +kernel
theorem own_pn17 : plainFor (⟨"java/util/ArrayDeque", "isEmpty", "()Z"⟩ : MethodName) = true := plainFor_of_name (by first | (simp [plainName, overriddenIn]; done) | decide +kernel)
theorem own_ef17_R (m : MethodId) (x0 : Addr) : entryFrame m #[(.ref x0)] 1 = mkF m 0 #[.val (.ref x0)] [] := by first | (simp [entryFrame, mkF, argsToLocals, Value.category]; done) | rfl
theorem own_d17_0 : decode jdk_21_method_38_code 0 = .ok (.aload_n 0, 1) := by decide +kernel
theorem own_d17_1 : decode jdk_21_method_38_code 1 = .ok (.getfield 24, 3) := by decide +kernel
theorem own_d17_4 : decode jdk_21_method_38_code 4 = .ok (.aload_n 0, 1) := by decide +kernel
theorem own_d17_5 : decode jdk_21_method_38_code 5 = .ok (.getfield 20, 3) := by decide +kernel
theorem own_d17_8 : decode jdk_21_method_38_code 8 = .ok (.if_icmp .ne 7, 3) := by decide +kernel
theorem own_d17_15 : decode jdk_21_method_38_code 15 = .ok (.iconst 0, 1) := by decide +kernel
theorem own_d17_16 : decode jdk_21_method_38_code 16 = .ok (.ireturn, 1) := by decide +kernel
theorem own_d17_11 : decode jdk_21_method_38_code 11 = .ok (.iconst 1, 1) := by decide +kernel
theorem own_d17_12 : decode jdk_21_method_38_code 12 = .ok (.goto 4, 3) := by decide +kernel
theorem own_pn21 : plainFor (⟨"java/util/ArrayDeque", "elementAt", "([Ljava/lang/Object;I)Ljava/lang/Object;"⟩ : MethodName) = true := plainFor_of_name (by first | (simp [plainName, overriddenIn]; done) | decide +kernel)
theorem own_ef21_RI (m : MethodId) (x0 : Addr) (x1 : Int32) : entryFrame m #[(.ref x0), (.int x1)] 2 = mkF m 0 #[.val (.ref x0), .val (.int x1)] [] := by first | (simp [entryFrame, mkF, argsToLocals, Value.category]; done) | rfl
theorem own_d21_0 : decode jdk_21_method_10_code 0 = .ok (.aload_n 0, 1) := by decide +kernel
theorem own_d21_1 : decode jdk_21_method_10_code 1 = .ok (.iload_n 1, 1) := by decide +kernel
theorem own_d21_2 : decode jdk_21_method_10_code 2 = .ok (.aaload, 1) := by decide +kernel
theorem own_d21_3 : decode jdk_21_method_10_code 3 = .ok (.areturn, 1) := by decide +kernel
theorem own_pn20 : plainFor (⟨"java/util/ArrayDeque", "pollFirst", "()Ljava/lang/Object;"⟩ : MethodName) = true := plainFor_of_name (by first | (simp [plainName, overriddenIn]; done) | decide +kernel)
theorem own_ef20_R (m : MethodId) (x0 : Addr) : entryFrame m #[(.ref x0)] 4 = mkF m 0 #[.val (.ref x0), .unset, .unset, .unset] [] := by first | (simp [entryFrame, mkF, argsToLocals, Value.category]; done) | rfl
theorem own_d20_0 : decode jdk_21_method_20_code 0 = .ok (.aload_n 0, 1) := by decide +kernel
theorem own_d20_1 : decode jdk_21_method_20_code 1 = .ok (.getfield 3, 3) := by decide +kernel
theorem own_d20_4 : decode jdk_21_method_20_code 4 = .ok (.dup, 1) := by decide +kernel
theorem own_d20_5 : decode jdk_21_method_20_code 5 = .ok (.astore_n 1, 1) := by decide +kernel
theorem own_d20_6 : decode jdk_21_method_20_code 6 = .ok (.aload_n 0, 1) := by decide +kernel
theorem own_d20_7 : decode jdk_21_method_20_code 7 = .ok (.getfield 24, 3) := by decide +kernel
theorem own_d20_10 : decode jdk_21_method_20_code 10 = .ok (.dup, 1) := by decide +kernel
theorem own_d20_11 : decode jdk_21_method_20_code 11 = .ok (.istore_n 2, 1) := by decide +kernel
theorem own_d20_12 : decode jdk_21_method_20_code 12 = .ok (.invokestatic 103, 3) := by decide +kernel
theorem own_pd16 : parseMethodDescriptor "([Ljava/lang/Object;I)Ljava/lang/Object;" = some ⟨[(.array (.object "java/lang/Object")), .int], some (.object "java/lang/Object")⟩ := by decide +kernel
theorem own_d20_15 : decode jdk_21_method_20_code 15 = .ok (.astore_n 3, 1) := by decide +kernel
theorem own_d20_16 : decode jdk_21_method_20_code 16 = .ok (.aload_n 3, 1) := by decide +kernel
theorem own_d20_17 : decode jdk_21_method_20_code 17 = .ok (.ifnull 17, 3) := by decide +kernel
theorem own_d20_20 : decode jdk_21_method_20_code 20 = .ok (.aload_n 1, 1) := by decide +kernel
theorem own_d20_21 : decode jdk_21_method_20_code 21 = .ok (.iload_n 2, 1) := by decide +kernel
theorem own_d20_22 : decode jdk_21_method_20_code 22 = .ok (.aconst_null, 1) := by decide +kernel
theorem own_d20_23 : decode jdk_21_method_20_code 23 = .ok (.aastore, 1) := by decide +kernel
theorem own_d20_24 : decode jdk_21_method_20_code 24 = .ok (.aload_n 0, 1) := by decide +kernel
theorem own_d20_25 : decode jdk_21_method_20_code 25 = .ok (.iload_n 2, 1) := by decide +kernel
theorem own_d20_26 : decode jdk_21_method_20_code 26 = .ok (.aload_n 1, 1) := by decide +kernel
theorem own_d20_27 : decode jdk_21_method_20_code 27 = .ok (.arraylength, 1) := by decide +kernel
theorem own_d20_28 : decode jdk_21_method_20_code 28 = .ok (.invokestatic 74, 3) := by decide +kernel
theorem own_d20_31 : decode jdk_21_method_20_code 31 = .ok (.putfield 24, 3) := by decide +kernel
theorem own_d20_34 : decode jdk_21_method_20_code 34 = .ok (.aload_n 3, 1) := by decide +kernel
theorem own_d20_35 : decode jdk_21_method_20_code 35 = .ok (.areturn, 1) := by decide +kernel
theorem own_pn19 : plainFor (⟨"java/util/ArrayDeque", "removeFirst", "()Ljava/lang/Object;"⟩ : MethodName) = true := plainFor_of_name (by first | (simp [plainName, overriddenIn]; done) | decide +kernel)
theorem own_ef19_R (m : MethodId) (x0 : Addr) : entryFrame m #[(.ref x0)] 2 = mkF m 0 #[.val (.ref x0), .unset] [] := by first | (simp [entryFrame, mkF, argsToLocals, Value.category]; done) | rfl
theorem own_d19_0 : decode jdk_21_method_18_code 0 = .ok (.aload_n 0, 1) := by decide +kernel
theorem own_d19_1 : decode jdk_21_method_18_code 1 = .ok (.invokevirtual 93, 3) := by decide +kernel
theorem own_pd17 : parseMethodDescriptor "()Ljava/lang/Object;" = some ⟨[], some (.object "java/lang/Object")⟩ := by decide +kernel
theorem own_d19_4 : decode jdk_21_method_18_code 4 = .ok (.astore_n 1, 1) := by decide +kernel
theorem own_d19_5 : decode jdk_21_method_18_code 5 = .ok (.aload_n 1, 1) := by decide +kernel
theorem own_d19_6 : decode jdk_21_method_18_code 6 = .ok (.ifnonnull 11, 3) := by decide +kernel
theorem own_d19_17 : decode jdk_21_method_18_code 17 = .ok (.aload_n 1, 1) := by decide +kernel
theorem own_d19_18 : decode jdk_21_method_18_code 18 = .ok (.areturn, 1) := by decide +kernel
theorem own_pn18 : plainFor (⟨"java/util/ArrayDeque", "pop", "()Ljava/lang/Object;"⟩ : MethodName) = true := plainFor_of_name (by first | (simp [plainName, overriddenIn]; done) | decide +kernel)
theorem own_ef18_R (m : MethodId) (x0 : Addr) : entryFrame m #[(.ref x0)] 1 = mkF m 0 #[.val (.ref x0)] [] := by first | (simp [entryFrame, mkF, argsToLocals, Value.category]; done) | rfl
theorem own_d18_0 : decode jdk_21_method_35_code 0 = .ok (.aload_n 0, 1) := by decide +kernel
theorem own_d18_1 : decode jdk_21_method_35_code 1 = .ok (.invokevirtual 118, 3) := by decide +kernel
theorem own_d18_4 : decode jdk_21_method_35_code 4 = .ok (.areturn, 1) := by decide +kernel
theorem own_pn8 : plainFor (⟨"com/example/unify_trace/unifytrace/program/Type", "<init>", "(Ljava/lang/String;ZLcom/example/unify_trace/unifytrace/program/Type;Lcom/example/unify_trace/unifytrace/program/Type;)V"⟩ : MethodName) = true := plainFor_of_name (by first | (simp [plainName, overriddenIn]; done) | decide +kernel)
theorem own_ef8_RRINN (m : MethodId) (x0 : Addr) (x1 : Addr) (x2 : Int32) : entryFrame m #[(.ref x0), (.ref x1), (.int x2), .null, .null] 5 = mkF m 0 #[.val (.ref x0), .val (.ref x1), .val (.int x2), .val .null, .val .null] [] := by first | (simp [entryFrame, mkF, argsToLocals, Value.category]; done) | rfl
theorem own_d8_0 : decode prog_19_method_1_code 0 = .ok (.aload_n 0, 1) := by decide +kernel
theorem own_d8_1 : decode prog_19_method_1_code 1 = .ok (.invokespecial 1, 3) := by decide +kernel
theorem own_d8_4 : decode prog_19_method_1_code 4 = .ok (.aload_n 0, 1) := by decide +kernel
theorem own_d8_5 : decode prog_19_method_1_code 5 = .ok (.aload_n 1, 1) := by decide +kernel
theorem own_d8_6 : decode prog_19_method_1_code 6 = .ok (.putfield 7, 3) := by decide +kernel
theorem own_d8_9 : decode prog_19_method_1_code 9 = .ok (.aload_n 0, 1) := by decide +kernel
theorem own_d8_10 : decode prog_19_method_1_code 10 = .ok (.iload_n 2, 1) := by decide +kernel
theorem own_d8_11 : decode prog_19_method_1_code 11 = .ok (.putfield 13, 3) := by decide +kernel
theorem own_d8_14 : decode prog_19_method_1_code 14 = .ok (.aload_n 0, 1) := by decide +kernel
theorem own_d8_15 : decode prog_19_method_1_code 15 = .ok (.aload_n 3, 1) := by decide +kernel
theorem own_d8_16 : decode prog_19_method_1_code 16 = .ok (.putfield 17, 3) := by decide +kernel
theorem own_d8_19 : decode prog_19_method_1_code 19 = .ok (.aload_n 0, 1) := by decide +kernel
theorem own_d8_20 : decode prog_19_method_1_code 20 = .ok (.aload 4, 2) := by decide +kernel
theorem own_d8_22 : decode prog_19_method_1_code 22 = .ok (.putfield 21, 3) := by decide +kernel
theorem own_d8_25 : decode prog_19_method_1_code 25 = .ok (.return_, 1) := by decide +kernel
theorem own_pn7 : plainFor (⟨"com/example/unify_trace/unifytrace/program/Type", "base", "(Ljava/lang/String;)Lcom/example/unify_trace/unifytrace/program/Type;"⟩ : MethodName) = true := plainFor_of_name (by first | (simp [plainName, overriddenIn]; done) | decide +kernel)
theorem own_ef7_R (m : MethodId) (x0 : Addr) : entryFrame m #[(.ref x0)] 1 = mkF m 0 #[.val (.ref x0)] [] := by first | (simp [entryFrame, mkF, argsToLocals, Value.category]; done) | rfl
theorem own_d7_0 : decode prog_19_method_2_code 0 = .ok (.new 8, 3) := by decide +kernel
theorem own_d7_3 : decode prog_19_method_2_code 3 = .ok (.dup, 1) := by decide +kernel
theorem own_d7_4 : decode prog_19_method_2_code 4 = .ok (.aload_n 0, 1) := by decide +kernel
theorem own_d7_5 : decode prog_19_method_2_code 5 = .ok (.iconst 0, 1) := by decide +kernel
theorem own_d7_6 : decode prog_19_method_2_code 6 = .ok (.aconst_null, 1) := by decide +kernel
theorem own_d7_7 : decode prog_19_method_2_code 7 = .ok (.aconst_null, 1) := by decide +kernel
theorem own_d7_8 : decode prog_19_method_2_code 8 = .ok (.invokespecial 24, 3) := by decide +kernel
theorem own_pd18 : parseMethodDescriptor "(Ljava/lang/String;ZLcom/example/unify_trace/unifytrace/program/Type;Lcom/example/unify_trace/unifytrace/program/Type;)V" = some ⟨[(.object "java/lang/String"), .boolean, (.object "com/example/unify_trace/unifytrace/program/Type"), (.object "com/example/unify_trace/unifytrace/program/Type")], none⟩ := by decide +kernel
theorem own_d7_11 : decode prog_19_method_2_code 11 = .ok (.areturn, 1) := by decide +kernel
theorem own_pn9 : plainFor (⟨"com/example/unify_trace/unifytrace/program/Type", "term", "(Ljava/lang/String;)Lcom/example/unify_trace/unifytrace/term/Term;"⟩ : MethodName) = true := plainFor_of_name (by first | (simp [plainName, overriddenIn]; done) | decide +kernel)
theorem own_ef9_RR (m : MethodId) (x0 : Addr) (x1 : Addr) : entryFrame m #[(.ref x0), (.ref x1)] 8 = mkF m 0 #[.val (.ref x0), .val (.ref x1), .unset, .unset, .unset, .unset, .unset, .unset] [] := by first | (simp [entryFrame, mkF, argsToLocals, Value.category]; done) | rfl
theorem own_d9_0 : decode prog_19_method_6_code 0 = .ok (.new 36, 3) := by decide +kernel
theorem own_d9_3 : decode prog_19_method_6_code 3 = .ok (.dup, 1) := by decide +kernel
theorem own_d9_4 : decode prog_19_method_6_code 4 = .ok (.invokespecial 38, 3) := by decide +kernel
theorem own_d9_7 : decode prog_19_method_6_code 7 = .ok (.astore_n 2, 1) := by decide +kernel
theorem own_d9_8 : decode prog_19_method_6_code 8 = .ok (.new 39, 3) := by decide +kernel
theorem own_d9_11 : decode prog_19_method_6_code 11 = .ok (.dup, 1) := by decide +kernel
theorem own_d9_12 : decode prog_19_method_6_code 12 = .ok (.invokespecial 41, 3) := by decide +kernel
theorem own_d9_15 : decode prog_19_method_6_code 15 = .ok (.astore_n 3, 1) := by decide +kernel
theorem own_d9_16 : decode prog_19_method_6_code 16 = .ok (.aload_n 3, 1) := by decide +kernel
theorem own_d9_17 : decode prog_19_method_6_code 17 = .ok (.aload_n 0, 1) := by decide +kernel
theorem own_d9_18 : decode prog_19_method_6_code 18 = .ok (.invokeinterface 42 2, 5) := by decide +kernel
theorem own_d9_23 : decode prog_19_method_6_code 23 = .ok (.aload_n 3, 1) := by decide +kernel
theorem own_d9_24 : decode prog_19_method_6_code 24 = .ok (.invokeinterface 48 1, 5) := by decide +kernel
theorem own_d9_29 : decode prog_19_method_6_code 29 = .ok (.ifCond .ne 56, 3) := by decide +kernel
theorem own_d9_32 : decode prog_19_method_6_code 32 = .ok (.aload_n 3, 1) := by decide +kernel
theorem own_d9_33 : decode prog_19_method_6_code 33 = .ok (.invokeinterface 52 1, 5) := by decide +kernel
theorem own_d9_38 : decode prog_19_method_6_code 38 = .ok (.checkcast 8, 3) := by decide +kernel
theorem own_d9_41 : decode prog_19_method_6_code 41 = .ok (.astore 4, 2) := by decide +kernel
theorem own_d9_43 : decode prog_19_method_6_code 43 = .ok (.aload_n 2, 1) := by decide +kernel
theorem own_d9_44 : decode prog_19_method_6_code 44 = .ok (.aload 4, 2) := by decide +kernel
theorem own_d9_46 : decode prog_19_method_6_code 46 = .ok (.invokeinterface 56 2, 5) := by decide +kernel
theorem own_pd19 : parseMethodDescriptor "(Ljava/lang/Object;)Z" = some ⟨[(.object "java/lang/Object")], some .boolean⟩ := by decide +kernel
theorem own_d9_51 : decode prog_19_method_6_code 51 = .ok (.pop, 1) := by decide +kernel
theorem own_d9_52 : decode prog_19_method_6_code 52 = .ok (.aload 4, 2) := by decide +kernel
theorem own_d9_54 : decode prog_19_method_6_code 54 = .ok (.getfield 7, 3) := by decide +kernel
theorem own_d9_57 : decode prog_19_method_6_code 57 = .ok (.ifnonnull 25, 3) := by decide +kernel
theorem own_d9_82 : decode prog_19_method_6_code 82 = .ok (.goto (-59), 3) := by decide +kernel
theorem own_d9_85 : decode prog_19_method_6_code 85 = .ok (.new 39, 3) := by decide +kernel
theorem own_d9_88 : decode prog_19_method_6_code 88 = .ok (.dup, 1) := by decide +kernel
theorem own_d9_89 : decode prog_19_method_6_code 89 = .ok (.invokespecial 41, 3) := by decide +kernel
theorem own_d9_92 : decode prog_19_method_6_code 92 = .ok (.astore 4, 2) := by decide +kernel
theorem own_d9_94 : decode prog_19_method_6_code 94 = .ok (.aload_n 2, 1) := by decide +kernel
theorem own_d9_95 : decode prog_19_method_6_code 95 = .ok (.invokeinterface 62 1, 5) := by decide +kernel
theorem own_d9_100 : decode prog_19_method_6_code 100 = .ok (.iconst 1, 1) := by decide +kernel
theorem own_d9_101 : decode prog_19_method_6_code 101 = .ok (.isub, 1) := by decide +kernel
theorem own_d9_102 : decode prog_19_method_6_code 102 = .ok (.istore 5, 2) := by decide +kernel
theorem own_d9_104 : decode prog_19_method_6_code 104 = .ok (.iload 5, 2) := by decide +kernel
theorem own_d9_106 : decode prog_19_method_6_code 106 = .ok (.ifCond .lt 126, 3) := by decide +kernel
theorem own_d9_109 : decode prog_19_method_6_code 109 = .ok (.aload_n 2, 1) := by decide +kernel
theorem own_d9_110 : decode prog_19_method_6_code 110 = .ok (.iload 5, 2) := by decide +kernel
theorem own_d9_112 : decode prog_19_method_6_code 112 = .ok (.invokeinterface 66 2, 5) := by decide +kernel
theorem own_d9_117 : decode prog_19_method_6_code 117 = .ok (.checkcast 8, 3) := by decide +kernel
theorem own_d9_120 : decode prog_19_method_6_code 120 = .ok (.astore 6, 2) := by decide +kernel
theorem own_d9_122 : decode prog_19_method_6_code 122 = .ok (.aload 6, 2) := by decide +kernel
theorem own_d9_124 : decode prog_19_method_6_code 124 = .ok (.getfield 7, 3) := by decide +kernel
theorem own_d9_127 : decode prog_19_method_6_code 127 = .ok (.ifnonnull 40, 3) := by decide +kernel
theorem own_d9_167 : decode prog_19_method_6_code 167 = .ok (.aload 6, 2) := by decide +kernel
theorem own_d9_169 : decode prog_19_method_6_code 169 = .ok (.getfield 13, 3) := by decide +kernel
theorem own_d9_172 : decode prog_19_method_6_code 172 = .ok (.ifCond .eq 31, 3) := by decide +kernel
theorem own_d9_203 : decode prog_19_method_6_code 203 = .ok (.aload 4, 2) := by decide +kernel
theorem own_d9_205 : decode prog_19_method_6_code 205 = .ok (.new 27, 3) := by decide +kernel
theorem own_d9_208 : decode prog_19_method_6_code 208 = .ok (.dup, 1) := by decide +kernel
theorem own_d9_209 : decode prog_19_method_6_code 209 = .ok (.aload 6, 2) := by decide +kernel
theorem own_d9_211 : decode prog_19_method_6_code 211 = .ok (.getfield 7, 3) := by decide +kernel
theorem own_d9_214 : decode prog_19_method_6_code 214 = .ok (.iconst 0, 1) := by decide +kernel
theorem own_d9_215 : decode prog_19_method_6_code 215 = .ok (.anewarray 31, 3) := by decide +kernel
theorem own_d9_218 : decode prog_19_method_6_code 218 = .ok (.invokespecial 33, 3) := by decide +kernel
theorem own_pd20 : parseMethodDescriptor "(Ljava/lang/String;[Lcom/example/unify_trace/unifytrace/term/Term;)V" = some ⟨[(.object "java/lang/String"), (.array (.object "com/example/unify_trace/unifytrace/term/Term"))], none⟩ := by decide +kernel
theorem own_d9_221 : decode prog_19_method_6_code 221 = .ok (.invokeinterface 42 2, 5) := by decide +kernel
theorem own_d9_226 : decode prog_19_method_6_code 226 = .ok (.iinc 5 (-1), 3) := by decide +kernel
theorem own_d9_229 : decode prog_19_method_6_code 229 = .ok (.goto (-125), 3) := by decide +kernel
theorem own_d9_232 : decode prog_19_method_6_code 232 = .ok (.aload 4, 2) := by decide +kernel
theorem own_d9_234 : decode prog_19_method_6_code 234 = .ok (.invokeinterface 52 1, 5) := by decide +kernel
theorem own_d9_239 : decode prog_19_method_6_code 239 = .ok (.checkcast 31, 3) := by decide +kernel
theorem own_d9_242 : decode prog_19_method_6_code 242 = .ok (.areturn, 1) := by decide +kernel
theorem own_pn45 : plainFor (⟨"com/example/unify_trace/unifytrace/term/Term", "name", "()Ljava/lang/String;"⟩ : MethodName) = true := plainFor_of_name (by first | (simp [plainName, overriddenIn]; done) | decide +kernel)
theorem own_ef45_R (m : MethodId) (x0 : Addr) : entryFrame m #[(.ref x0)] 1 = mkF m 0 #[.val (.ref x0)] [] := by first | (simp [entryFrame, mkF, argsToLocals, Value.category]; done) | rfl
theorem own_d45_0 : decode prog_27_method_2_code 0 = .ok (.aload_n 0, 1) := by decide +kernel
theorem own_d45_1 : decode prog_27_method_2_code 1 = .ok (.getfield 7, 3) := by decide +kernel
theorem own_d45_4 : decode prog_27_method_2_code 4 = .ok (.areturn, 1) := by decide +kernel
theorem own_pn46 : plainFor (⟨"java/lang/String", "equals", "(Ljava/lang/Object;)Z"⟩ : MethodName) = true := plainFor_of_name (by first | (simp [plainName, overriddenIn]; done) | decide +kernel)
theorem own_ef46_RR (m : MethodId) (x0 : Addr) (x1 : Addr) : entryFrame m #[(.ref x0), (.ref x1)] 3 = mkF m 0 #[.val (.ref x0), .val (.ref x1), .unset] [] := by first | (simp [entryFrame, mkF, argsToLocals, Value.category]; done) | rfl
theorem own_d46_0 : decode jdk_42_method_66_code 0 = .ok (.aload_n 0, 1) := by decide +kernel
theorem own_d46_1 : decode jdk_42_method_66_code 1 = .ok (.aload_n 1, 1) := by decide +kernel
theorem own_d46_2 : decode jdk_42_method_66_code 2 = .ok (.if_acmp .ne 5, 3) := by decide +kernel
theorem own_d46_5 : decode jdk_42_method_66_code 5 = .ok (.iconst 1, 1) := by decide +kernel
theorem own_d46_6 : decode jdk_42_method_66_code 6 = .ok (.ireturn, 1) := by decide +kernel
theorem own_pn47 : plainFor (⟨"com/example/unify_trace/unifytrace/term/Compound", "arity", "()I"⟩ : MethodName) = true := plainFor_of_name (by first | (simp [plainName, overriddenIn]; done) | decide +kernel)
theorem own_ef47_R (m : MethodId) (x0 : Addr) : entryFrame m #[(.ref x0)] 1 = mkF m 0 #[.val (.ref x0)] [] := by first | (simp [entryFrame, mkF, argsToLocals, Value.category]; done) | rfl
theorem own_d47_0 : decode prog_25_method_4_code 0 = .ok (.aload_n 0, 1) := by decide +kernel
theorem own_d47_1 : decode prog_25_method_4_code 1 = .ok (.getfield 19, 3) := by decide +kernel
theorem own_d47_4 : decode prog_25_method_4_code 4 = .ok (.arraylength, 1) := by decide +kernel
theorem own_d47_5 : decode prog_25_method_4_code 5 = .ok (.ireturn, 1) := by decide +kernel
theorem own_pd21 : parseMethodDescriptor "(Ljava/lang/String;)Lcom/example/unify_trace/unifytrace/term/Term;" = some ⟨[(.object "java/lang/String")], some (.object "com/example/unify_trace/unifytrace/term/Term")⟩ := by decide +kernel
theorem own_pd22 : parseMethodDescriptor "()Ljava/lang/String;" = some ⟨[], some (.object "java/lang/String")⟩ := by decide +kernel
theorem own_pd23 : parseMethodDescriptor "(Ljava/lang/String;)Lcom/example/unify_trace/unifytrace/program/Type;" = some ⟨[(.object "java/lang/String")], some (.object "com/example/unify_trace/unifytrace/program/Type")⟩ := by decide +kernel
theorem own_pn0 : plainFor (⟨"com/example/unify_trace/unifytrace/program/TypeBasePinLaw", "law", "(IIIII)Z"⟩ : MethodName) = true := plainFor_of_name (by first | (simp [plainName, overriddenIn]; done) | decide +kernel)
theorem own_ef0_IIIII (m : MethodId) (x0 : Int32) (x1 : Int32) (x2 : Int32) (x3 : Int32) (x4 : Int32) : entryFrame m #[(.int x0), (.int x1), (.int x2), (.int x3), (.int x4)] maxLocals = mkF m 0 #[.val (.int x0), .val (.int x1), .val (.int x2), .val (.int x3), .val (.int x4), .unset, .unset, .unset, .unset, .unset, .unset] [] := by first | (simp [entryFrame, mkF, argsToLocals, Value.category, maxLocals]; done) | rfl
theorem own_pd24 : parseMethodDescriptor "([C)V" = some ⟨[(.array .char)], none⟩ := by decide +kernel
theorem own_u16 (x : Int32) : ¬ x.toUInt32.toUInt16.toUInt32.toInt32 < 0 ∧ x.toUInt32.toUInt16.toUInt32.toInt32.toBitVec.toNat = x.toBitVec.toNat % 65536 := by
  have e : x.toUInt32.toUInt16.toUInt32.toInt32.toBitVec.toNat = x.toUInt32.toUInt16.toNat := UInt16.toNat_toUInt32 _
  have e2 : x.toUInt32.toUInt16.toNat = x.toBitVec.toNat % 65536 := UInt32.toNat_toUInt16 _
  have h := x.toUInt32.toUInt16.toNat_lt
  refine ⟨?_, by rw [e, e2]⟩
  rw [Int32.lt_iff_toInt_lt, show x.toUInt32.toUInt16.toUInt32.toInt32.toInt = x.toUInt32.toUInt16.toUInt32.toInt32.toBitVec.toInt from rfl, BitVec.toInt_eq_toNat_bmod, e, Int.bmod_def]
  show ¬ _ < 0
  omega
theorem own_i2c {x : Int32} (h0 : 0 ≤ x.toInt) (h1 : x.toInt ≤ 255) : x.toUInt32.toUInt16.toUInt32.toInt32 = x := by
  apply Int32.toInt_inj.mp
  have e := (own_u16 x).2
  have hn : x.toInt = x.toBitVec.toNat := by
    rw [show x.toInt = x.toBitVec.toInt from rfl, BitVec.toInt_eq_toNat_cond]
    rw [show x.toInt = x.toBitVec.toInt from rfl, BitVec.toInt_eq_toNat_cond] at h0
    split
    · rfl
    · rename_i hq; rw [if_neg hq] at h0; have := x.toBitVec.isLt; omega
  rw [show x.toUInt32.toUInt16.toUInt32.toInt32.toInt = x.toUInt32.toUInt16.toUInt32.toInt32.toBitVec.toInt from rfl, BitVec.toInt_eq_toNat_cond, e]
  split <;> omega
theorem own_c8 (x : Int32) : 0 ≤ (x &&& 255).toUInt32.toUInt16.toUInt32.toInt32.toInt ∧ (x &&& 255).toUInt32.toUInt16.toUInt32.toInt32.toInt ≤ 255 := by
  have e : (x &&& 255).toInt = x.toInt % 2 ^ 8 := Jvm.Kit.i32_mask x 255 (k := 8) (by decide) (by decide)
  rw [own_i2c (by omega) (by omega)]; omega
theorem own_lt {x y : Int32} : x < y ↔ x.toInt < y.toInt := Int32.lt_iff_toInt_lt
theorem own_ncE {c : Int32} (h : 0 ≤ c.toInt ∧ c.toInt ≤ 255) : nar .char c = c := own_i2c h.1 h.2
theorem own_nc0 {c : Int32} (h : 0 ≤ c.toInt ∧ c.toInt ≤ 255) : ¬ c < 0 ∧ ¬ (255 : Int32) < c := by
  rw [own_lt, own_lt]
  have e0 : (0 : Int32).toInt = 0 := rfl
  have e1 : (255 : Int32).toInt = 255 := rfl
  omega
theorem own_nc {c : Int32} (h : 0 ≤ c.toInt ∧ c.toInt ≤ 255) : ¬ nar .char c < 0 ∧ ¬ (255 : Int32) < nar .char c := by
  rw [own_ncE h]; exact own_nc0 h
theorem own_nq {c : Int32} (h : 0 ≤ c.toInt ∧ c.toInt ≤ 255) : ¬ (255 : Int32) < c := (own_nc0 h).2
def OStr (Z : State) (h : Heap) (x : Addr) (cs : List Int32) : Prop := Exa Z h x "java/lang/String" ∧ Fld Z h x "java/lang/String" "coder" "B" (.int 0) ∧ ∃ (t : Addr) (kb : ClassId) (N2 : Int32) (vs : List Value), Fld Z h x "java/lang/String" "value" "[B" (.ref t) ∧ Arv Z h t kb .byte N2 vs (.int 0) ∧ StrChars.Road.CodA cs 0 N2 vs
theorem OStr.keep {Z : State} {h h' : Heap} {x : Addr} {cs : List Int32} (F : OStr Z h x cs) (K : Keep h h' []) : OStr Z h' x cs := by
  obtain ⟨a, b, t, kb, N2, vs, d, f, g⟩ := F
  exact ⟨a.keep K, b.keep K nin0, t, kb, N2, vs, d.keep K nin0, f.keep K nin0, g⟩
theorem own_up {cs : List Int32} (hp : ∀ c ∈ cs, ¬ c < 0 ∧ ¬ (255 : Int32) < c) : ∀ c ∈ cs, ¬ c < 0 ∧ ¬ (65535 : Int32) < c := fun c hc => ⟨(hp c hc).1, fun q => (hp c hc).2 (by rw [own_lt] at q ⊢; have e0 : (65535 : Int32).toInt = 65535 := rfl; have e1 : (255 : Int32).toInt = 255 := rfl; omega)⟩
def own_nm (q : Int32) : Prop := (¬ q < 97 ∧ ¬ 122 < q) ∨ (¬ q < 65 ∧ ¬ 90 < q) ∨ (¬ q < 48 ∧ ¬ 57 < q) ∨ q = 95
theorem own_nmI {v : Int32} (h : (97 ≤ v.toInt ∧ v.toInt ≤ 122) ∨ (65 ≤ v.toInt ∧ v.toInt ≤ 90) ∨ (48 ≤ v.toInt ∧ v.toInt ≤ 57) ∨ v.toInt = 95) : own_nm v := by
  have e1 : (97 : Int32).toInt = 97 := rfl
  have e2 : (122 : Int32).toInt = 122 := rfl
  have e3 : (65 : Int32).toInt = 65 := rfl
  have e4 : (90 : Int32).toInt = 90 := rfl
  have e5 : (48 : Int32).toInt = 48 := rfl
  have e6 : (57 : Int32).toInt = 57 := rfl
  unfold own_nm
  rw [own_lt, own_lt, own_lt, own_lt, own_lt, own_lt]
  rcases h with h | h | h | h
  · left; omega
  · right; left; omega
  · right; right; left; omega
  · right; right; right; exact Int32.toInt_inj.mp (h.trans rfl)
theorem own_m31 (x : Int32) : 0 ≤ (x &&& 2147483647).toInt := by
  have e : (x &&& 2147483647).toInt = x.toInt % 2 ^ 31 := Jvm.Kit.i32_mask x 2147483647 (k := 31) (by decide) (by decide)
  omega
theorem own_mod (x m : Int32) (hm : 0 < m.toInt) : 0 ≤ ((x &&& 2147483647) % m).toInt ∧ ((x &&& 2147483647) % m).toInt < m.toInt := by
  have ha := own_m31 x
  generalize x &&& 2147483647 = a at ha
  have e : (a % m).toInt = a.toInt % m.toInt := by rw [Int32.toInt_mod]; exact Int.tmod_eq_emod_of_nonneg ha
  rw [e]
  exact ⟨Int.emod_nonneg _ (by omega), Int.emod_lt_of_pos _ hm⟩
theorem own_sh {r : Int32} (b s : Int32) (h0 : s.toInt ≤ r.toInt) (h1 : r.toInt < 63) (hs : 0 ≤ s.toInt) (hb : 0 ≤ b.toInt ∧ b.toInt ≤ 100) : (b + (r - s)).toInt = b.toInt + (r.toInt - s.toInt) := by
  have e : (r - s).toInt = r.toInt - s.toInt := Jvm.Kit.i32_sub (by omega) (by omega)
  rw [Jvm.Kit.i32_add (by rw [e]; omega) (by rw [e]; omega), e]
theorem own_sh0 {r : Int32} (b : Int32) (h0 : 0 ≤ r.toInt) (h1 : r.toInt < 63) (hb : 0 ≤ b.toInt ∧ b.toInt ≤ 100) : (b + r).toInt = b.toInt + r.toInt := Jvm.Kit.i32_add (by omega) (by omega)
theorem own_nwc0 (u : UInt32) : u % 65536 % 65536 = u % 65536 := UInt32.toNat_inj.1 (by rw [UInt32.toNat_mod, UInt32.toNat_mod]; exact Nat.mod_mod _ _)
theorem own_nwc (x : Int32) : narrow .char (.int x.toUInt32.toUInt16.toUInt32.toInt32) = .int x.toUInt32.toUInt16.toUInt32.toInt32 := by
  show Value.int (x.toUInt32.toUInt16.toUInt32.toInt32.toUInt32.toUInt16.toUInt32.toInt32) = _
  simp [own_nwc0]
def own_ok (v : Int32) : Prop := own_nm v ∧ 0 ≤ v.toInt ∧ v.toInt ≤ 255
theorem own_okI {v : Int32} (h : (97 ≤ v.toInt ∧ v.toInt ≤ 122) ∨ (65 ≤ v.toInt ∧ v.toInt ≤ 90) ∨ (48 ≤ v.toInt ∧ v.toInt ≤ 57) ∨ v.toInt = 95) : own_ok v := ⟨own_nmI h, by omega, by omega⟩
theorem own_okU {v : Int32} (h : (97 ≤ v.toInt ∧ v.toInt ≤ 122) ∨ (65 ≤ v.toInt ∧ v.toInt ≤ 90) ∨ (48 ≤ v.toInt ∧ v.toInt ≤ 57) ∨ v.toInt = 95) : own_ok v.toUInt32.toUInt16.toUInt32.toInt32 := by
  rw [own_i2c (by omega) (by omega)]; exact own_okI h
theorem own_c0 (x : Int32) : 97 ≤ (97 + (x &&& 2147483647) % 26).toUInt32.toUInt16.toUInt32.toInt32.toInt ∧ (97 + (x &&& 2147483647) % 26).toUInt32.toUInt16.toUInt32.toInt32.toInt ≤ 122 := by
  have h := own_mod x 26 (by decide)
  have e26 : (26 : Int32).toInt = 26 := rfl
  rw [e26] at h
  generalize (x &&& 2147483647) % 26 = r at h
  have e97 : (97 : Int32).toInt = 97 := rfl
  have e := own_sh0 (r := r) 97 h.1 (by omega) (by decide)
  rw [own_i2c (by omega) (by omega)]; omega
def own_name (cs : List Int32) : Prop := 1 ≤ cs.length ∧ cs.length ≤ 4 ∧ (¬ cs.getD 0 0 < 97 ∧ ¬ 122 < cs.getD 0 0) ∧ (∀ j, 1 ≤ j → j < cs.length → own_nm (cs.getD j 0)) ∧ ∀ c ∈ cs, ¬ c < 0 ∧ ¬ (255 : Int32) < c
theorem own_tn {n : Nat} (h : n ≤ 4000) : (Int32.ofNat n).toInt = n := Int32.toInt_ofNat_small (by omega)
theorem own_inc (n : Nat) : Int32.ofNat n + 1 = Int32.ofNat (n + 1) := by rw [Int32.ofNat_add]; rfl
set_option maxRecDepth 65536 in
set_option maxHeartbeats 40000000 in
theorem rmNm (l : Launch) (Z : State) (a0 : Array Value) (hw : ∀ d ∈ tables_1, d.before a0 Z = true) (q : Int32) (h0 : Heap) (hq : own_nm q) :
    OMet l Z (⟨"com/example/unify_trace/unifytrace/term/Term", "isNameCharacter", "(C)Z"⟩ : MethodName) prog_27_method_8_code 1 (some .boolean) (⟨0, 0, 0, 0⟩ : Room) #[(.int q)] h0 (fun v h L => v = some (.int (1 : Int32)) ∧ h = h0 ∧ L = []) := by
  refine own_enter own_pn49 ?_
  intro p e s m below meth c T0 X0 hC e0
  obtain ⟨hx, hZ, hby, hml, hown, hret, hlk, hnm⟩ := hC
  have hown : s.vm.findClass "com/example/unify_trace/unifytrace/term/Term" = some m.cls := hown
  refine own_at (own_ef49_I m q) ?_
  show OFin p e below s _ _ _ (T0.setTop (mkF m 0 #[.val (.int q)] []))
  refine own_st (fun _ kS => XS.iloadN X0.here hx rfl (hb hby own_d49_0) rfl kS) ?_
  show OFin p e below s _ _ _ (T0.setTop (mkF m 1 #[.val (.int q)] [(.int q)]))
  refine own_st (fun _ kS => XS.bipush X0.here hx rfl (hb hby own_d49_1) kS) ?_
  show OFin p e below s _ _ _ (T0.setTop (mkF m 3 #[.val (.int q)] [(.int (97 : Int32)), (.int q)]))
  by_cases c1 : q < (97 : Int32)
  · refine own_st (fun _ kS => XS.icmpYes X0.here hx rfl (pc0 := 3) (pc' := 12) rfl (hb hby own_d49_3) rfl (tlt c1).1 (by decide) (by decide) kS) ?_
    show OFin p e below s _ _ _ (T0.setTop (mkF m 12 #[.val (.int q)] []))
    refine own_st (fun _ kS => XS.iloadN X0.here hx rfl (hb hby own_d49_12) rfl kS) ?_
    show OFin p e below s _ _ _ (T0.setTop (mkF m 13 #[.val (.int q)] [(.int q)]))
    refine own_st (fun _ kS => XS.bipush X0.here hx rfl (hb hby own_d49_13) kS) ?_
    show OFin p e below s _ _ _ (T0.setTop (mkF m 15 #[.val (.int q)] [(.int (65 : Int32)), (.int q)]))
    by_cases c2 : q < (65 : Int32)
    · refine own_st (fun _ kS => XS.icmpYes X0.here hx rfl (pc0 := 15) (pc' := 24) rfl (hb hby own_d49_15) rfl (tlt c2).1 (by decide) (by decide) kS) ?_
      show OFin p e below s _ _ _ (T0.setTop (mkF m 24 #[.val (.int q)] []))
      refine own_st (fun _ kS => XS.iloadN X0.here hx rfl (hb hby own_d49_24) rfl kS) ?_
      show OFin p e below s _ _ _ (T0.setTop (mkF m 25 #[.val (.int q)] [(.int q)]))
      refine own_st (fun _ kS => XS.bipush X0.here hx rfl (hb hby own_d49_25) kS) ?_
      show OFin p e below s _ _ _ (T0.setTop (mkF m 27 #[.val (.int q)] [(.int (48 : Int32)), (.int q)]))
      by_cases c3 : q < (48 : Int32)
      · refine own_st (fun _ kS => XS.icmpYes X0.here hx rfl (pc0 := 27) (pc' := 36) rfl (hb hby own_d49_27) rfl (tlt c3).1 (by decide) (by decide) kS) ?_
        show OFin p e below s _ _ _ (T0.setTop (mkF m 36 #[.val (.int q)] []))
        refine own_st (fun _ kS => XS.iloadN X0.here hx rfl (hb hby own_d49_36) rfl kS) ?_
        show OFin p e below s _ _ _ (T0.setTop (mkF m 37 #[.val (.int q)] [(.int q)]))
        refine own_st (fun _ kS => XS.bipush X0.here hx rfl (hb hby own_d49_37) kS) ?_
        show OFin p e below s _ _ _ (T0.setTop (mkF m 39 #[.val (.int q)] [(.int (95 : Int32)), (.int q)]))
        by_cases c4 : q = (95 : Int32)
        · refine own_st (fun _ kS => XS.icmpNo X0.here hx rfl (hb hby own_d49_39) rfl (teq c4).2 kS) ?_
          show OFin p e below s _ _ _ (T0.setTop (mkF m 42 #[.val (.int q)] []))
          refine own_st (fun _ kS => XS.iconst X0.here hx rfl (hb hby own_d49_42) kS) ?_
          show OFin p e below s _ _ _ (T0.setTop (mkF m 43 #[.val (.int q)] [(.int (1 : Int32))]))
          refine own_st (fun _ kS => XS.goto X0.here hx rfl (pc0 := 43) (pc' := 47) rfl (hb hby own_d49_43) (by decide) (by decide) kS) ?_
          show OFin p e below s _ _ _ (T0.setTop (mkF m 47 #[.val (.int q)] [(.int (1 : Int32))]))
          exact own_ret X0 hx (t := .boolean) hret hlk rfl (Or.inl ⟨rfl, by simp, _, rfl⟩) (hb hby own_d49_47) (by decide) (by decide) ⟨rfl, e0, rfl⟩
        · refine own_st (fun _ kS => XS.icmpYes X0.here hx rfl (pc0 := 39) (pc' := 46) rfl (hb hby own_d49_39) rfl (feq c4).2 (by decide) (by decide) kS) ?_
          show OFin p e below s _ _ _ (T0.setTop (mkF m 46 #[.val (.int q)] []))
          refine own_st (fun _ kS => XS.iconst X0.here hx rfl (hb hby own_d49_46) kS) ?_
          show OFin p e below s _ _ _ (T0.setTop (mkF m 47 #[.val (.int q)] [(.int (0 : Int32))]))
          exfalso; rcases hq with ⟨g1, g2⟩ | ⟨g1, g2⟩ | ⟨g1, g2⟩ | g1 <;> contradiction
      · refine own_st (fun _ kS => XS.icmpNo X0.here hx rfl (hb hby own_d49_27) rfl (flt c3).1 kS) ?_
        show OFin p e below s _ _ _ (T0.setTop (mkF m 30 #[.val (.int q)] []))
        refine own_st (fun _ kS => XS.iloadN X0.here hx rfl (hb hby own_d49_30) rfl kS) ?_
        show OFin p e below s _ _ _ (T0.setTop (mkF m 31 #[.val (.int q)] [(.int q)]))
        refine own_st (fun _ kS => XS.bipush X0.here hx rfl (hb hby own_d49_31) kS) ?_
        show OFin p e below s _ _ _ (T0.setTop (mkF m 33 #[.val (.int q)] [(.int (57 : Int32)), (.int q)]))
        by_cases c4 : (57 : Int32) < q
        · refine own_st (fun _ kS => XS.icmpNo X0.here hx rfl (hb hby own_d49_33) rfl (tlt c4).2.2.2 kS) ?_
          show OFin p e below s _ _ _ (T0.setTop (mkF m 36 #[.val (.int q)] []))
          refine own_st (fun _ kS => XS.iloadN X0.here hx rfl (hb hby own_d49_36) rfl kS) ?_
          show OFin p e below s _ _ _ (T0.setTop (mkF m 37 #[.val (.int q)] [(.int q)]))
          refine own_st (fun _ kS => XS.bipush X0.here hx rfl (hb hby own_d49_37) kS) ?_
          show OFin p e below s _ _ _ (T0.setTop (mkF m 39 #[.val (.int q)] [(.int (95 : Int32)), (.int q)]))
          by_cases c5 : q = (95 : Int32)
          · refine own_st (fun _ kS => XS.icmpNo X0.here hx rfl (hb hby own_d49_39) rfl (teq c5).2 kS) ?_
            show OFin p e below s _ _ _ (T0.setTop (mkF m 42 #[.val (.int q)] []))
            refine own_st (fun _ kS => XS.iconst X0.here hx rfl (hb hby own_d49_42) kS) ?_
            show OFin p e below s _ _ _ (T0.setTop (mkF m 43 #[.val (.int q)] [(.int (1 : Int32))]))
            refine own_st (fun _ kS => XS.goto X0.here hx rfl (pc0 := 43) (pc' := 47) rfl (hb hby own_d49_43) (by decide) (by decide) kS) ?_
            show OFin p e below s _ _ _ (T0.setTop (mkF m 47 #[.val (.int q)] [(.int (1 : Int32))]))
            exact own_ret X0 hx (t := .boolean) hret hlk rfl (Or.inl ⟨rfl, by simp, _, rfl⟩) (hb hby own_d49_47) (by decide) (by decide) ⟨rfl, e0, rfl⟩
          · refine own_st (fun _ kS => XS.icmpYes X0.here hx rfl (pc0 := 39) (pc' := 46) rfl (hb hby own_d49_39) rfl (feq c5).2 (by decide) (by decide) kS) ?_
            show OFin p e below s _ _ _ (T0.setTop (mkF m 46 #[.val (.int q)] []))
            refine own_st (fun _ kS => XS.iconst X0.here hx rfl (hb hby own_d49_46) kS) ?_
            show OFin p e below s _ _ _ (T0.setTop (mkF m 47 #[.val (.int q)] [(.int (0 : Int32))]))
            exfalso; rcases hq with ⟨g1, g2⟩ | ⟨g1, g2⟩ | ⟨g1, g2⟩ | g1 <;> contradiction
        · refine own_st (fun _ kS => XS.icmpYes X0.here hx rfl (pc0 := 33) (pc' := 42) rfl (hb hby own_d49_33) rfl (flt c4).2.2.2 (by decide) (by decide) kS) ?_
          show OFin p e below s _ _ _ (T0.setTop (mkF m 42 #[.val (.int q)] []))
          refine own_st (fun _ kS => XS.iconst X0.here hx rfl (hb hby own_d49_42) kS) ?_
          show OFin p e below s _ _ _ (T0.setTop (mkF m 43 #[.val (.int q)] [(.int (1 : Int32))]))
          refine own_st (fun _ kS => XS.goto X0.here hx rfl (pc0 := 43) (pc' := 47) rfl (hb hby own_d49_43) (by decide) (by decide) kS) ?_
          show OFin p e below s _ _ _ (T0.setTop (mkF m 47 #[.val (.int q)] [(.int (1 : Int32))]))
          exact own_ret X0 hx (t := .boolean) hret hlk rfl (Or.inl ⟨rfl, by simp, _, rfl⟩) (hb hby own_d49_47) (by decide) (by decide) ⟨rfl, e0, rfl⟩
    · refine own_st (fun _ kS => XS.icmpNo X0.here hx rfl (hb hby own_d49_15) rfl (flt c2).1 kS) ?_
      show OFin p e below s _ _ _ (T0.setTop (mkF m 18 #[.val (.int q)] []))
      refine own_st (fun _ kS => XS.iloadN X0.here hx rfl (hb hby own_d49_18) rfl kS) ?_
      show OFin p e below s _ _ _ (T0.setTop (mkF m 19 #[.val (.int q)] [(.int q)]))
      refine own_st (fun _ kS => XS.bipush X0.here hx rfl (hb hby own_d49_19) kS) ?_
      show OFin p e below s _ _ _ (T0.setTop (mkF m 21 #[.val (.int q)] [(.int (90 : Int32)), (.int q)]))
      by_cases c3 : (90 : Int32) < q
      · refine own_st (fun _ kS => XS.icmpNo X0.here hx rfl (hb hby own_d49_21) rfl (tlt c3).2.2.2 kS) ?_
        show OFin p e below s _ _ _ (T0.setTop (mkF m 24 #[.val (.int q)] []))
        refine own_st (fun _ kS => XS.iloadN X0.here hx rfl (hb hby own_d49_24) rfl kS) ?_
        show OFin p e below s _ _ _ (T0.setTop (mkF m 25 #[.val (.int q)] [(.int q)]))
        refine own_st (fun _ kS => XS.bipush X0.here hx rfl (hb hby own_d49_25) kS) ?_
        show OFin p e below s _ _ _ (T0.setTop (mkF m 27 #[.val (.int q)] [(.int (48 : Int32)), (.int q)]))
        by_cases c4 : q < (48 : Int32)
        · refine own_st (fun _ kS => XS.icmpYes X0.here hx rfl (pc0 := 27) (pc' := 36) rfl (hb hby own_d49_27) rfl (tlt c4).1 (by decide) (by decide) kS) ?_
          show OFin p e below s _ _ _ (T0.setTop (mkF m 36 #[.val (.int q)] []))
          refine own_st (fun _ kS => XS.iloadN X0.here hx rfl (hb hby own_d49_36) rfl kS) ?_
          show OFin p e below s _ _ _ (T0.setTop (mkF m 37 #[.val (.int q)] [(.int q)]))
          refine own_st (fun _ kS => XS.bipush X0.here hx rfl (hb hby own_d49_37) kS) ?_
          show OFin p e below s _ _ _ (T0.setTop (mkF m 39 #[.val (.int q)] [(.int (95 : Int32)), (.int q)]))
          by_cases c5 : q = (95 : Int32)
          · refine own_st (fun _ kS => XS.icmpNo X0.here hx rfl (hb hby own_d49_39) rfl (teq c5).2 kS) ?_
            show OFin p e below s _ _ _ (T0.setTop (mkF m 42 #[.val (.int q)] []))
            refine own_st (fun _ kS => XS.iconst X0.here hx rfl (hb hby own_d49_42) kS) ?_
            show OFin p e below s _ _ _ (T0.setTop (mkF m 43 #[.val (.int q)] [(.int (1 : Int32))]))
            refine own_st (fun _ kS => XS.goto X0.here hx rfl (pc0 := 43) (pc' := 47) rfl (hb hby own_d49_43) (by decide) (by decide) kS) ?_
            show OFin p e below s _ _ _ (T0.setTop (mkF m 47 #[.val (.int q)] [(.int (1 : Int32))]))
            exact own_ret X0 hx (t := .boolean) hret hlk rfl (Or.inl ⟨rfl, by simp, _, rfl⟩) (hb hby own_d49_47) (by decide) (by decide) ⟨rfl, e0, rfl⟩
          · refine own_st (fun _ kS => XS.icmpYes X0.here hx rfl (pc0 := 39) (pc' := 46) rfl (hb hby own_d49_39) rfl (feq c5).2 (by decide) (by decide) kS) ?_
            show OFin p e below s _ _ _ (T0.setTop (mkF m 46 #[.val (.int q)] []))
            refine own_st (fun _ kS => XS.iconst X0.here hx rfl (hb hby own_d49_46) kS) ?_
            show OFin p e below s _ _ _ (T0.setTop (mkF m 47 #[.val (.int q)] [(.int (0 : Int32))]))
            exfalso; rcases hq with ⟨g1, g2⟩ | ⟨g1, g2⟩ | ⟨g1, g2⟩ | g1 <;> contradiction
        · refine own_st (fun _ kS => XS.icmpNo X0.here hx rfl (hb hby own_d49_27) rfl (flt c4).1 kS) ?_
          show OFin p e below s _ _ _ (T0.setTop (mkF m 30 #[.val (.int q)] []))
          refine own_st (fun _ kS => XS.iloadN X0.here hx rfl (hb hby own_d49_30) rfl kS) ?_
          show OFin p e below s _ _ _ (T0.setTop (mkF m 31 #[.val (.int q)] [(.int q)]))
          refine own_st (fun _ kS => XS.bipush X0.here hx rfl (hb hby own_d49_31) kS) ?_
          show OFin p e below s _ _ _ (T0.setTop (mkF m 33 #[.val (.int q)] [(.int (57 : Int32)), (.int q)]))
          by_cases c5 : (57 : Int32) < q
          · refine own_st (fun _ kS => XS.icmpNo X0.here hx rfl (hb hby own_d49_33) rfl (tlt c5).2.2.2 kS) ?_
            show OFin p e below s _ _ _ (T0.setTop (mkF m 36 #[.val (.int q)] []))
            refine own_st (fun _ kS => XS.iloadN X0.here hx rfl (hb hby own_d49_36) rfl kS) ?_
            show OFin p e below s _ _ _ (T0.setTop (mkF m 37 #[.val (.int q)] [(.int q)]))
            refine own_st (fun _ kS => XS.bipush X0.here hx rfl (hb hby own_d49_37) kS) ?_
            show OFin p e below s _ _ _ (T0.setTop (mkF m 39 #[.val (.int q)] [(.int (95 : Int32)), (.int q)]))
            by_cases c6 : q = (95 : Int32)
            · refine own_st (fun _ kS => XS.icmpNo X0.here hx rfl (hb hby own_d49_39) rfl (teq c6).2 kS) ?_
              show OFin p e below s _ _ _ (T0.setTop (mkF m 42 #[.val (.int q)] []))
              refine own_st (fun _ kS => XS.iconst X0.here hx rfl (hb hby own_d49_42) kS) ?_
              show OFin p e below s _ _ _ (T0.setTop (mkF m 43 #[.val (.int q)] [(.int (1 : Int32))]))
              refine own_st (fun _ kS => XS.goto X0.here hx rfl (pc0 := 43) (pc' := 47) rfl (hb hby own_d49_43) (by decide) (by decide) kS) ?_
              show OFin p e below s _ _ _ (T0.setTop (mkF m 47 #[.val (.int q)] [(.int (1 : Int32))]))
              exact own_ret X0 hx (t := .boolean) hret hlk rfl (Or.inl ⟨rfl, by simp, _, rfl⟩) (hb hby own_d49_47) (by decide) (by decide) ⟨rfl, e0, rfl⟩
            · refine own_st (fun _ kS => XS.icmpYes X0.here hx rfl (pc0 := 39) (pc' := 46) rfl (hb hby own_d49_39) rfl (feq c6).2 (by decide) (by decide) kS) ?_
              show OFin p e below s _ _ _ (T0.setTop (mkF m 46 #[.val (.int q)] []))
              refine own_st (fun _ kS => XS.iconst X0.here hx rfl (hb hby own_d49_46) kS) ?_
              show OFin p e below s _ _ _ (T0.setTop (mkF m 47 #[.val (.int q)] [(.int (0 : Int32))]))
              exfalso; rcases hq with ⟨g1, g2⟩ | ⟨g1, g2⟩ | ⟨g1, g2⟩ | g1 <;> contradiction
          · refine own_st (fun _ kS => XS.icmpYes X0.here hx rfl (pc0 := 33) (pc' := 42) rfl (hb hby own_d49_33) rfl (flt c5).2.2.2 (by decide) (by decide) kS) ?_
            show OFin p e below s _ _ _ (T0.setTop (mkF m 42 #[.val (.int q)] []))
            refine own_st (fun _ kS => XS.iconst X0.here hx rfl (hb hby own_d49_42) kS) ?_
            show OFin p e below s _ _ _ (T0.setTop (mkF m 43 #[.val (.int q)] [(.int (1 : Int32))]))
            refine own_st (fun _ kS => XS.goto X0.here hx rfl (pc0 := 43) (pc' := 47) rfl (hb hby own_d49_43) (by decide) (by decide) kS) ?_
            show OFin p e below s _ _ _ (T0.setTop (mkF m 47 #[.val (.int q)] [(.int (1 : Int32))]))
            exact own_ret X0 hx (t := .boolean) hret hlk rfl (Or.inl ⟨rfl, by simp, _, rfl⟩) (hb hby own_d49_47) (by decide) (by decide) ⟨rfl, e0, rfl⟩
      · refine own_st (fun _ kS => XS.icmpYes X0.here hx rfl (pc0 := 21) (pc' := 42) rfl (hb hby own_d49_21) rfl (flt c3).2.2.2 (by decide) (by decide) kS) ?_
        show OFin p e below s _ _ _ (T0.setTop (mkF m 42 #[.val (.int q)] []))
        refine own_st (fun _ kS => XS.iconst X0.here hx rfl (hb hby own_d49_42) kS) ?_
        show OFin p e below s _ _ _ (T0.setTop (mkF m 43 #[.val (.int q)] [(.int (1 : Int32))]))
        refine own_st (fun _ kS => XS.goto X0.here hx rfl (pc0 := 43) (pc' := 47) rfl (hb hby own_d49_43) (by decide) (by decide) kS) ?_
        show OFin p e below s _ _ _ (T0.setTop (mkF m 47 #[.val (.int q)] [(.int (1 : Int32))]))
        exact own_ret X0 hx (t := .boolean) hret hlk rfl (Or.inl ⟨rfl, by simp, _, rfl⟩) (hb hby own_d49_47) (by decide) (by decide) ⟨rfl, e0, rfl⟩
  · refine own_st (fun _ kS => XS.icmpNo X0.here hx rfl (hb hby own_d49_3) rfl (flt c1).1 kS) ?_
    show OFin p e below s _ _ _ (T0.setTop (mkF m 6 #[.val (.int q)] []))
    refine own_st (fun _ kS => XS.iloadN X0.here hx rfl (hb hby own_d49_6) rfl kS) ?_
    show OFin p e below s _ _ _ (T0.setTop (mkF m 7 #[.val (.int q)] [(.int q)]))
    refine own_st (fun _ kS => XS.bipush X0.here hx rfl (hb hby own_d49_7) kS) ?_
    show OFin p e below s _ _ _ (T0.setTop (mkF m 9 #[.val (.int q)] [(.int (122 : Int32)), (.int q)]))
    by_cases c2 : (122 : Int32) < q
    · refine own_st (fun _ kS => XS.icmpNo X0.here hx rfl (hb hby own_d49_9) rfl (tlt c2).2.2.2 kS) ?_
      show OFin p e below s _ _ _ (T0.setTop (mkF m 12 #[.val (.int q)] []))
      refine own_st (fun _ kS => XS.iloadN X0.here hx rfl (hb hby own_d49_12) rfl kS) ?_
      show OFin p e below s _ _ _ (T0.setTop (mkF m 13 #[.val (.int q)] [(.int q)]))
      refine own_st (fun _ kS => XS.bipush X0.here hx rfl (hb hby own_d49_13) kS) ?_
      show OFin p e below s _ _ _ (T0.setTop (mkF m 15 #[.val (.int q)] [(.int (65 : Int32)), (.int q)]))
      by_cases c3 : q < (65 : Int32)
      · refine own_st (fun _ kS => XS.icmpYes X0.here hx rfl (pc0 := 15) (pc' := 24) rfl (hb hby own_d49_15) rfl (tlt c3).1 (by decide) (by decide) kS) ?_
        show OFin p e below s _ _ _ (T0.setTop (mkF m 24 #[.val (.int q)] []))
        refine own_st (fun _ kS => XS.iloadN X0.here hx rfl (hb hby own_d49_24) rfl kS) ?_
        show OFin p e below s _ _ _ (T0.setTop (mkF m 25 #[.val (.int q)] [(.int q)]))
        refine own_st (fun _ kS => XS.bipush X0.here hx rfl (hb hby own_d49_25) kS) ?_
        show OFin p e below s _ _ _ (T0.setTop (mkF m 27 #[.val (.int q)] [(.int (48 : Int32)), (.int q)]))
        by_cases c4 : q < (48 : Int32)
        · refine own_st (fun _ kS => XS.icmpYes X0.here hx rfl (pc0 := 27) (pc' := 36) rfl (hb hby own_d49_27) rfl (tlt c4).1 (by decide) (by decide) kS) ?_
          show OFin p e below s _ _ _ (T0.setTop (mkF m 36 #[.val (.int q)] []))
          refine own_st (fun _ kS => XS.iloadN X0.here hx rfl (hb hby own_d49_36) rfl kS) ?_
          show OFin p e below s _ _ _ (T0.setTop (mkF m 37 #[.val (.int q)] [(.int q)]))
          refine own_st (fun _ kS => XS.bipush X0.here hx rfl (hb hby own_d49_37) kS) ?_
          show OFin p e below s _ _ _ (T0.setTop (mkF m 39 #[.val (.int q)] [(.int (95 : Int32)), (.int q)]))
          by_cases c5 : q = (95 : Int32)
          · refine own_st (fun _ kS => XS.icmpNo X0.here hx rfl (hb hby own_d49_39) rfl (teq c5).2 kS) ?_
            show OFin p e below s _ _ _ (T0.setTop (mkF m 42 #[.val (.int q)] []))
            refine own_st (fun _ kS => XS.iconst X0.here hx rfl (hb hby own_d49_42) kS) ?_
            show OFin p e below s _ _ _ (T0.setTop (mkF m 43 #[.val (.int q)] [(.int (1 : Int32))]))
            refine own_st (fun _ kS => XS.goto X0.here hx rfl (pc0 := 43) (pc' := 47) rfl (hb hby own_d49_43) (by decide) (by decide) kS) ?_
            show OFin p e below s _ _ _ (T0.setTop (mkF m 47 #[.val (.int q)] [(.int (1 : Int32))]))
            exact own_ret X0 hx (t := .boolean) hret hlk rfl (Or.inl ⟨rfl, by simp, _, rfl⟩) (hb hby own_d49_47) (by decide) (by decide) ⟨rfl, e0, rfl⟩
          · refine own_st (fun _ kS => XS.icmpYes X0.here hx rfl (pc0 := 39) (pc' := 46) rfl (hb hby own_d49_39) rfl (feq c5).2 (by decide) (by decide) kS) ?_
            show OFin p e below s _ _ _ (T0.setTop (mkF m 46 #[.val (.int q)] []))
            refine own_st (fun _ kS => XS.iconst X0.here hx rfl (hb hby own_d49_46) kS) ?_
            show OFin p e below s _ _ _ (T0.setTop (mkF m 47 #[.val (.int q)] [(.int (0 : Int32))]))
            exfalso; rcases hq with ⟨g1, g2⟩ | ⟨g1, g2⟩ | ⟨g1, g2⟩ | g1 <;> contradiction
        · refine own_st (fun _ kS => XS.icmpNo X0.here hx rfl (hb hby own_d49_27) rfl (flt c4).1 kS) ?_
          show OFin p e below s _ _ _ (T0.setTop (mkF m 30 #[.val (.int q)] []))
          refine own_st (fun _ kS => XS.iloadN X0.here hx rfl (hb hby own_d49_30) rfl kS) ?_
          show OFin p e below s _ _ _ (T0.setTop (mkF m 31 #[.val (.int q)] [(.int q)]))
          refine own_st (fun _ kS => XS.bipush X0.here hx rfl (hb hby own_d49_31) kS) ?_
          show OFin p e below s _ _ _ (T0.setTop (mkF m 33 #[.val (.int q)] [(.int (57 : Int32)), (.int q)]))
          by_cases c5 : (57 : Int32) < q
          · refine own_st (fun _ kS => XS.icmpNo X0.here hx rfl (hb hby own_d49_33) rfl (tlt c5).2.2.2 kS) ?_
            show OFin p e below s _ _ _ (T0.setTop (mkF m 36 #[.val (.int q)] []))
            refine own_st (fun _ kS => XS.iloadN X0.here hx rfl (hb hby own_d49_36) rfl kS) ?_
            show OFin p e below s _ _ _ (T0.setTop (mkF m 37 #[.val (.int q)] [(.int q)]))
            refine own_st (fun _ kS => XS.bipush X0.here hx rfl (hb hby own_d49_37) kS) ?_
            show OFin p e below s _ _ _ (T0.setTop (mkF m 39 #[.val (.int q)] [(.int (95 : Int32)), (.int q)]))
            by_cases c6 : q = (95 : Int32)
            · refine own_st (fun _ kS => XS.icmpNo X0.here hx rfl (hb hby own_d49_39) rfl (teq c6).2 kS) ?_
              show OFin p e below s _ _ _ (T0.setTop (mkF m 42 #[.val (.int q)] []))
              refine own_st (fun _ kS => XS.iconst X0.here hx rfl (hb hby own_d49_42) kS) ?_
              show OFin p e below s _ _ _ (T0.setTop (mkF m 43 #[.val (.int q)] [(.int (1 : Int32))]))
              refine own_st (fun _ kS => XS.goto X0.here hx rfl (pc0 := 43) (pc' := 47) rfl (hb hby own_d49_43) (by decide) (by decide) kS) ?_
              show OFin p e below s _ _ _ (T0.setTop (mkF m 47 #[.val (.int q)] [(.int (1 : Int32))]))
              exact own_ret X0 hx (t := .boolean) hret hlk rfl (Or.inl ⟨rfl, by simp, _, rfl⟩) (hb hby own_d49_47) (by decide) (by decide) ⟨rfl, e0, rfl⟩
            · refine own_st (fun _ kS => XS.icmpYes X0.here hx rfl (pc0 := 39) (pc' := 46) rfl (hb hby own_d49_39) rfl (feq c6).2 (by decide) (by decide) kS) ?_
              show OFin p e below s _ _ _ (T0.setTop (mkF m 46 #[.val (.int q)] []))
              refine own_st (fun _ kS => XS.iconst X0.here hx rfl (hb hby own_d49_46) kS) ?_
              show OFin p e below s _ _ _ (T0.setTop (mkF m 47 #[.val (.int q)] [(.int (0 : Int32))]))
              exfalso; rcases hq with ⟨g1, g2⟩ | ⟨g1, g2⟩ | ⟨g1, g2⟩ | g1 <;> contradiction
          · refine own_st (fun _ kS => XS.icmpYes X0.here hx rfl (pc0 := 33) (pc' := 42) rfl (hb hby own_d49_33) rfl (flt c5).2.2.2 (by decide) (by decide) kS) ?_
            show OFin p e below s _ _ _ (T0.setTop (mkF m 42 #[.val (.int q)] []))
            refine own_st (fun _ kS => XS.iconst X0.here hx rfl (hb hby own_d49_42) kS) ?_
            show OFin p e below s _ _ _ (T0.setTop (mkF m 43 #[.val (.int q)] [(.int (1 : Int32))]))
            refine own_st (fun _ kS => XS.goto X0.here hx rfl (pc0 := 43) (pc' := 47) rfl (hb hby own_d49_43) (by decide) (by decide) kS) ?_
            show OFin p e below s _ _ _ (T0.setTop (mkF m 47 #[.val (.int q)] [(.int (1 : Int32))]))
            exact own_ret X0 hx (t := .boolean) hret hlk rfl (Or.inl ⟨rfl, by simp, _, rfl⟩) (hb hby own_d49_47) (by decide) (by decide) ⟨rfl, e0, rfl⟩
      · refine own_st (fun _ kS => XS.icmpNo X0.here hx rfl (hb hby own_d49_15) rfl (flt c3).1 kS) ?_
        show OFin p e below s _ _ _ (T0.setTop (mkF m 18 #[.val (.int q)] []))
        refine own_st (fun _ kS => XS.iloadN X0.here hx rfl (hb hby own_d49_18) rfl kS) ?_
        show OFin p e below s _ _ _ (T0.setTop (mkF m 19 #[.val (.int q)] [(.int q)]))
        refine own_st (fun _ kS => XS.bipush X0.here hx rfl (hb hby own_d49_19) kS) ?_
        show OFin p e below s _ _ _ (T0.setTop (mkF m 21 #[.val (.int q)] [(.int (90 : Int32)), (.int q)]))
        by_cases c4 : (90 : Int32) < q
        · refine own_st (fun _ kS => XS.icmpNo X0.here hx rfl (hb hby own_d49_21) rfl (tlt c4).2.2.2 kS) ?_
          show OFin p e below s _ _ _ (T0.setTop (mkF m 24 #[.val (.int q)] []))
          refine own_st (fun _ kS => XS.iloadN X0.here hx rfl (hb hby own_d49_24) rfl kS) ?_
          show OFin p e below s _ _ _ (T0.setTop (mkF m 25 #[.val (.int q)] [(.int q)]))
          refine own_st (fun _ kS => XS.bipush X0.here hx rfl (hb hby own_d49_25) kS) ?_
          show OFin p e below s _ _ _ (T0.setTop (mkF m 27 #[.val (.int q)] [(.int (48 : Int32)), (.int q)]))
          by_cases c5 : q < (48 : Int32)
          · refine own_st (fun _ kS => XS.icmpYes X0.here hx rfl (pc0 := 27) (pc' := 36) rfl (hb hby own_d49_27) rfl (tlt c5).1 (by decide) (by decide) kS) ?_
            show OFin p e below s _ _ _ (T0.setTop (mkF m 36 #[.val (.int q)] []))
            refine own_st (fun _ kS => XS.iloadN X0.here hx rfl (hb hby own_d49_36) rfl kS) ?_
            show OFin p e below s _ _ _ (T0.setTop (mkF m 37 #[.val (.int q)] [(.int q)]))
            refine own_st (fun _ kS => XS.bipush X0.here hx rfl (hb hby own_d49_37) kS) ?_
            show OFin p e below s _ _ _ (T0.setTop (mkF m 39 #[.val (.int q)] [(.int (95 : Int32)), (.int q)]))
            by_cases c6 : q = (95 : Int32)
            · refine own_st (fun _ kS => XS.icmpNo X0.here hx rfl (hb hby own_d49_39) rfl (teq c6).2 kS) ?_
              show OFin p e below s _ _ _ (T0.setTop (mkF m 42 #[.val (.int q)] []))
              refine own_st (fun _ kS => XS.iconst X0.here hx rfl (hb hby own_d49_42) kS) ?_
              show OFin p e below s _ _ _ (T0.setTop (mkF m 43 #[.val (.int q)] [(.int (1 : Int32))]))
              refine own_st (fun _ kS => XS.goto X0.here hx rfl (pc0 := 43) (pc' := 47) rfl (hb hby own_d49_43) (by decide) (by decide) kS) ?_
              show OFin p e below s _ _ _ (T0.setTop (mkF m 47 #[.val (.int q)] [(.int (1 : Int32))]))
              exact own_ret X0 hx (t := .boolean) hret hlk rfl (Or.inl ⟨rfl, by simp, _, rfl⟩) (hb hby own_d49_47) (by decide) (by decide) ⟨rfl, e0, rfl⟩
            · refine own_st (fun _ kS => XS.icmpYes X0.here hx rfl (pc0 := 39) (pc' := 46) rfl (hb hby own_d49_39) rfl (feq c6).2 (by decide) (by decide) kS) ?_
              show OFin p e below s _ _ _ (T0.setTop (mkF m 46 #[.val (.int q)] []))
              refine own_st (fun _ kS => XS.iconst X0.here hx rfl (hb hby own_d49_46) kS) ?_
              show OFin p e below s _ _ _ (T0.setTop (mkF m 47 #[.val (.int q)] [(.int (0 : Int32))]))
              exfalso; rcases hq with ⟨g1, g2⟩ | ⟨g1, g2⟩ | ⟨g1, g2⟩ | g1 <;> contradiction
          · refine own_st (fun _ kS => XS.icmpNo X0.here hx rfl (hb hby own_d49_27) rfl (flt c5).1 kS) ?_
            show OFin p e below s _ _ _ (T0.setTop (mkF m 30 #[.val (.int q)] []))
            refine own_st (fun _ kS => XS.iloadN X0.here hx rfl (hb hby own_d49_30) rfl kS) ?_
            show OFin p e below s _ _ _ (T0.setTop (mkF m 31 #[.val (.int q)] [(.int q)]))
            refine own_st (fun _ kS => XS.bipush X0.here hx rfl (hb hby own_d49_31) kS) ?_
            show OFin p e below s _ _ _ (T0.setTop (mkF m 33 #[.val (.int q)] [(.int (57 : Int32)), (.int q)]))
            by_cases c6 : (57 : Int32) < q
            · refine own_st (fun _ kS => XS.icmpNo X0.here hx rfl (hb hby own_d49_33) rfl (tlt c6).2.2.2 kS) ?_
              show OFin p e below s _ _ _ (T0.setTop (mkF m 36 #[.val (.int q)] []))
              refine own_st (fun _ kS => XS.iloadN X0.here hx rfl (hb hby own_d49_36) rfl kS) ?_
              show OFin p e below s _ _ _ (T0.setTop (mkF m 37 #[.val (.int q)] [(.int q)]))
              refine own_st (fun _ kS => XS.bipush X0.here hx rfl (hb hby own_d49_37) kS) ?_
              show OFin p e below s _ _ _ (T0.setTop (mkF m 39 #[.val (.int q)] [(.int (95 : Int32)), (.int q)]))
              by_cases c7 : q = (95 : Int32)
              · refine own_st (fun _ kS => XS.icmpNo X0.here hx rfl (hb hby own_d49_39) rfl (teq c7).2 kS) ?_
                show OFin p e below s _ _ _ (T0.setTop (mkF m 42 #[.val (.int q)] []))
                refine own_st (fun _ kS => XS.iconst X0.here hx rfl (hb hby own_d49_42) kS) ?_
                show OFin p e below s _ _ _ (T0.setTop (mkF m 43 #[.val (.int q)] [(.int (1 : Int32))]))
                refine own_st (fun _ kS => XS.goto X0.here hx rfl (pc0 := 43) (pc' := 47) rfl (hb hby own_d49_43) (by decide) (by decide) kS) ?_
                show OFin p e below s _ _ _ (T0.setTop (mkF m 47 #[.val (.int q)] [(.int (1 : Int32))]))
                exact own_ret X0 hx (t := .boolean) hret hlk rfl (Or.inl ⟨rfl, by simp, _, rfl⟩) (hb hby own_d49_47) (by decide) (by decide) ⟨rfl, e0, rfl⟩
              · refine own_st (fun _ kS => XS.icmpYes X0.here hx rfl (pc0 := 39) (pc' := 46) rfl (hb hby own_d49_39) rfl (feq c7).2 (by decide) (by decide) kS) ?_
                show OFin p e below s _ _ _ (T0.setTop (mkF m 46 #[.val (.int q)] []))
                refine own_st (fun _ kS => XS.iconst X0.here hx rfl (hb hby own_d49_46) kS) ?_
                show OFin p e below s _ _ _ (T0.setTop (mkF m 47 #[.val (.int q)] [(.int (0 : Int32))]))
                exfalso; rcases hq with ⟨g1, g2⟩ | ⟨g1, g2⟩ | ⟨g1, g2⟩ | g1 <;> contradiction
            · refine own_st (fun _ kS => XS.icmpYes X0.here hx rfl (pc0 := 33) (pc' := 42) rfl (hb hby own_d49_33) rfl (flt c6).2.2.2 (by decide) (by decide) kS) ?_
              show OFin p e below s _ _ _ (T0.setTop (mkF m 42 #[.val (.int q)] []))
              refine own_st (fun _ kS => XS.iconst X0.here hx rfl (hb hby own_d49_42) kS) ?_
              show OFin p e below s _ _ _ (T0.setTop (mkF m 43 #[.val (.int q)] [(.int (1 : Int32))]))
              refine own_st (fun _ kS => XS.goto X0.here hx rfl (pc0 := 43) (pc' := 47) rfl (hb hby own_d49_43) (by decide) (by decide) kS) ?_
              show OFin p e below s _ _ _ (T0.setTop (mkF m 47 #[.val (.int q)] [(.int (1 : Int32))]))
              exact own_ret X0 hx (t := .boolean) hret hlk rfl (Or.inl ⟨rfl, by simp, _, rfl⟩) (hb hby own_d49_47) (by decide) (by decide) ⟨rfl, e0, rfl⟩
        · refine own_st (fun _ kS => XS.icmpYes X0.here hx rfl (pc0 := 21) (pc' := 42) rfl (hb hby own_d49_21) rfl (flt c4).2.2.2 (by decide) (by decide) kS) ?_
          show OFin p e below s _ _ _ (T0.setTop (mkF m 42 #[.val (.int q)] []))
          refine own_st (fun _ kS => XS.iconst X0.here hx rfl (hb hby own_d49_42) kS) ?_
          show OFin p e below s _ _ _ (T0.setTop (mkF m 43 #[.val (.int q)] [(.int (1 : Int32))]))
          refine own_st (fun _ kS => XS.goto X0.here hx rfl (pc0 := 43) (pc' := 47) rfl (hb hby own_d49_43) (by decide) (by decide) kS) ?_
          show OFin p e below s _ _ _ (T0.setTop (mkF m 47 #[.val (.int q)] [(.int (1 : Int32))]))
          exact own_ret X0 hx (t := .boolean) hret hlk rfl (Or.inl ⟨rfl, by simp, _, rfl⟩) (hb hby own_d49_47) (by decide) (by decide) ⟨rfl, e0, rfl⟩
    · refine own_st (fun _ kS => XS.icmpYes X0.here hx rfl (pc0 := 9) (pc' := 42) rfl (hb hby own_d49_9) rfl (flt c2).2.2.2 (by decide) (by decide) kS) ?_
      show OFin p e below s _ _ _ (T0.setTop (mkF m 42 #[.val (.int q)] []))
      refine own_st (fun _ kS => XS.iconst X0.here hx rfl (hb hby own_d49_42) kS) ?_
      show OFin p e below s _ _ _ (T0.setTop (mkF m 43 #[.val (.int q)] [(.int (1 : Int32))]))
      refine own_st (fun _ kS => XS.goto X0.here hx rfl (pc0 := 43) (pc' := 47) rfl (hb hby own_d49_43) (by decide) (by decide) kS) ?_
      show OFin p e below s _ _ _ (T0.setTop (mkF m 47 #[.val (.int q)] [(.int (1 : Int32))]))
      exact own_ret X0 hx (t := .boolean) hret hlk rfl (Or.inl ⟨rfl, by simp, _, rfl⟩) (hb hby own_d49_47) (by decide) (by decide) ⟨rfl, e0, rfl⟩
set_option maxRecDepth 65536 in
set_option maxHeartbeats 40000000 in
theorem rmRe (l : Launch) (Z : State) (a0 : Array Value) (hw : ∀ d ∈ tables_1, d.before a0 Z = true) (p1 : Int32) (h0 : Heap)  :
    OMet l Z (⟨"com/example/unify_trace/unifytrace/program/TypeBasePinLaw", "rest", "(I)C"⟩ : MethodName) method_2_code 2 (some .char) (⟨0, 0, 0, 0⟩ : Room) #[(.int p1)] h0 (fun v h L => ∃ r, v = some (.int r) ∧ own_ok r ∧ h = h0 ∧ L = []) := by
  refine own_enter own_pn48 ?_
  intro p e s m below meth c T0 X0 hC e0
  obtain ⟨hx, hZ, hby, hml, hown, hret, hlk, hnm⟩ := hC
  have hown : s.vm.findClass "com/example/unify_trace/unifytrace/program/TypeBasePinLaw" = some m.cls := hown
  refine own_at (own_ef48_I m p1) ?_
  show OFin p e below s _ _ _ (T0.setTop (mkF m 0 #[.val (.int p1), .unset] []))
  refine own_st (fun _ kS => XS.iloadN X0.here hx rfl (hb hby own_d48_0) rfl kS) ?_
  show OFin p e below s _ _ _ (T0.setTop (mkF m 1 #[.val (.int p1), .unset] [(.int p1)]))
  refine own_st (X0.ldcInt hx hown (mvT hZ (own_w hw 0 rfl)) (g := (mkF m 1 #[.val (.int p1), .unset] [(.int p1)])) rfl (hb hby own_d48_1)) ?_
  show OFin p e below s _ _ _ (T0.setTop (mkF m 3 #[.val (.int p1), .unset] [(.int (2147483647 : Int32)), (.int p1)]))
  refine own_st (fun _ kS => XS.iand X0.here hx rfl (hb hby own_d48_3) rfl kS) ?_
  show OFin p e below s _ _ _ (T0.setTop (mkF m 4 #[.val (.int p1), .unset] [(.int (p1 &&& (2147483647 : Int32)))]))
  refine own_st (fun _ kS => XS.bipush X0.here hx rfl (hb hby own_d48_4) kS) ?_
  show OFin p e below s _ _ _ (T0.setTop (mkF m 6 #[.val (.int p1), .unset] [(.int (63 : Int32)), (.int (p1 &&& (2147483647 : Int32)))]))
  refine own_st (fun _ kS => iremM (g := (mkF m 6 #[.val (.int p1), .unset] [(.int (63 : Int32)), (.int (p1 &&& (2147483647 : Int32)))])) X0 hx rfl (hb hby own_d48_6) rfl (by decide) kS) ?_
  show OFin p e below s _ _ _ (T0.setTop (mkF m 7 #[.val (.int p1), .unset] [(.int ((p1 &&& (2147483647 : Int32)) % (63 : Int32)))]))
  refine own_st (fun _ kS => XS.istoreN X0.here hx rfl (hb hby own_d48_7) rfl (l' := #[.val (.int p1), .val (.int ((p1 &&& (2147483647 : Int32)) % (63 : Int32)))]) rfl kS) ?_
  show OFin p e below s _ _ _ (T0.setTop (mkF m 8 #[.val (.int p1), .val (.int ((p1 &&& (2147483647 : Int32)) % (63 : Int32)))] []))
  have hr := own_mod p1 63 (by decide)
  rw [show (63 : Int32).toInt = 63 from rfl] at hr
  generalize ((p1 &&& (2147483647 : Int32)) % (63 : Int32)) = r at hr ⊢
  show OFin p e below s _ _ _ (T0.setTop (mkF m 8 #[.val (.int p1), .val (.int r)] []))
  refine own_st (fun _ kS => XS.iloadN X0.here hx rfl (hb hby own_d48_8) rfl kS) ?_
  show OFin p e below s _ _ _ (T0.setTop (mkF m 9 #[.val (.int p1), .val (.int r)] [(.int r)]))
  refine own_st (fun _ kS => XS.bipush X0.here hx rfl (hb hby own_d48_9) kS) ?_
  show OFin p e below s _ _ _ (T0.setTop (mkF m 11 #[.val (.int p1), .val (.int r)] [(.int (26 : Int32)), (.int r)]))
  by_cases c1 : r < (26 : Int32)
  · refine own_st (fun _ kS => XS.icmpNo X0.here hx rfl (hb hby own_d48_11) rfl (tlt c1).2.1 kS) ?_
    show OFin p e below s _ _ _ (T0.setTop (mkF m 14 #[.val (.int p1), .val (.int r)] []))
    refine own_st (fun _ kS => XS.bipush X0.here hx rfl (hb hby own_d48_14) kS) ?_
    show OFin p e below s _ _ _ (T0.setTop (mkF m 16 #[.val (.int p1), .val (.int r)] [(.int (97 : Int32))]))
    refine own_st (fun _ kS => XS.iloadN X0.here hx rfl (hb hby own_d48_16) rfl kS) ?_
    show OFin p e below s _ _ _ (T0.setTop (mkF m 17 #[.val (.int p1), .val (.int r)] [(.int r), (.int (97 : Int32))]))
    refine own_st (fun _ kS => XS.iadd X0.here hx rfl (hb hby own_d48_17) rfl kS) ?_
    show OFin p e below s _ _ _ (T0.setTop (mkF m 18 #[.val (.int p1), .val (.int r)] [(.int ((97 : Int32) + r))]))
    refine own_st (fun _ kS => XS.i2c X0.here hx rfl (hb hby own_d48_18) rfl kS) ?_
    show OFin p e below s _ _ _ (T0.setTop (mkF m 19 #[.val (.int p1), .val (.int r)] [(.int (((97 : Int32) + r).toUInt32.toUInt16.toUInt32.toInt32))]))
    rw [own_lt] at c1
    have e26 : (26 : Int32).toInt = 26 := rfl; have e52 : (52 : Int32).toInt = 52 := rfl; have e62 : (62 : Int32).toInt = 62 := rfl; have e97 : (97 : Int32).toInt = 97 := rfl; have e65 : (65 : Int32).toInt = 65 := rfl; have e48 : (48 : Int32).toInt = 48 := rfl
    have ee := own_sh0 (r := r) 97 hr.1 hr.2 (by decide)
    exact own_ret X0 hx (t := .char) hret hlk (own_nwc _) (Or.inl ⟨rfl, by simp, _, rfl⟩) (hb hby own_d48_19) (by decide) (by decide) ⟨_, rfl, own_okU (Or.inl ⟨by omega, by omega⟩), e0, rfl⟩
  · refine own_st (fun _ kS => XS.icmpYes X0.here hx rfl (pc0 := 11) (pc' := 20) rfl (hb hby own_d48_11) rfl (flt c1).2.1 (by decide) (by decide) kS) ?_
    show OFin p e below s _ _ _ (T0.setTop (mkF m 20 #[.val (.int p1), .val (.int r)] []))
    refine own_st (fun _ kS => XS.iloadN X0.here hx rfl (hb hby own_d48_20) rfl kS) ?_
    show OFin p e below s _ _ _ (T0.setTop (mkF m 21 #[.val (.int p1), .val (.int r)] [(.int r)]))
    refine own_st (fun _ kS => XS.bipush X0.here hx rfl (hb hby own_d48_21) kS) ?_
    show OFin p e below s _ _ _ (T0.setTop (mkF m 23 #[.val (.int p1), .val (.int r)] [(.int (52 : Int32)), (.int r)]))
    by_cases c2 : r < (52 : Int32)
    · refine own_st (fun _ kS => XS.icmpNo X0.here hx rfl (hb hby own_d48_23) rfl (tlt c2).2.1 kS) ?_
      show OFin p e below s _ _ _ (T0.setTop (mkF m 26 #[.val (.int p1), .val (.int r)] []))
      refine own_st (fun _ kS => XS.bipush X0.here hx rfl (hb hby own_d48_26) kS) ?_
      show OFin p e below s _ _ _ (T0.setTop (mkF m 28 #[.val (.int p1), .val (.int r)] [(.int (65 : Int32))]))
      refine own_st (fun _ kS => XS.iloadN X0.here hx rfl (hb hby own_d48_28) rfl kS) ?_
      show OFin p e below s _ _ _ (T0.setTop (mkF m 29 #[.val (.int p1), .val (.int r)] [(.int r), (.int (65 : Int32))]))
      refine own_st (fun _ kS => XS.bipush X0.here hx rfl (hb hby own_d48_29) kS) ?_
      show OFin p e below s _ _ _ (T0.setTop (mkF m 31 #[.val (.int p1), .val (.int r)] [(.int (26 : Int32)), (.int r), (.int (65 : Int32))]))
      refine own_st (fun _ kS => XS.isub X0.here hx rfl (hb hby own_d48_31) rfl kS) ?_
      show OFin p e below s _ _ _ (T0.setTop (mkF m 32 #[.val (.int p1), .val (.int r)] [(.int (r - (26 : Int32))), (.int (65 : Int32))]))
      refine own_st (fun _ kS => XS.iadd X0.here hx rfl (hb hby own_d48_32) rfl kS) ?_
      show OFin p e below s _ _ _ (T0.setTop (mkF m 33 #[.val (.int p1), .val (.int r)] [(.int ((65 : Int32) + (r - (26 : Int32))))]))
      refine own_st (fun _ kS => XS.i2c X0.here hx rfl (hb hby own_d48_33) rfl kS) ?_
      show OFin p e below s _ _ _ (T0.setTop (mkF m 34 #[.val (.int p1), .val (.int r)] [(.int (((65 : Int32) + (r - (26 : Int32))).toUInt32.toUInt16.toUInt32.toInt32))]))
      rw [own_lt] at c1 c2
      have e26 : (26 : Int32).toInt = 26 := rfl; have e52 : (52 : Int32).toInt = 52 := rfl; have e62 : (62 : Int32).toInt = 62 := rfl; have e97 : (97 : Int32).toInt = 97 := rfl; have e65 : (65 : Int32).toInt = 65 := rfl; have e48 : (48 : Int32).toInt = 48 := rfl
      have ee := own_sh (r := r) 65 26 (by omega) hr.2 (by decide) (by decide)
      exact own_ret X0 hx (t := .char) hret hlk (own_nwc _) (Or.inl ⟨rfl, by simp, _, rfl⟩) (hb hby own_d48_34) (by decide) (by decide) ⟨_, rfl, own_okU (Or.inr (Or.inl ⟨by omega, by omega⟩)), e0, rfl⟩
    · refine own_st (fun _ kS => XS.icmpYes X0.here hx rfl (pc0 := 23) (pc' := 35) rfl (hb hby own_d48_23) rfl (flt c2).2.1 (by decide) (by decide) kS) ?_
      show OFin p e below s _ _ _ (T0.setTop (mkF m 35 #[.val (.int p1), .val (.int r)] []))
      refine own_st (fun _ kS => XS.iloadN X0.here hx rfl (hb hby own_d48_35) rfl kS) ?_
      show OFin p e below s _ _ _ (T0.setTop (mkF m 36 #[.val (.int p1), .val (.int r)] [(.int r)]))
      refine own_st (fun _ kS => XS.bipush X0.here hx rfl (hb hby own_d48_36) kS) ?_
      show OFin p e below s _ _ _ (T0.setTop (mkF m 38 #[.val (.int p1), .val (.int r)] [(.int (62 : Int32)), (.int r)]))
      by_cases c3 : r < (62 : Int32)
      · refine own_st (fun _ kS => XS.icmpNo X0.here hx rfl (hb hby own_d48_38) rfl (tlt c3).2.1 kS) ?_
        show OFin p e below s _ _ _ (T0.setTop (mkF m 41 #[.val (.int p1), .val (.int r)] []))
        refine own_st (fun _ kS => XS.bipush X0.here hx rfl (hb hby own_d48_41) kS) ?_
        show OFin p e below s _ _ _ (T0.setTop (mkF m 43 #[.val (.int p1), .val (.int r)] [(.int (48 : Int32))]))
        refine own_st (fun _ kS => XS.iloadN X0.here hx rfl (hb hby own_d48_43) rfl kS) ?_
        show OFin p e below s _ _ _ (T0.setTop (mkF m 44 #[.val (.int p1), .val (.int r)] [(.int r), (.int (48 : Int32))]))
        refine own_st (fun _ kS => XS.bipush X0.here hx rfl (hb hby own_d48_44) kS) ?_
        show OFin p e below s _ _ _ (T0.setTop (mkF m 46 #[.val (.int p1), .val (.int r)] [(.int (52 : Int32)), (.int r), (.int (48 : Int32))]))
        refine own_st (fun _ kS => XS.isub X0.here hx rfl (hb hby own_d48_46) rfl kS) ?_
        show OFin p e below s _ _ _ (T0.setTop (mkF m 47 #[.val (.int p1), .val (.int r)] [(.int (r - (52 : Int32))), (.int (48 : Int32))]))
        refine own_st (fun _ kS => XS.iadd X0.here hx rfl (hb hby own_d48_47) rfl kS) ?_
        show OFin p e below s _ _ _ (T0.setTop (mkF m 48 #[.val (.int p1), .val (.int r)] [(.int ((48 : Int32) + (r - (52 : Int32))))]))
        refine own_st (fun _ kS => XS.i2c X0.here hx rfl (hb hby own_d48_48) rfl kS) ?_
        show OFin p e below s _ _ _ (T0.setTop (mkF m 49 #[.val (.int p1), .val (.int r)] [(.int (((48 : Int32) + (r - (52 : Int32))).toUInt32.toUInt16.toUInt32.toInt32))]))
        rw [own_lt] at c1 c2 c3
        have e26 : (26 : Int32).toInt = 26 := rfl; have e52 : (52 : Int32).toInt = 52 := rfl; have e62 : (62 : Int32).toInt = 62 := rfl; have e97 : (97 : Int32).toInt = 97 := rfl; have e65 : (65 : Int32).toInt = 65 := rfl; have e48 : (48 : Int32).toInt = 48 := rfl
        have ee := own_sh (r := r) 48 52 (by omega) hr.2 (by decide) (by decide)
        exact own_ret X0 hx (t := .char) hret hlk (own_nwc _) (Or.inl ⟨rfl, by simp, _, rfl⟩) (hb hby own_d48_49) (by decide) (by decide) ⟨_, rfl, own_okU (Or.inr (Or.inr (Or.inl ⟨by omega, by omega⟩))), e0, rfl⟩
      · refine own_st (fun _ kS => XS.icmpYes X0.here hx rfl (pc0 := 38) (pc' := 50) rfl (hb hby own_d48_38) rfl (flt c3).2.1 (by decide) (by decide) kS) ?_
        show OFin p e below s _ _ _ (T0.setTop (mkF m 50 #[.val (.int p1), .val (.int r)] []))
        refine own_st (fun _ kS => XS.bipush X0.here hx rfl (hb hby own_d48_50) kS) ?_
        show OFin p e below s _ _ _ (T0.setTop (mkF m 52 #[.val (.int p1), .val (.int r)] [(.int (95 : Int32))]))
        rw [own_lt] at c1 c2 c3
        have e26 : (26 : Int32).toInt = 26 := rfl; have e52 : (52 : Int32).toInt = 52 := rfl; have e62 : (62 : Int32).toInt = 62 := rfl; have e97 : (97 : Int32).toInt = 97 := rfl; have e65 : (65 : Int32).toInt = 65 := rfl; have e48 : (48 : Int32).toInt = 48 := rfl
        exact own_ret X0 hx (t := .char) hret hlk rfl (Or.inl ⟨rfl, by simp, _, rfl⟩) (hb hby own_d48_52) (by decide) (by decide) ⟨_, rfl, own_okI (Or.inr (Or.inr (Or.inr rfl))), e0, rfl⟩
set_option maxRecDepth 65536 in
set_option maxHeartbeats 40000000 in
theorem lpN {l : Launch} {Z : State} {a0 : Array Value} (hw : ∀ d ∈ tables_1, d.before a0 Z = true) {p : Program} {e : Env} {s : State} {m : MethodId} {args : Array Value} {below : List Frame} {meth : Method} {c : Code} (hC : OCtx Z p s m meth c "com/example/unify_trace/unifytrace/term/Term" "isNameRest" prog_27_method_7_code 3 (some .boolean)) {Q : Option Value → Heap → List Loc → Prop} (x : Addr) (q : Int32) (cs : List Int32) (z : Int32) (fm : Value) (n0 : Nat) (hI : Heap) (O1 : OStr Z hI x cs) (hn : own_name cs) (S_c : Sta Z Z.heap "java/lang/String" "COMPACT_STRINGS" "Z" (.int z)) (hz : ¬ z = 0) (S_f : Sta Z Z.heap "jdk/internal/util/Preconditions" "SIOOBE_FORMATTER" "Ljava/util/function/BiFunction;" fm) (rf : fm.isRef = true) (O : Old Z n0 hI) :
    ∀ (n : Nat) {T0 : State} {locs : List Loc} {cells slots : Nat} (X0 : Stand p l e (⟨4, 0, 0, 53⟩ : Room) s m args below meth c T0 locs cells slots) {h0 : Heap} (e0 : T0.heap = h0) (i : Int32) (inn : Nat) (hi : i = Int32.ofNat inn) (hend : cs.length = inn + n) (h1 : 1 ≤ inn) (hh : h0 = hI) (hcs : cells ≤ 0) (hss : slots ≤ 0) (hL : locs = []) (hQ : Q (some (.int (1 : Int32))) hI []), OFin p e below s 0 0 Q (T0.setTop (mkF m 2 #[.val (.ref x), .val (.int q), .val (.int i)] [])) := by
  have hC0 := hC
  obtain ⟨hx, hZ, hby, hml, hown, hret, hlk, hnm⟩ := hC
  intro n
  induction n with
  | zero =>
    intro T0 locs cells slots X0 h0 e0 i inn hi hend h1 hh hcs hss hL hQ
    show OFin p e below s _ _ _ (T0.setTop (mkF m 2 #[.val (.ref x), .val (.int q), .val (.int i)] []))
    subst hh hL hi
    have hl4 := hn.2.1
    obtain ⟨E1, C1, t1, k1, M1, v1, V1, A1, D1⟩ := O1
    have hle : ∀ d ∈ StrChars.Road.wordsLen, d.before a0 Z = true := fun d hd => hw d ((by decide +kernel : ∀ d ∈ StrChars.Road.wordsLen, d ∈ tables_1) d hd)
    have hch : ∀ d ∈ StrChars.Road.wordsChN, d.before a0 Z = true := fun d hd => hw d ((by decide +kernel : ∀ d ∈ StrChars.Road.wordsChN, d ∈ tables_1) d hd)
    show OFin p e below s _ _ _ (T0.setTop (mkF m 2 #[.val (.ref x), .val (.int q), .val (.int (Int32.ofNat inn))] []))
    refine own_st (fun _ kS => XS.iloadN X0.here hx rfl (hb hby own_d41_2) rfl kS) ?_
    show OFin p e below s _ _ _ (T0.setTop (mkF m 3 #[.val (.ref x), .val (.int q), .val (.int (Int32.ofNat inn))] [(.int (Int32.ofNat inn))]))
    refine own_st (fun _ kS => XS.aloadN X0.here hx rfl (hb hby own_d41_3) rfl rfl kS) ?_
    show OFin p e below s _ _ _ (T0.setTop (mkF m 4 #[.val (.ref x), .val (.int q), .val (.int (Int32.ofNat inn))] [(.ref x), (.int (Int32.ofNat inn))]))
    obtain ⟨v1, T1, L1, X1, hQ1, st1⟩ := own_virtualB (fun v h' L => v = some (.int (Int32.ofNat cs.length)) ∧ L = [] ∧ h' = h0) 0 0 X0 hx hZ (y := (⟨"java/lang/String", "length", "()I"⟩ : MethodName)) (z := (⟨"java/lang/String", "length", "()I"⟩ : MethodName)) (W := 1) (a := x) (argsL := []) (rest := [(.int (Int32.ofNat inn))]) hown (own_w hw 254 rfl) (own_w hw 255 rfl) (notFace_of_selects (args := #[]) (mvT hZ (own_w hw 257 rfl))) (own_w hw 257 rfl) (own_w hw 256 rfl) (StrChars.Road.lenW (W := 1) hZ hle (kI := 4) (own_w hw 3 rfl) E1 V1 C1 A1 D1 (own_up hn.2.2.2.2) (Sta.ext O.2 S_c) hz (by have := hn.2.1; omega) (by decide) (by decide)) e0 E1 (g := (mkF m 4 #[.val (.ref x), .val (.int q), .val (.int (Int32.ofNat inn))] [(.ref x), (.int (Int32.ofNat inn))])) rfl (by rw [hml]; rfl) (lenOf own_pd0 rfl) rfl (by show 2 * 0 + _ ≤ _; exact Nat.le_of_eq rfl) (hb hby own_d41_4) (Nat.le_trans hcs (by decide)) (Nat.le_trans hss (by decide))
    obtain ⟨rfl, rfl, e1⟩ := hQ1
    rw [List.append_nil] at X1
    refine own_st (st1) ?_
    clear st1 X0 e0
    show OFin p e below s _ _ _ (T1.setTop (mkF m 7 #[.val (.ref x), .val (.int q), .val (.int (Int32.ofNat inn))] [(.int (Int32.ofNat cs.length)), (.int (Int32.ofNat inn))]))
    have c1 : ¬ Int32.ofNat inn < Int32.ofNat cs.length := by rw [own_lt, own_tn (by omega), own_tn (by omega)]; omega
    refine own_st (fun _ kS => XS.icmpYes X1.here hx rfl (pc0 := 7) (pc' := 29) rfl (hb hby own_d41_7) rfl (flt c1).2.1 (by decide) (by decide) kS) ?_
    show OFin p e below s _ _ _ (T1.setTop (mkF m 29 #[.val (.ref x), .val (.int q), .val (.int (Int32.ofNat inn))] []))
    refine own_st (fun _ kS => XS.iconst X1.here hx rfl (hb hby own_d41_29) kS) ?_
    show OFin p e below s _ _ _ (T1.setTop (mkF m 30 #[.val (.ref x), .val (.int q), .val (.int (Int32.ofNat inn))] [(.int (1 : Int32))]))
    exact own_ret X1 hx (t := .boolean) hret hlk rfl (Or.inl ⟨rfl, by simp, _, rfl⟩) (hb hby own_d41_30) hcs hss (by rw [e1]; exact hQ)
  | succ n ih =>
    intro T0 locs cells slots X0 h0 e0 i inn hi hend h1 hh hcs hss hL hQ
    show OFin p e below s _ _ _ (T0.setTop (mkF m 2 #[.val (.ref x), .val (.int q), .val (.int i)] []))
    subst hh hL hi
    have hl4 := hn.2.1
    obtain ⟨E1, C1, t1, k1, M1, v1, V1, A1, D1⟩ := O1
    have hle : ∀ d ∈ StrChars.Road.wordsLen, d.before a0 Z = true := fun d hd => hw d ((by decide +kernel : ∀ d ∈ StrChars.Road.wordsLen, d ∈ tables_1) d hd)
    have hch : ∀ d ∈ StrChars.Road.wordsChN, d.before a0 Z = true := fun d hd => hw d ((by decide +kernel : ∀ d ∈ StrChars.Road.wordsChN, d ∈ tables_1) d hd)
    show OFin p e below s _ _ _ (T0.setTop (mkF m 2 #[.val (.ref x), .val (.int q), .val (.int (Int32.ofNat inn))] []))
    refine own_st (fun _ kS => XS.iloadN X0.here hx rfl (hb hby own_d41_2) rfl kS) ?_
    show OFin p e below s _ _ _ (T0.setTop (mkF m 3 #[.val (.ref x), .val (.int q), .val (.int (Int32.ofNat inn))] [(.int (Int32.ofNat inn))]))
    refine own_st (fun _ kS => XS.aloadN X0.here hx rfl (hb hby own_d41_3) rfl rfl kS) ?_
    show OFin p e below s _ _ _ (T0.setTop (mkF m 4 #[.val (.ref x), .val (.int q), .val (.int (Int32.ofNat inn))] [(.ref x), (.int (Int32.ofNat inn))]))
    obtain ⟨v2, T2, L2, X2, hQ2, st2⟩ := own_virtualB (fun v h' L => v = some (.int (Int32.ofNat cs.length)) ∧ L = [] ∧ h' = h0) 0 0 X0 hx hZ (y := (⟨"java/lang/String", "length", "()I"⟩ : MethodName)) (z := (⟨"java/lang/String", "length", "()I"⟩ : MethodName)) (W := 1) (a := x) (argsL := []) (rest := [(.int (Int32.ofNat inn))]) hown (own_w hw 254 rfl) (own_w hw 255 rfl) (notFace_of_selects (args := #[]) (mvT hZ (own_w hw 257 rfl))) (own_w hw 257 rfl) (own_w hw 256 rfl) (StrChars.Road.lenW (W := 1) hZ hle (kI := 4) (own_w hw 3 rfl) E1 V1 C1 A1 D1 (own_up hn.2.2.2.2) (Sta.ext O.2 S_c) hz (by have := hn.2.1; omega) (by decide) (by decide)) e0 E1 (g := (mkF m 4 #[.val (.ref x), .val (.int q), .val (.int (Int32.ofNat inn))] [(.ref x), (.int (Int32.ofNat inn))])) rfl (by rw [hml]; rfl) (lenOf own_pd0 rfl) rfl (by show 2 * 0 + _ ≤ _; exact Nat.le_of_eq rfl) (hb hby own_d41_4) (Nat.le_trans hcs (by decide)) (Nat.le_trans hss (by decide))
    obtain ⟨rfl, rfl, e2⟩ := hQ2
    rw [List.append_nil] at X2
    refine own_st (st2) ?_
    clear st2 X0 e0
    show OFin p e below s _ _ _ (T2.setTop (mkF m 7 #[.val (.ref x), .val (.int q), .val (.int (Int32.ofNat inn))] [(.int (Int32.ofNat cs.length)), (.int (Int32.ofNat inn))]))
    have c1 : Int32.ofNat inn < Int32.ofNat cs.length := by rw [own_lt, own_tn (by omega), own_tn (by omega)]; omega
    refine own_st (fun _ kS => XS.icmpNo X2.here hx rfl (hb hby own_d41_7) rfl (tlt c1).2.1 kS) ?_
    show OFin p e below s _ _ _ (T2.setTop (mkF m 10 #[.val (.ref x), .val (.int q), .val (.int (Int32.ofNat inn))] []))
    refine own_st (fun _ kS => XS.aloadN X2.here hx rfl (hb hby own_d41_10) rfl rfl kS) ?_
    show OFin p e below s _ _ _ (T2.setTop (mkF m 11 #[.val (.ref x), .val (.int q), .val (.int (Int32.ofNat inn))] [(.ref x)]))
    refine own_st (fun _ kS => XS.iloadN X2.here hx rfl (hb hby own_d41_11) rfl kS) ?_
    show OFin p e below s _ _ _ (T2.setTop (mkF m 12 #[.val (.ref x), .val (.int q), .val (.int (Int32.ofNat inn))] [(.int (Int32.ofNat inn)), (.ref x)]))
    obtain ⟨v3, T3, L3, X3, hQ3, st3⟩ := own_virtualB (fun v h' L => v = some (.int (cs.getD inn 0)) ∧ L = [] ∧ h' = h0) 0 0 X2 hx hZ (y := (⟨"java/lang/String", "charAt", "(I)C"⟩ : MethodName)) (z := (⟨"java/lang/String", "charAt", "(I)C"⟩ : MethodName)) (W := 0) (a := x) (argsL := [(.int (Int32.ofNat inn))]) (rest := []) hown (own_w hw 305 rfl) (own_w hw 231 rfl) (notFace_of_selects (args := #[]) (mvT hZ (own_w hw 233 rfl))) (own_w hw 233 rfl) (own_w hw 232 rfl) (StrChars.Road.chN (W := 0) hZ hch (kI := 4) (own_w hw 3 rfl) E1 V1 C1 A1 D1 (own_up hn.2.2.2.2) (Sta.ext O.2 S_c) hz (Sta.ext O.2 S_f) rf (by have := hn.2.1; omega) (i := inn) (by omega) (j := (Int32.ofNat inn)) rfl (by decide) (by decide)) e2 E1 (g := (mkF m 12 #[.val (.ref x), .val (.int q), .val (.int (Int32.ofNat inn))] [(.int (Int32.ofNat inn)), (.ref x)])) rfl (by rw [hml]; rfl) (lenOf own_pd1 rfl) rfl (by show 2 * 0 + _ ≤ _; exact Nat.le_of_eq rfl) (hb hby own_d41_12) (Nat.le_trans hcs (by decide)) (Nat.le_trans hss (by decide))
    obtain ⟨rfl, rfl, e3⟩ := hQ3
    rw [List.append_nil] at X3
    refine own_st (st3) ?_
    clear st3 X2 e2
    show OFin p e below s _ _ _ (T3.setTop (mkF m 15 #[.val (.ref x), .val (.int q), .val (.int (Int32.ofNat inn))] [(.int (cs.getD inn 0))]))
    obtain ⟨v4, T4, L4, X4, hQ4, st4⟩ := own_static X3 hx hZ (y := (⟨"com/example/unify_trace/unifytrace/term/Term", "isNameCharacter", "(C)Z"⟩ : MethodName)) (rm := ⟨0, 0, 0, 0⟩) (W := 0) (argsL := [(.int (cs.getD inn 0))]) (rest := []) hown (own_w hw 306 rfl) (own_w hw 307 rfl) (own_w hw 252 rfl) (own_w hw 308 rfl) (rmNm l Z a0 hw _ h0 (hn.2.2.2.1 inn h1 (by omega))) e3 (g := (mkF m 15 #[.val (.ref x), .val (.int q), .val (.int (Int32.ofNat inn))] [(.int (cs.getD inn 0))])) rfl (by rw [hml]; rfl) (lenOf own_pd2 rfl) rfl (by show 2 * 0 + _ ≤ _; exact Nat.le_of_eq rfl) (hb hby own_d41_15) (by decide) (by decide) (Nat.le_trans hcs (by decide)) (Nat.le_trans hss (by decide))
    obtain ⟨rfl, e4, rfl⟩ := hQ4
    rw [List.append_nil] at X4
    refine own_st (st4) ?_
    clear st4 X3 e3
    show OFin p e below s _ _ _ (T4.setTop (mkF m 18 #[.val (.ref x), .val (.int q), .val (.int (Int32.ofNat inn))] [(.int (1 : Int32))]))
    refine own_st (fun _ kS => XS.ifYes X4.here hx rfl (pc0 := 18) (pc' := 23) rfl (hb hby own_d41_18) rfl ((if0 _ _).trans (feq (by decide)).2) (by decide) (by decide) kS) ?_
    show OFin p e below s _ _ _ (T4.setTop (mkF m 23 #[.val (.ref x), .val (.int q), .val (.int (Int32.ofNat inn))] []))
    refine own_st (fun _ kS => XS.iinc X4.here hx rfl (hb hby own_d41_23) rfl (l' := #[.val (.ref x), .val (.int q), .val (.int ((Int32.ofNat inn) + (1 : Int32)))]) rfl kS) ?_
    show OFin p e below s _ _ _ (T4.setTop (mkF m 26 #[.val (.ref x), .val (.int q), .val (.int ((Int32.ofNat inn) + (1 : Int32)))] []))
    refine own_st (fun _ kS => XS.goto X4.here hx rfl (pc0 := 26) (pc' := 2) rfl (hb hby own_d41_26) (by decide) (by decide) kS) ?_
    show OFin p e below s _ _ _ (T4.setTop (mkF m 2 #[.val (.ref x), .val (.int q), .val (.int ((Int32.ofNat inn) + (1 : Int32)))] []))
    exact ih X4 e4 _ (inn + 1) (own_inc inn) (by omega) (by omega) rfl hcs hss rfl hQ
set_option maxRecDepth 65536 in
set_option maxHeartbeats 40000000 in
theorem rmNR (l : Launch) (Z : State) (a0 : Array Value) (hw : ∀ d ∈ tables_1, d.before a0 Z = true) (x : Addr) (q : Int32) (h0 : Heap) (cs : List Int32) (z : Int32) (fm : Value) (n0 : Nat) (O1 : OStr Z h0 x cs) (hn : own_name cs) (S_c : Sta Z Z.heap "java/lang/String" "COMPACT_STRINGS" "Z" (.int z)) (hz : ¬ z = 0) (S_f : Sta Z Z.heap "jdk/internal/util/Preconditions" "SIOOBE_FORMATTER" "Ljava/util/function/BiFunction;" fm) (rf : fm.isRef = true) (O : Old Z n0 h0) (hq : q = 1) :
    OMet l Z (⟨"com/example/unify_trace/unifytrace/term/Term", "isNameRest", "(Ljava/lang/String;I)Z"⟩ : MethodName) prog_27_method_7_code 3 (some .boolean) (⟨4, 0, 0, 53⟩ : Room) #[(.ref x), (.int q)] h0 (fun v h L => v = some (.int (1 : Int32)) ∧ h = h0 ∧ L = []) := by
  refine own_enter own_pn41 ?_
  intro p e s m below meth c T0 X0 hC e0
  obtain ⟨hx, hZ, hby, hml, hown, hret, hlk, hnm⟩ := hC
  have hown : s.vm.findClass "com/example/unify_trace/unifytrace/term/Term" = some m.cls := hown
  refine own_at (own_ef41_RI m x q) ?_
  show OFin p e below s _ _ _ (T0.setTop (mkF m 0 #[.val (.ref x), .val (.int q), .unset] []))
  have hC0 : OCtx Z p s m meth c "com/example/unify_trace/unifytrace/term/Term" "isNameRest" prog_27_method_7_code 3 (some .boolean) := ⟨hx, hZ, hby, hml, hown, hret, hlk, hnm⟩
  refine own_st (fun _ kS => XS.iloadN X0.here hx rfl (hb hby own_d41_0) rfl kS) ?_
  show OFin p e below s _ _ _ (T0.setTop (mkF m 1 #[.val (.ref x), .val (.int q), .unset] [(.int q)]))
  refine own_st (fun _ kS => XS.istoreN X0.here hx rfl (hb hby own_d41_1) rfl (l' := #[.val (.ref x), .val (.int q), .val (.int q)]) rfl kS) ?_
  show OFin p e below s _ _ _ (T0.setTop (mkF m 2 #[.val (.ref x), .val (.int q), .val (.int q)] []))
  have hl1 := hn.1
  exact lpN hw hC0 x q cs z fm n0 h0 O1 hn S_c hz S_f rf O (cs.length - 1) X0 e0 q 1 (hq.trans rfl) (by omega) (by omega) rfl (by decide) (by decide) rfl ⟨rfl, rfl, rfl⟩
set_option maxRecDepth 65536 in
set_option maxHeartbeats 40000000 in
theorem rmRN (l : Launch) (Z : State) (a0 : Array Value) (hw : ∀ d ∈ tables_1, d.before a0 Z = true) (x : Addr) (y : Addr) (h0 : Heap)  :
    OMet l Z (⟨"java/util/Objects", "requireNonNull", "(Ljava/lang/Object;Ljava/lang/String;)Ljava/lang/Object;"⟩ : MethodName) jdk_31_method_11_code 2 (some (.object "java/lang/Object")) (⟨0, 0, 0, 0⟩ : Room) #[(.ref x), (.ref y)] h0 (fun v h L => v = some (.ref x) ∧ h = h0 ∧ L = []) := by
  refine own_enter own_pn35 ?_
  intro p e s m below meth c T0 X0 hC e0
  obtain ⟨hx, hZ, hby, hml, hown, hret, hlk, hnm⟩ := hC
  have hown : s.vm.findClass "java/util/Objects" = some m.cls := hown
  refine own_at (own_ef35_RR m x y) ?_
  show OFin p e below s _ _ _ (T0.setTop (mkF m 0 #[.val (.ref x), .val (.ref y)] []))
  refine own_st (fun _ kS => XS.aloadN X0.here hx rfl (hb hby own_d35_0) rfl rfl kS) ?_
  show OFin p e below s _ _ _ (T0.setTop (mkF m 1 #[.val (.ref x), .val (.ref y)] [(.ref x)]))
  refine own_st (fun _ kS => XS.ifnonnullYes X0.here hx rfl (pc0 := 1) (pc' := 13) rfl (hb hby own_d35_1) rfl (by decide) (by decide) kS) ?_
  show OFin p e below s _ _ _ (T0.setTop (mkF m 13 #[.val (.ref x), .val (.ref y)] []))
  refine own_st (fun _ kS => XS.aloadN X0.here hx rfl (hb hby own_d35_13) rfl rfl kS) ?_
  show OFin p e below s _ _ _ (T0.setTop (mkF m 14 #[.val (.ref x), .val (.ref y)] [(.ref x)]))
  exact own_ret X0 hx (t := (.object "java/lang/Object")) hret hlk rfl (Or.inr (Or.inr (Or.inr (Or.inr ⟨rfl, rfl, rfl⟩)))) (hb hby own_d35_14) (by decide) (by decide) ⟨rfl, e0, rfl⟩
set_option maxRecDepth 65536 in
set_option maxHeartbeats 40000000 in
theorem own_pCN {l : Launch} {Z : State} {a0 : Array Value} (hw : ∀ d ∈ tables_1, d.before a0 Z = true) {p : Program} {e : Env} {s : State} {m : MethodId} {args : Array Value} {below : List Frame} {meth : Method} {c : Code} (hC : OCtx Z p s m meth c "com/example/unify_trace/unifytrace/term/Compound" "checkName" prog_25_method_2_code 3 (some (.object "java/lang/String"))) {T0 : State} {locs : List Loc} {cells slots : Nat} (X0 : Stand p l e (⟨5, 2, 20, 67⟩ : Room) s m args below meth c T0 locs cells slots) {h0 : Heap} (e0 : T0.heap = h0) (x y : Addr) (q : Int32) (cs : List Int32) (z : Int32) (fm : Value) (n0 : Nat) (O1 : OStr Z h0 x cs) (hn : own_name cs) (S_c : Sta Z Z.heap "java/lang/String" "COMPACT_STRINGS" "Z" (.int z)) (hz : ¬ z = 0) (S_f : Sta Z Z.heap "jdk/internal/util/Preconditions" "SIOOBE_FORMATTER" "Ljava/util/function/BiFunction;" fm) (rf : fm.isRef = true) (O : Old Z n0 h0) (hL : locs = []) (hcs : cells = 2) (hss : slots = 20) :
    OFin p e below s (⟨5, 2, 20, 67⟩ : Room).cells (⟨5, 2, 20, 67⟩ : Room).slots (fun v h L => v = some (.ref x) ∧ h = h0 ∧ L = []) (T0.setTop (mkF m 3 #[.val (.ref x), .val (.int q), .unset] [(.ref y), (.ref x)])) := by
  have hC0 := hC
  obtain ⟨hx, hZ, hby, hml, hown, hret, hlk, hnm⟩ := hC
  subst hcs hss hL
  have O1' := O1
  have hl1 := hn.1
  obtain ⟨E1, C1, t1, k1, M1, v1, V1, A1, D1⟩ := O1
  have hch : ∀ d ∈ StrChars.Road.wordsChN, d.before a0 Z = true := fun d hd => hw d ((by decide +kernel : ∀ d ∈ StrChars.Road.wordsChN, d ∈ tables_1) d hd)
  have hem : ∀ d ∈ StrChars.Road.wordsEmp, d.before a0 Z = true := fun d hd => hw d ((by decide +kernel : ∀ d ∈ StrChars.Road.wordsEmp, d ∈ tables_1) d hd)
  obtain ⟨v5, T5, L5, X5, hQ5, st5⟩ := own_static X0 hx hZ (y := (⟨"java/util/Objects", "requireNonNull", "(Ljava/lang/Object;Ljava/lang/String;)Ljava/lang/Object;"⟩ : MethodName)) (rm := ⟨0, 0, 0, 0⟩) (W := 0) (argsL := [(.ref x), (.ref y)]) (rest := []) hown (own_w hw 222 rfl) (own_w hw 223 rfl) (own_w hw 199 rfl) (own_w hw 224 rfl) (rmRN l Z a0 hw x y h0) e0 (g := (mkF m 3 #[.val (.ref x), .val (.int q), .unset] [(.ref y), (.ref x)])) rfl (by rw [hml]; rfl) (lenOf own_pd3 rfl) rfl (by show 2 * 0 + _ ≤ _; exact Nat.le_of_eq rfl) (hb hby own_d34_3) (by decide) (by decide) (by decide) (by decide)
  obtain ⟨rfl, e5, rfl⟩ := hQ5
  rw [List.append_nil] at X5
  refine own_st (st5) ?_
  clear st5 X0 e0
  show OFin p e below s _ _ _ (T5.setTop (mkF m 6 #[.val (.ref x), .val (.int q), .unset] [(.ref x)]))
  refine own_st (fun _ kS => XS.pop X5.here hx rfl (hb hby own_d34_6) rfl rfl kS) ?_
  show OFin p e below s _ _ _ (T5.setTop (mkF m 7 #[.val (.ref x), .val (.int q), .unset] []))
  refine own_st (fun _ kS => XS.aloadN X5.here hx rfl (hb hby own_d34_7) rfl rfl kS) ?_
  show OFin p e below s _ _ _ (T5.setTop (mkF m 8 #[.val (.ref x), .val (.int q), .unset] [(.ref x)]))
  obtain ⟨v6, T6, L6, X6, hQ6, st6⟩ := own_virtualB (fun v h' L => v = some (.int (if cs.length = 0 then (1 : Int32) else 0)) ∧ L = [] ∧ h' = h0) 0 0 X5 hx hZ (y := (⟨"java/lang/String", "isEmpty", "()Z"⟩ : MethodName)) (z := (⟨"java/lang/String", "isEmpty", "()Z"⟩ : MethodName)) (W := 0) (a := x) (argsL := []) (rest := []) hown (own_w hw 225 rfl) (own_w hw 226 rfl) (notFace_of_selects (args := #[]) (mvT hZ (own_w hw 228 rfl))) (own_w hw 228 rfl) (own_w hw 227 rfl) (StrChars.Road.empW (W := 0) hZ hem (kI := 4) (own_w hw 3 rfl) E1 V1 C1 A1 D1 (own_up hn.2.2.2.2) (by have := hn.2.1; omega) (by decide) (by decide)) e5 E1 (g := (mkF m 8 #[.val (.ref x), .val (.int q), .unset] [(.ref x)])) rfl (by rw [hml]; rfl) (lenOf own_pd4 rfl) rfl (by show 2 * 0 + _ ≤ _; exact Nat.le_of_eq rfl) (hb hby own_d34_8) (by decide) (by decide)
  obtain ⟨rfl, rfl, e6⟩ := hQ6
  rw [List.append_nil] at X6
  refine own_st (st6) ?_
  clear st6 X5 e5
  show OFin p e below s _ _ _ (T6.setTop (mkF m 11 #[.val (.ref x), .val (.int q), .unset] [(.int (if cs.length = 0 then (1 : Int32) else 0))]))
  rw [if_neg (show ¬ cs.length = 0 by omega)]
  show OFin p e below s _ _ _ (T6.setTop (mkF m 11 #[.val (.ref x), .val (.int q), .unset] [(.int (0 : Int32))]))
  refine own_st (fun _ kS => XS.ifNo X6.here hx rfl (hb hby own_d34_11) rfl ((if0 _ _).trans (teq rfl).2) kS) ?_
  show OFin p e below s _ _ _ (T6.setTop (mkF m 14 #[.val (.ref x), .val (.int q), .unset] []))
  refine own_st (fun _ kS => XS.aloadN X6.here hx rfl (hb hby own_d34_14) rfl rfl kS) ?_
  show OFin p e below s _ _ _ (T6.setTop (mkF m 15 #[.val (.ref x), .val (.int q), .unset] [(.ref x)]))
  refine own_st (fun _ kS => XS.iconst X6.here hx rfl (hb hby own_d34_15) kS) ?_
  show OFin p e below s _ _ _ (T6.setTop (mkF m 16 #[.val (.ref x), .val (.int q), .unset] [(.int (0 : Int32)), (.ref x)]))
  obtain ⟨v7, T7, L7, X7, hQ7, st7⟩ := own_virtualB (fun v h' L => v = some (.int (cs.getD 0 0)) ∧ L = [] ∧ h' = h0) 0 0 X6 hx hZ (y := (⟨"java/lang/String", "charAt", "(I)C"⟩ : MethodName)) (z := (⟨"java/lang/String", "charAt", "(I)C"⟩ : MethodName)) (W := 0) (a := x) (argsL := [(.int (0 : Int32))]) (rest := []) hown (own_w hw 230 rfl) (own_w hw 231 rfl) (notFace_of_selects (args := #[]) (mvT hZ (own_w hw 233 rfl))) (own_w hw 233 rfl) (own_w hw 232 rfl) (StrChars.Road.chN (W := 0) hZ hch (kI := 4) (own_w hw 3 rfl) E1 V1 C1 A1 D1 (own_up hn.2.2.2.2) (Sta.ext O.2 S_c) hz (Sta.ext O.2 S_f) rf (by have := hn.2.1; omega) (i := 0) (by omega) (j := (0 : Int32)) rfl (by decide) (by decide)) e6 E1 (g := (mkF m 16 #[.val (.ref x), .val (.int q), .unset] [(.int (0 : Int32)), (.ref x)])) rfl (by rw [hml]; rfl) (lenOf own_pd1 rfl) rfl (by show 2 * 0 + _ ≤ _; exact Nat.le_of_eq rfl) (hb hby own_d34_16) (by decide) (by decide)
  obtain ⟨rfl, rfl, e7⟩ := hQ7
  rw [List.append_nil] at X7
  refine own_st (st7) ?_
  clear st7 X6 e6
  show OFin p e below s _ _ _ (T7.setTop (mkF m 19 #[.val (.ref x), .val (.int q), .unset] [(.int (cs.getD 0 0))]))
  refine own_st (fun _ kS => XS.bipush X7.here hx rfl (hb hby own_d34_19) kS) ?_
  show OFin p e below s _ _ _ (T7.setTop (mkF m 21 #[.val (.ref x), .val (.int q), .unset] [(.int (97 : Int32)), (.int (cs.getD 0 0))]))
  refine own_st (fun _ kS => XS.icmpNo X7.here hx rfl (hb hby own_d34_21) rfl (flt hn.2.2.1.1).1 kS) ?_
  show OFin p e below s _ _ _ (T7.setTop (mkF m 24 #[.val (.ref x), .val (.int q), .unset] []))
  refine own_st (fun _ kS => XS.aloadN X7.here hx rfl (hb hby own_d34_24) rfl rfl kS) ?_
  show OFin p e below s _ _ _ (T7.setTop (mkF m 25 #[.val (.ref x), .val (.int q), .unset] [(.ref x)]))
  refine own_st (fun _ kS => XS.iconst X7.here hx rfl (hb hby own_d34_25) kS) ?_
  show OFin p e below s _ _ _ (T7.setTop (mkF m 26 #[.val (.ref x), .val (.int q), .unset] [(.int (0 : Int32)), (.ref x)]))
  obtain ⟨v8, T8, L8, X8, hQ8, st8⟩ := own_virtualB (fun v h' L => v = some (.int (cs.getD 0 0)) ∧ L = [] ∧ h' = h0) 0 0 X7 hx hZ (y := (⟨"java/lang/String", "charAt", "(I)C"⟩ : MethodName)) (z := (⟨"java/lang/String", "charAt", "(I)C"⟩ : MethodName)) (W := 0) (a := x) (argsL := [(.int (0 : Int32))]) (rest := []) hown (own_w hw 230 rfl) (own_w hw 231 rfl) (notFace_of_selects (args := #[]) (mvT hZ (own_w hw 233 rfl))) (own_w hw 233 rfl) (own_w hw 232 rfl) (StrChars.Road.chN (W := 0) hZ hch (kI := 4) (own_w hw 3 rfl) E1 V1 C1 A1 D1 (own_up hn.2.2.2.2) (Sta.ext O.2 S_c) hz (Sta.ext O.2 S_f) rf (by have := hn.2.1; omega) (i := 0) (by omega) (j := (0 : Int32)) rfl (by decide) (by decide)) e7 E1 (g := (mkF m 26 #[.val (.ref x), .val (.int q), .unset] [(.int (0 : Int32)), (.ref x)])) rfl (by rw [hml]; rfl) (lenOf own_pd1 rfl) rfl (by show 2 * 0 + _ ≤ _; exact Nat.le_of_eq rfl) (hb hby own_d34_26) (by decide) (by decide)
  obtain ⟨rfl, rfl, e8⟩ := hQ8
  rw [List.append_nil] at X8
  refine own_st (st8) ?_
  clear st8 X7 e7
  show OFin p e below s _ _ _ (T8.setTop (mkF m 29 #[.val (.ref x), .val (.int q), .unset] [(.int (cs.getD 0 0))]))
  refine own_st (fun _ kS => XS.bipush X8.here hx rfl (hb hby own_d34_29) kS) ?_
  show OFin p e below s _ _ _ (T8.setTop (mkF m 31 #[.val (.ref x), .val (.int q), .unset] [(.int (122 : Int32)), (.int (cs.getD 0 0))]))
  refine own_st (fun _ kS => XS.icmpNo X8.here hx rfl (hb hby own_d34_31) rfl (flt hn.2.2.1.2).2.2.1 kS) ?_
  show OFin p e below s _ _ _ (T8.setTop (mkF m 34 #[.val (.ref x), .val (.int q), .unset] []))
  refine own_st (fun _ kS => XS.aloadN X8.here hx rfl (hb hby own_d34_34) rfl rfl kS) ?_
  show OFin p e below s _ _ _ (T8.setTop (mkF m 35 #[.val (.ref x), .val (.int q), .unset] [(.ref x)]))
  refine own_st (fun _ kS => XS.iconst X8.here hx rfl (hb hby own_d34_35) kS) ?_
  show OFin p e below s _ _ _ (T8.setTop (mkF m 36 #[.val (.ref x), .val (.int q), .unset] [(.int (1 : Int32)), (.ref x)]))
  obtain ⟨v9, T9, L9, X9, hQ9, st9⟩ := own_staticUp X8 hx hZ (owner := "com/example/unify_trace/unifytrace/term/Term") (y := (⟨"com/example/unify_trace/unifytrace/term/Compound", "isNameRest", "(Ljava/lang/String;I)Z"⟩ : MethodName)) (rm := ⟨4, 0, 0, 53⟩) (W := 0) (argsL := [(.ref x), (.int (1 : Int32))]) (rest := []) hown (own_w hw 249 rfl) (own_w hw 250 rfl) (own_w hw 251 rfl) (own_w hw 252 rfl) (own_w hw 253 rfl) (rmNR l Z a0 hw x _ h0 cs z fm n0 O1' hn S_c hz S_f rf O rfl) e8 (g := (mkF m 36 #[.val (.ref x), .val (.int q), .unset] [(.int (1 : Int32)), (.ref x)])) rfl (by rw [hml]; rfl) (lenOf own_pd5 rfl) rfl (by show 2 * 0 + _ ≤ _; exact Nat.le_of_eq rfl) (hb hby own_d34_36) (by decide) (by decide) (by decide) (by decide)
  obtain ⟨rfl, e9, rfl⟩ := hQ9
  rw [List.append_nil] at X9
  refine own_st (st9) ?_
  clear st9 X8 e8
  show OFin p e below s _ _ _ (T9.setTop (mkF m 39 #[.val (.ref x), .val (.int q), .unset] [(.int (1 : Int32))]))
  refine own_st (fun _ kS => XS.ifNo X9.here hx rfl (hb hby own_d34_39) rfl ((if0 _ _).trans (feq (by decide)).1) kS) ?_
  show OFin p e below s _ _ _ (T9.setTop (mkF m 42 #[.val (.ref x), .val (.int q), .unset] []))
  refine own_st (fun _ kS => XS.aloadN X9.here hx rfl (hb hby own_d34_42) rfl rfl kS) ?_
  show OFin p e below s _ _ _ (T9.setTop (mkF m 43 #[.val (.ref x), .val (.int q), .unset] [(.ref x)]))
  exact own_ret X9 hx (t := (.object "java/lang/String")) hret hlk rfl (Or.inr (Or.inr (Or.inr (Or.inr ⟨rfl, rfl, rfl⟩)))) (hb hby own_d34_43) (by decide) (by decide) ⟨rfl, e9, rfl⟩
set_option maxRecDepth 65536 in
set_option maxHeartbeats 40000000 in
theorem rmCN (l : Launch) (Z : State) (a0 : Array Value) (hw : ∀ d ∈ tables_1, d.before a0 Z = true) (x : Addr) (q : Int32) (h0 : Heap) (cs : List Int32) (z : Int32) (fm : Value) (n0 : Nat) (O1 : OStr Z h0 x cs) (hn : own_name cs) (S_c : Sta Z Z.heap "java/lang/String" "COMPACT_STRINGS" "Z" (.int z)) (hz : ¬ z = 0) (S_f : Sta Z Z.heap "jdk/internal/util/Preconditions" "SIOOBE_FORMATTER" "Ljava/util/function/BiFunction;" fm) (rf : fm.isRef = true) (O : Old Z n0 h0) :
    OMetW l Z (fun _ => True) (⟨"com/example/unify_trace/unifytrace/term/Compound", "checkName", "(Ljava/lang/String;I)Ljava/lang/String;"⟩ : MethodName) prog_25_method_2_code 3 (some (.object "java/lang/String")) (⟨5, 2, 20, 67⟩ : Room) #[(.ref x), (.int q)] h0 (fun v vm h L => v = some (.ref x) ∧ L = [] ∧ Keep h0 h []) := by
  refine own_enterW own_pn34 ?_
  intro p e s m below meth c T0 X0 hC e0 eS hPv
  have hC0 := hC
  obtain ⟨hx, hZ, hby, hml, hown, hret, hlk, hnm⟩ := hC
  have hown : s.vm.findClass "com/example/unify_trace/unifytrace/term/Compound" = some m.cls := hown
  refine own_atE (own_ef34_RI m x q) ?_
  show OFinE p e below _ (T0.setTop (mkF m 0 #[.val (.ref x), .val (.int q), .unset] []))
  refine own_stE (fun _ kS => XS.aloadN X0.here hx rfl (hb hby own_d34_0) rfl rfl kS) ?_
  show OFinE p e below _ (T0.setTop (mkF m 1 #[.val (.ref x), .val (.int q), .unset] [(.ref x)]))
  have wS : ∀ a ∈ Bundle.stringAtoms, a.before a0 Z = true := fun d hd => hw d ((by decide +kernel : ∀ d ∈ Bundle.stringAtoms, d ∈ tables_1) d hd)
  obtain ⟨y, T10, h10, kk10, X10, e10, E10, SS10, hk10, hZ, hown, st10⟩ := own_ldcO X0 hx hZ hown (own_w hw 221 rfl) wS e0 (g := (mkF m 1 #[.val (.ref x), .val (.int q), .unset] [(.ref x)])) rfl (hb hby own_d34_1) (n := 16) (by decide) (by decide) (by decide) (by decide)
  refine own_stE (st10) ?_
  show OFinE p e below _ (T10.setTop (mkF m 3 #[.val (.ref x), .val (.int q), .unset] [(.ref y), (.ref x)]))
  have kp10 := (Keep.refl h0 []).ext E10
  exact own_narrow SS10 (own_pCN hw ⟨hx, hZ, hby, hml, hown, hret, hlk, hnm⟩ X10 e10 x y q cs z fm n0 (O1.keep kp10) hn S_c hz S_f rf (O.ext E10) rfl rfl rfl) (fun v vm h L hW q => ⟨by rw [q.2.1]; exact hk10, q.1, q.2.2, by rw [q.2.1]; exact kp10⟩)
set_option maxRecDepth 65536 in
set_option maxHeartbeats 40000000 in
theorem rmTI (l : Launch) (Z : State) (a0 : Array Value) (hw : ∀ d ∈ tables_1, d.before a0 Z = true) (c0 : Addr) (x : Addr) (h0 : Heap) (n0 : Nat) (E_c : Exa Z h0 c0 "com/example/unify_trace/unifytrace/term/Compound") (F_n : Fld Z h0 c0 "com/example/unify_trace/unifytrace/term/Term" "name" "Ljava/lang/String;" .null) (F_a : Fld Z h0 c0 "com/example/unify_trace/unifytrace/term/Compound" "arguments" "[Lcom/example/unify_trace/unifytrace/term/Term;" .null) (g_c0 : n0 ≤ c0) :
    OMet l Z (⟨"com/example/unify_trace/unifytrace/term/Term", "<init>", "(Ljava/lang/String;)V"⟩ : MethodName) prog_27_method_1_code 2 none (⟨1, 0, 0, 12⟩ : Room) #[(.ref c0), (.ref x)] h0 (fun v h L => v = none ∧ Fr n0 L ∧ Keep h0 h [c0] ∧ Exa Z h c0 "com/example/unify_trace/unifytrace/term/Compound" ∧ Fld Z h c0 "com/example/unify_trace/unifytrace/term/Term" "name" "Ljava/lang/String;" (.ref x) ∧ Fld Z h c0 "com/example/unify_trace/unifytrace/term/Compound" "arguments" "[Lcom/example/unify_trace/unifytrace/term/Term;" .null) := by
  refine own_enter own_pn44 ?_
  intro p e s m below meth c T0 X0 hC e0
  obtain ⟨hx, hZ, hby, hml, hown, hret, hlk, hnm⟩ := hC
  have hown : s.vm.findClass "com/example/unify_trace/unifytrace/term/Term" = some m.cls := hown
  refine own_at (own_ef44_RR m c0 x) ?_
  show OFin p e below s _ _ _ (T0.setTop (mkF m 0 #[.val (.ref c0), .val (.ref x)] []))
  have N0 := Fr.nil n0
  have kp0 := Keep.refl h0 [c0]
  refine own_st (fun _ kS => XS.aloadN X0.here hx rfl (hb hby own_d44_0) rfl rfl kS) ?_
  show OFin p e below s _ _ _ (T0.setTop (mkF m 1 #[.val (.ref c0), .val (.ref x)] [(.ref c0)]))
  obtain ⟨T11, X11, e11, st11⟩ := initO X0 hx hZ hown (own_w hw 268 rfl) (own_w hw 13 rfl) (own_w hw 14 rfl) e0 (g := (mkF m 1 #[.val (.ref c0), .val (.ref x)] [(.ref c0)])) rfl (by rw [hml]; rfl) rfl (hb hby own_d44_1) (by decide) (W := 0) (by show 2 * 0 + _ ≤ _; exact Nat.le_of_eq rfl) (by decide)
  refine own_st (st11) ?_
  clear st11 X0 e0
  show OFin p e below s _ _ _ (T11.setTop (mkF m 4 #[.val (.ref c0), .val (.ref x)] []))
  refine own_st (fun _ kS => XS.aloadN X11.here hx rfl (hb hby own_d44_4) rfl rfl kS) ?_
  show OFin p e below s _ _ _ (T11.setTop (mkF m 5 #[.val (.ref c0), .val (.ref x)] [(.ref c0)]))
  refine own_st (fun _ kS => XS.aloadN X11.here hx rfl (hb hby own_d44_5) rfl rfl kS) ?_
  show OFin p e below s _ _ _ (T11.setTop (mkF m 6 #[.val (.ref c0), .val (.ref x)] [(.ref x), (.ref c0)]))
  obtain ⟨T12, h12, X12, e12, W12, st12⟩ := putF X11 hx hZ hown (host := "") (Or.inl (own_w hw 269 rfl)) Via.refl e11 F_n E_c (Or.inr ⟨(own_w hw 270 rfl), rfl, hnm⟩) (own_w hw 211 rfl) (ty := (.object "java/lang/String")) (by decide) rfl rfl (g := (mkF m 6 #[.val (.ref c0), .val (.ref x)] [(.ref x), (.ref c0)])) rfl rfl (hb hby own_d44_6)
  have f13 := F_n.same W12
  have f14 := E_c.wr W12
  have f16 := F_a.other W12 (Or.inr (slot_ne (Or.inr (own_w hw 281 rfl)) (Or.inr (own_w hw 270 rfl)) (by decide) (t := (.array (.object "com/example/unify_trace/unifytrace/term/Term"))) (t' := (.object "java/lang/String")) (by decide) (by decide)))
  have fr12 := Fr.snoc X12 N0 g_c0
  clear N0
  have kp12 := kp0.wr W12 (Or.inl (List.mem_of_getElem? (i := 0) rfl))
  clear kp0
  refine own_st (st12) ?_
  clear st12 X11 e11 W12
  show OFin p e below s _ _ _ (T12.setTop (mkF m 9 #[.val (.ref c0), .val (.ref x)] []))
  exact own_retV X12 hx hret hlk (hb hby own_d44_9) (by decide) (by decide) (by show _ ∧ _ ∧ Keep h0 T12.heap _ ∧ _; rw [e12]; exact ⟨rfl, fr12, kp12, f14, f13, f16⟩)
set_option maxRecDepth 65536 in
set_option maxHeartbeats 40000000 in
theorem rmCI (l : Launch) (Z : State) (a0 : Array Value) (hw : ∀ d ∈ tables_1, d.before a0 Z = true) (c0 : Addr) (x : Addr) (ar : Addr) (h0 : Heap) (cs : List Int32) (z : Int32) (fm : Value) (n0 : Nat) (Z0 : n0 ≤ h0.size) (E_c : Exa Z h0 c0 "com/example/unify_trace/unifytrace/term/Compound") (F_n : Fld Z h0 c0 "com/example/unify_trace/unifytrace/term/Term" "name" "Ljava/lang/String;" .null) (F_a : Fld Z h0 c0 "com/example/unify_trace/unifytrace/term/Compound" "arguments" "[Lcom/example/unify_trace/unifytrace/term/Term;" .null) (g_c0 : n0 ≤ c0) (R_a : ORef Z h0 ar (.object "com/example/unify_trace/unifytrace/term/Term") "com/example/unify_trace/unifytrace/term/Term" 0 (fun _ => .null)) (E_a : Exa Z h0 ar "[Lcom/example/unify_trace/unifytrace/term/Term;") (ne_c0_ar : c0 ≠ ar) (O1 : OStr Z h0 x cs) (hn : own_name cs) (S_c : Sta Z Z.heap "java/lang/String" "COMPACT_STRINGS" "Z" (.int z)) (hz : ¬ z = 0) (S_f : Sta Z Z.heap "jdk/internal/util/Preconditions" "SIOOBE_FORMATTER" "Ljava/util/function/BiFunction;" fm) (rf : fm.isRef = true) (O : Old Z n0 h0) :
    OMetW l Z (fun _ => True) (⟨"com/example/unify_trace/unifytrace/term/Compound", "<init>", "(Ljava/lang/String;[Lcom/example/unify_trace/unifytrace/term/Term;)V"⟩ : MethodName) prog_25_method_1_code 7 none (⟨6, 3, 20, 82⟩ : Room) #[(.ref c0), (.ref x), (.ref ar)] h0 (fun v vm h L => v = none ∧ Fr n0 L ∧ Keep h0 h [c0] ∧ ∃ br, h0.size ≤ br ∧ Exa Z h c0 "com/example/unify_trace/unifytrace/term/Compound" ∧ Fld Z h c0 "com/example/unify_trace/unifytrace/term/Term" "name" "Ljava/lang/String;" (.ref x) ∧ Fld Z h c0 "com/example/unify_trace/unifytrace/term/Compound" "arguments" "[Lcom/example/unify_trace/unifytrace/term/Term;" (.ref br) ∧ ORef Z h br (.object "com/example/unify_trace/unifytrace/term/Term") "com/example/unify_trace/unifytrace/term/Term" 0 (fun _ => .null)) := by
  refine own_enterW own_pn33 ?_
  intro p e s m below meth c T0 X0 hC e0 eS hPv
  have hC0 := hC
  obtain ⟨hx, hZ, hby, hml, hown, hret, hlk, hnm⟩ := hC
  have hown : s.vm.findClass "com/example/unify_trace/unifytrace/term/Compound" = some m.cls := hown
  refine own_atE (own_ef33_RRR m c0 x ar) ?_
  show OFinE p e below _ (T0.setTop (mkF m 0 #[.val (.ref c0), .val (.ref x), .val (.ref ar), .unset, .unset, .unset, .unset] []))
  have N0 := Fr.nil n0
  have kp0 := Keep.refl h0 [c0]
  refine own_stE (fun _ kS => XS.aloadN X0.here hx rfl (hb hby own_d33_0) rfl rfl kS) ?_
  show OFinE p e below _ (T0.setTop (mkF m 1 #[.val (.ref c0), .val (.ref x), .val (.ref ar), .unset, .unset, .unset, .unset] [(.ref c0)]))
  refine own_stE (fun _ kS => XS.aloadN X0.here hx rfl (hb hby own_d33_1) rfl rfl kS) ?_
  show OFinE p e below _ (T0.setTop (mkF m 2 #[.val (.ref c0), .val (.ref x), .val (.ref ar), .unset, .unset, .unset, .unset] [(.ref x), (.ref c0)]))
  refine own_stE (fun _ kS => XS.aloadN X0.here hx rfl (hb hby own_d33_2) rfl rfl kS) ?_
  show OFinE p e below _ (T0.setTop (mkF m 3 #[.val (.ref c0), .val (.ref x), .val (.ref ar), .unset, .unset, .unset, .unset] [(.ref ar), (.ref x), (.ref c0)]))
  obtain ⟨cl17, Ar17, S17, B17, H17⟩ := id R_a
  have hl17 := own_len S17 (rfl : _ = (0 : Int32))
  refine own_stE (X0.arraylength hx (by rw [e0]; exact Ar17.1) (State.isArrayOf_alike hZ.alike Ar17.2.1) (g := (mkF m 3 #[.val (.ref c0), .val (.ref x), .val (.ref ar), .unset, .unset, .unset, .unset] [(.ref ar), (.ref x), (.ref c0)])) rfl rfl (hb hby own_d33_3)) ?_
  rw [hl17]
  clear hl17 Ar17 S17 B17
  show OFinE p e below _ (T0.setTop (mkF m 4 #[.val (.ref c0), .val (.ref x), .val (.ref ar), .unset, .unset, .unset, .unset] [(.int (0 : Int32)), (.ref x), (.ref c0)]))
  obtain ⟨v18, T18, L18, X18, SS18, hZ, hown, hQ18, st18⟩ := own_staticW X0 hx hZ (y := (⟨"com/example/unify_trace/unifytrace/term/Compound", "checkName", "(Ljava/lang/String;I)Ljava/lang/String;"⟩ : MethodName)) (rm := ⟨5, 2, 20, 67⟩) (W := 1) (argsL := [(.ref x), (.int (0 : Int32))]) (rest := [(.ref c0)]) hown (own_w hw 218 rfl) (own_w hw 219 rfl) (own_w hw 212 rfl) (own_w hw 220 rfl) (rmCN l Z a0 hw x _ h0 cs z fm n0 O1 hn S_c hz S_f rf O) (fun _ _ => trivial) e0 (g := (mkF m 4 #[.val (.ref c0), .val (.ref x), .val (.ref ar), .unset, .unset, .unset, .unset] [(.int (0 : Int32)), (.ref x), (.ref c0)])) rfl (by rw [hml]; rfl) (lenOf own_pd6 rfl) rfl (by show 2 * 0 + _ ≤ _; exact Nat.le_of_eq rfl) (hb hby own_d33_4) (by decide) (by decide) (by decide) (by decide)
  obtain ⟨rfl, rfl, K18⟩ := hQ18
  refine own_stE (st18) ?_
  clear X0 e0
  refine own_narrow SS18 (Q' := (fun v h L => (v = none ∧ Fr n0 L ∧ Keep h0 h [c0] ∧ ∃ br, h0.size ≤ br ∧ Exa Z h c0 "com/example/unify_trace/unifytrace/term/Compound" ∧ Fld Z h c0 "com/example/unify_trace/unifytrace/term/Term" "name" "Ljava/lang/String;" (.ref x) ∧ Fld Z h c0 "com/example/unify_trace/unifytrace/term/Compound" "arguments" "[Lcom/example/unify_trace/unifytrace/term/Term;" (.ref br) ∧ ORef Z h br (.object "com/example/unify_trace/unifytrace/term/Term") "com/example/unify_trace/unifytrace/term/Term" 0 (fun _ => .null)) ∧ T18.heap.size ≤ h.size)) ?_ (fun v vm h L hW q => ⟨q.2, q.1⟩)
  show OFin p e below (s.setVm T18.vm) _ _ _ (T18.setTop (mkF m 7 #[.val (.ref c0), .val (.ref x), .val (.ref ar), .unset, .unset, .unset, .unset] [(.ref x), (.ref c0)]))
  have N18 := Fr.nil n0
  have fr18 := Fr.app N0 N18
  clear N0
  have kp18 := kp0.trans K18 all0
  clear kp0
  have od18 := O.keep K18 all0
  have f19 := E_c.keep K18
  have f20 := F_n.keep K18 nin0
  have f21 := F_a.keep K18 nin0
  have f22 := R_a.keep K18 nin0
  have f23 := E_a.keep K18
  have sz18 : n0 ≤ T18.heap.size := Nat.le_trans Z0 K18.1
  obtain ⟨v24, T24, L24, X24, hQ24, st24⟩ := own_init X18 hx hZ (y := (⟨"com/example/unify_trace/unifytrace/term/Term", "<init>", "(Ljava/lang/String;)V"⟩ : MethodName)) (rm := ⟨1, 0, 0, 12⟩) (W := 0) (a := c0) (argsL := [(.ref x)]) (rest := []) rfl hown (own_w hw 264 rfl) (own_w hw 265 rfl) (own_w hw 252 rfl) (own_w hw 267 rfl) (rmTI l Z a0 hw c0 x T18.heap n0 f19 f20 f21 g_c0) rfl (g := (mkF m 7 #[.val (.ref c0), .val (.ref x), .val (.ref ar), .unset, .unset, .unset, .unset] [(.ref x), (.ref c0)])) rfl (by rw [hml]; rfl) (lenOf own_pd7 rfl) rfl (by show 2 * 0 + _ ≤ _; exact Nat.le_of_eq rfl) (hb hby own_d33_7) (by decide) (by decide) (by decide) (by decide)
  obtain ⟨rfl, N24, K24, EC, FN, FA⟩ := hQ24
  have fr24 := Fr.app fr18 N24
  clear fr18
  have kp24 := kp18.trans K24 (allS (Or.inl (List.mem_of_getElem? (i := 0) rfl)) all0)
  clear kp18
  have od24 := od18.keep K24 (allS g_c0 all0)
  clear od18
  clear f20
  clear f21
  have f27 := f22.keep K24 (ninS (Ne.symm ne_c0_ar) nin0)
  clear f22
  have f28 := f23.keep K24
  clear f23
  have sz24 : n0 ≤ T24.heap.size := Nat.le_trans sz18 K24.1
  clear sz18
  have sy24 : T18.heap.size ≤ T24.heap.size := Nat.le_trans (Nat.le_refl _) K24.1
  refine own_st (st24) ?_
  clear st24 X18
  show OFin p e below (s.setVm T18.vm) _ _ _ (T24.setTop (mkF m 10 #[.val (.ref c0), .val (.ref x), .val (.ref ar), .unset, .unset, .unset, .unset] []))
  refine own_st (fun _ kS => XS.aloadN X24.here hx rfl (hb hby own_d33_10) rfl rfl kS) ?_
  show OFin p e below (s.setVm T18.vm) _ _ _ (T24.setTop (mkF m 11 #[.val (.ref c0), .val (.ref x), .val (.ref ar), .unset, .unset, .unset, .unset] [(.ref c0)]))
  refine own_st (fun _ kS => XS.aloadN X24.here hx rfl (hb hby own_d33_11) rfl rfl kS) ?_
  show OFin p e below (s.setVm T18.vm) _ _ _ (T24.setTop (mkF m 12 #[.val (.ref c0), .val (.ref x), .val (.ref ar), .unset, .unset, .unset, .unset] [(.ref ar), (.ref c0)]))
  obtain ⟨T29, h29, X29, e29, E29, A29, Ex29, st29⟩ := own_clone X24 hx hZ hown (own_w hw 271 rfl) (own_w hw 272 rfl) (own_w hw 276 rfl) (own_w hw 274 rfl) (own_w hw 275 rfl) (own_w hw 277 rfl) rfl f27 f28 (g := (mkF m 12 #[.val (.ref c0), .val (.ref x), .val (.ref ar), .unset, .unset, .unset, .unset] [(.ref ar), (.ref c0)])) rfl (by rw [hml]; rfl) rfl (hb hby own_d33_12) (by decide) (W := 1) (by show 2 * 0 + _ ≤ _; exact Nat.le_of_eq rfl) (by decide) (by decide) (by decide)
  obtain ⟨br, g29⟩ : ∃ z, z = T24.heap.size := ⟨_, rfl⟩
  rw [← g29] at A29 st29 Ex29
  have ne_ar_br : ar ≠ br := Nat.ne_of_lt (Nat.lt_of_lt_of_le f27.lt (Nat.le_of_eq g29.symm))
  have ne_c0_br : c0 ≠ br := Nat.ne_of_lt (Nat.lt_of_lt_of_le EC.lt (Nat.le_of_eq g29.symm))
  have g_br : n0 ≤ br := Nat.le_trans sz24 (Nat.le_of_eq g29.symm)
  have od29 := od24.ext E29
  clear od24
  have f30 := f27.ext E29
  clear f27
  have f31 := f28.ext E29
  clear f28
  have f32 := EC.ext E29
  have f33 := FN.ext E29
  have f34 := FA.ext E29
  have sz29 : n0 ≤ h29.size := Nat.le_trans sz24 E29.1
  clear sz24
  have sy29 : T18.heap.size ≤ h29.size := Nat.le_trans sy24 E29.1
  have kp29 := kp24.ext E29
  have kz_br := Nat.le_trans kp24.1 (Nat.le_of_eq g29.symm)
  clear kp24
  refine own_st (st29) ?_
  clear st29 X24 E29 g29
  show OFin p e below (s.setVm T18.vm) _ _ _ (T29.setTop (mkF m 15 #[.val (.ref c0), .val (.ref x), .val (.ref ar), .unset, .unset, .unset, .unset] [(.ref br), (.ref c0)]))
  obtain ⟨T35, X35, e35, st35⟩ := castY X29 hx hZ hown (own_w hw 278 rfl) e29 (Ins.self Ex29) (g := (mkF m 15 #[.val (.ref c0), .val (.ref x), .val (.ref ar), .unset, .unset, .unset, .unset] [(.ref br), (.ref c0)])) rfl rfl (hb hby own_d33_15)
  refine own_st (st35) ?_
  clear st35 X29 e29
  show OFin p e below (s.setVm T18.vm) _ _ _ (T35.setTop (mkF m 18 #[.val (.ref c0), .val (.ref x), .val (.ref ar), .unset, .unset, .unset, .unset] [(.ref br), (.ref c0)]))
  obtain ⟨T36, h36, X36, e36, W36, st36⟩ := putF X35 hx hZ hown (host := "") (Or.inl (own_w hw 280 rfl)) Via.refl e35 f34 f32 (Or.inr ⟨(own_w hw 281 rfl), rfl, hnm⟩) (own_w hw 211 rfl) (ty := (.array (.object "com/example/unify_trace/unifytrace/term/Term"))) (by decide) rfl rfl (g := (mkF m 18 #[.val (.ref c0), .val (.ref x), .val (.ref ar), .unset, .unset, .unset, .unset] [(.ref br), (.ref c0)])) rfl rfl (hb hby own_d33_18)
  have f37 := f34.same W36
  have od36 := od29.wr W36 g_c0
  clear od29
  have f38 := f30.other W36 (Ne.symm ne_c0_ar)
  clear f30
  have f39 := f31.wr W36
  clear f31
  have f40 := f32.wr W36
  clear f32
  have f41 := f33.other W36 (Or.inr (slot_ne (Or.inr (own_w hw 270 rfl)) (Or.inr (own_w hw 281 rfl)) (by decide) (t := (.object "java/lang/String")) (t' := (.array (.object "com/example/unify_trace/unifytrace/term/Term"))) (by decide) (by decide)))
  clear f33
  have f43 := A29.other W36 (Ne.symm ne_c0_br)
  have f44 := Ex29.wr W36
  clear Ex29
  have sz36 : n0 ≤ h36.size := by rw [W36.size]; exact sz29
  clear sz29
  have sy36 : T18.heap.size ≤ h36.size := by rw [W36.size]; exact sy29
  have fr36 := Fr.snoc X36 fr24 g_c0
  clear fr24
  have kp36 := kp29.wr W36 (Or.inl (List.mem_of_getElem? (i := 0) rfl))
  clear kp29
  refine own_st (st36) ?_
  clear st36 X35 e35 W36 f34
  show OFin p e below (s.setVm T18.vm) _ _ _ (T36.setTop (mkF m 21 #[.val (.ref c0), .val (.ref x), .val (.ref ar), .unset, .unset, .unset, .unset] []))
  refine own_st (fun _ kS => XS.aloadN X36.here hx rfl (hb hby own_d33_21) rfl rfl kS) ?_
  show OFin p e below (s.setVm T18.vm) _ _ _ (T36.setTop (mkF m 22 #[.val (.ref c0), .val (.ref x), .val (.ref ar), .unset, .unset, .unset, .unset] [(.ref c0)]))
  obtain ⟨T45, X45, e45, st45⟩ := getF X36 hx hZ hown (host := "") (Or.inl (own_w hw 280 rfl)) Via.refl e36 f37 (g := (mkF m 22 #[.val (.ref c0), .val (.ref x), .val (.ref ar), .unset, .unset, .unset, .unset] [(.ref c0)])) rfl rfl (hb hby own_d33_22)
  refine own_st (st45) ?_
  clear st45 X36 e36
  show OFin p e below (s.setVm T18.vm) _ _ _ (T45.setTop (mkF m 25 #[.val (.ref c0), .val (.ref x), .val (.ref ar), .unset, .unset, .unset, .unset] [(.ref br)]))
  refine own_st (fun _ kS => XS.astoreN X45.here hx rfl (hb hby own_d33_25) rfl rfl (l' := #[.val (.ref c0), .val (.ref x), .val (.ref ar), .val (.ref br), .unset, .unset, .unset]) rfl kS) ?_
  show OFin p e below (s.setVm T18.vm) _ _ _ (T45.setTop (mkF m 26 #[.val (.ref c0), .val (.ref x), .val (.ref ar), .val (.ref br), .unset, .unset, .unset] []))
  refine own_st (fun _ kS => XS.aloadN X45.here hx rfl (hb hby own_d33_26) rfl rfl kS) ?_
  show OFin p e below (s.setVm T18.vm) _ _ _ (T45.setTop (mkF m 27 #[.val (.ref c0), .val (.ref x), .val (.ref ar), .val (.ref br), .unset, .unset, .unset] [(.ref br)]))
  obtain ⟨cl46, Ar46, S46, B46, H46⟩ := id f43
  have hl46 := own_len S46 (rfl : _ = (0 : Int32))
  refine own_st (X45.arraylength hx (by rw [e45]; exact Ar46.1) (State.isArrayOf_alike hZ.alike Ar46.2.1) (g := (mkF m 27 #[.val (.ref c0), .val (.ref x), .val (.ref ar), .val (.ref br), .unset, .unset, .unset] [(.ref br)])) rfl rfl (hb hby own_d33_27)) ?_
  rw [hl46]
  clear hl46 Ar46 S46 B46
  show OFin p e below (s.setVm T18.vm) _ _ _ (T45.setTop (mkF m 28 #[.val (.ref c0), .val (.ref x), .val (.ref ar), .val (.ref br), .unset, .unset, .unset] [(.int (0 : Int32))]))
  refine own_st (fun _ kS => XS.istore X45.here hx rfl (hb hby own_d33_28) rfl (l' := #[.val (.ref c0), .val (.ref x), .val (.ref ar), .val (.ref br), .val (.int (0 : Int32)), .unset, .unset]) rfl kS) ?_
  show OFin p e below (s.setVm T18.vm) _ _ _ (T45.setTop (mkF m 30 #[.val (.ref c0), .val (.ref x), .val (.ref ar), .val (.ref br), .val (.int (0 : Int32)), .unset, .unset] []))
  refine own_st (fun _ kS => XS.iconst X45.here hx rfl (hb hby own_d33_30) kS) ?_
  show OFin p e below (s.setVm T18.vm) _ _ _ (T45.setTop (mkF m 31 #[.val (.ref c0), .val (.ref x), .val (.ref ar), .val (.ref br), .val (.int (0 : Int32)), .unset, .unset] [(.int (0 : Int32))]))
  refine own_st (fun _ kS => XS.istore X45.here hx rfl (hb hby own_d33_31) rfl (l' := #[.val (.ref c0), .val (.ref x), .val (.ref ar), .val (.ref br), .val (.int (0 : Int32)), .val (.int (0 : Int32)), .unset]) rfl kS) ?_
  show OFin p e below (s.setVm T18.vm) _ _ _ (T45.setTop (mkF m 33 #[.val (.ref c0), .val (.ref x), .val (.ref ar), .val (.ref br), .val (.int (0 : Int32)), .val (.int (0 : Int32)), .unset] []))
  refine own_st (fun _ kS => XS.iload X45.here hx rfl (hb hby own_d33_33) rfl kS) ?_
  show OFin p e below (s.setVm T18.vm) _ _ _ (T45.setTop (mkF m 35 #[.val (.ref c0), .val (.ref x), .val (.ref ar), .val (.ref br), .val (.int (0 : Int32)), .val (.int (0 : Int32)), .unset] [(.int (0 : Int32))]))
  refine own_st (fun _ kS => XS.iload X45.here hx rfl (hb hby own_d33_35) rfl kS) ?_
  show OFin p e below (s.setVm T18.vm) _ _ _ (T45.setTop (mkF m 37 #[.val (.ref c0), .val (.ref x), .val (.ref ar), .val (.ref br), .val (.int (0 : Int32)), .val (.int (0 : Int32)), .unset] [(.int (0 : Int32)), (.int (0 : Int32))]))
  refine own_st (fun _ kS => XS.icmpYes X45.here hx rfl (pc0 := 37) (pc' := 60) rfl (hb hby own_d33_37) rfl (flt (by decide)).2.1 (by decide) (by decide) kS) ?_
  show OFin p e below (s.setVm T18.vm) _ _ _ (T45.setTop (mkF m 60 #[.val (.ref c0), .val (.ref x), .val (.ref ar), .val (.ref br), .val (.int (0 : Int32)), .val (.int (0 : Int32)), .unset] []))
  exact own_retV X45 hx hret hlk (hb hby own_d33_60) (by decide) (by decide) (by show (_ ∧ _ ∧ Keep h0 T45.heap _ ∧ _) ∧ _ ≤ T45.heap.size; rw [e45]; exact ⟨⟨rfl, fr36, kp36, br, kz_br, f40, f41, f37, f43⟩, sy36⟩)
def BL (Z : State) (h : Heap) (b ar : Addr) (mc n : Int32) (f : Nat → Value) : Prop :=
  Exa Z h b "java/util/ArrayList" ∧ Fld Z h b "java/util/AbstractList" "modCount" "I" (.int mc) ∧ Fld Z h b "java/util/ArrayList" "elementData" "[Ljava/lang/Object;" (.ref ar) ∧ Fld Z h b "java/util/ArrayList" "size" "I" (.int n) ∧ ORef Z h ar (.object "java/lang/Object") "java/lang/Object" 10 f
theorem BL.keep {Z : State} {h h' : Heap} {ws : List Addr} {b ar : Addr} {mc n : Int32} {f : Nat → Value} (F : BL Z h b ar mc n f) (K : Keep h h' ws) (n0 : b ∉ ws) (n1 : ar ∉ ws) : BL Z h' b ar mc n f :=
  ⟨F.1.keep K, F.2.1.keep K n0, F.2.2.1.keep K n0, F.2.2.2.1.keep K n0, F.2.2.2.2.keep K n1⟩
def BD (Z : State) (h : Heap) (dq da : Addr) (hd : Int32) (f : Nat → Value) : Prop :=
  Exa Z h dq "java/util/ArrayDeque" ∧ Fld Z h dq "java/util/ArrayDeque" "elements" "[Ljava/lang/Object;" (.ref da) ∧ Fld Z h dq "java/util/ArrayDeque" "head" "I" (.int hd) ∧ Fld Z h dq "java/util/ArrayDeque" "tail" "I" (.int (0 : Int32)) ∧ ORef Z h da (.object "java/lang/Object") "java/lang/Object" 17 f
theorem BD.keep {Z : State} {h h' : Heap} {ws : List Addr} {dq da : Addr} {hd : Int32} {f : Nat → Value} (F : BD Z h dq da hd f) (K : Keep h h' ws) (n0 : dq ∉ ws) (n1 : da ∉ ws) : BD Z h' dq da hd f :=
  ⟨F.1.keep K, F.2.1.keep K n0, F.2.2.1.keep K n0, F.2.2.2.1.keep K n0, F.2.2.2.2.keep K n1⟩
def BT (Z : State) (h : Heap) (ty x : Addr) : Prop :=
  Exa Z h ty "com/example/unify_trace/unifytrace/program/Type" ∧ Fld Z h ty "com/example/unify_trace/unifytrace/program/Type" "name" "Ljava/lang/String;" (.ref x) ∧ Fld Z h ty "com/example/unify_trace/unifytrace/program/Type" "variable" "Z" (.int (0 : Int32)) ∧ Fld Z h ty "com/example/unify_trace/unifytrace/program/Type" "argument" "Lcom/example/unify_trace/unifytrace/program/Type;" .null ∧ Fld Z h ty "com/example/unify_trace/unifytrace/program/Type" "result" "Lcom/example/unify_trace/unifytrace/program/Type;" .null
theorem BT.keep {Z : State} {h h' : Heap} {ws : List Addr} {ty x : Addr} (F : BT Z h ty x) (K : Keep h h' ws) (n0 : ty ∉ ws) : BT Z h' ty x :=
  ⟨F.1.keep K, F.2.1.keep K n0, F.2.2.1.keep K n0, F.2.2.2.1.keep K n0, F.2.2.2.2.keep K n0⟩
theorem own_zero {args : Array Value} {s : State} {t : Term} {ty : FieldType} (ha : (Jvm.Cond.arrayOf t ty).before args s = true) (hl : (Jvm.Cond.eq (.length t) (.int 0)).before args s = true) : ∃ a, t.eval args s none [] s = some (.ref a) ∧ OArr s s.heap a ty 0 (fun _ => .null) := by
  obtain ⟨a, ev⟩ := arr_v (Cond.before_iff.mp ha)
  obtain ⟨c, A⟩ := Arr.start ev (Cond.before_iff.mp ha)
  exact ⟨a, ev, c, A, Jvm.Free.LOB.lenZero_of_words ev (Arr.fin (Vm.Alike.refl _) A) hl, by decide, fun i hi => absurd hi (Nat.not_lt_zero i)⟩
theorem own_nameC {a : Int32} {bs : List Int32} (ha : 97 ≤ a.toInt ∧ a.toInt ≤ 122) (hl : bs.length ≤ 3) (hb : ∀ b ∈ bs, own_ok b) : own_name (a :: bs) := by
  refine ⟨by simp, by simp; omega, ⟨?_, ?_⟩, fun j h1 h2 => ?_, fun c hc => ?_⟩
  · show ¬ a < 97
    rw [own_lt]; show ¬ a.toInt < 97; omega
  · show ¬ 122 < a
    rw [own_lt]; show ¬ 122 < a.toInt; omega
  · obtain ⟨i, rfl⟩ : ∃ i, j = i + 1 := ⟨j - 1, by omega⟩
    have hi : i < bs.length := by simpa using h2
    have e : (a :: bs).getD (i + 1) 0 = bs[i] := by simp [hi]
    rw [e]; exact (hb _ (List.getElem_mem hi)).1
  · rcases List.mem_cons.mp hc with rfl | hc
    · exact own_nc0 ⟨by omega, by omega⟩
    · exact own_nc0 (hb c hc).2
set_option maxRecDepth 65536 in
set_option maxHeartbeats 40000000 in
theorem rmAC (l : Launch) (Z : State) (a0 : Array Value) (hw : ∀ d ∈ tables_1, d.before a0 Z = true) (a : Addr) (h0 : Heap)  :
    OMet l Z (⟨"java/util/AbstractCollection", "<init>", "()V"⟩ : MethodName) jdk_22_method_1_code 1 none (⟨1, 0, 0, 12⟩ : Room) #[(.ref a)] h0 (fun v h L => v = none ∧ h = h0 ∧ L = []) := by
  refine own_enter own_pn12 ?_
  intro p e s m below meth c T0 X0 hC e0
  obtain ⟨hx, hZ, hby, hml, hown, hret, hlk, hnm⟩ := hC
  have hown : s.vm.findClass "java/util/AbstractCollection" = some m.cls := hown
  refine own_at (own_ef12_R m a) ?_
  show OFin p e below s _ _ _ (T0.setTop (mkF m 0 #[.val (.ref a)] []))
  refine own_st (fun _ kS => XS.aloadN X0.here hx rfl (hb hby own_d12_0) rfl rfl kS) ?_
  show OFin p e below s _ _ _ (T0.setTop (mkF m 1 #[.val (.ref a)] [(.ref a)]))
  obtain ⟨T47, X47, e47, st47⟩ := initO X0 hx hZ hown (own_w hw 75 rfl) (own_w hw 13 rfl) (own_w hw 14 rfl) e0 (g := (mkF m 1 #[.val (.ref a)] [(.ref a)])) rfl (by rw [hml]; rfl) rfl (hb hby own_d12_1) (by decide) (W := 0) (by show 2 * 0 + _ ≤ _; exact Nat.le_of_eq rfl) (by decide)
  refine own_st (st47) ?_
  clear st47 X0 e0
  show OFin p e below s _ _ _ (T47.setTop (mkF m 4 #[.val (.ref a)] []))
  exact own_retV X47 hx hret hlk (hb hby own_d12_4) (by decide) (by decide) ⟨rfl, e47, rfl⟩
set_option maxRecDepth 65536 in
set_option maxHeartbeats 40000000 in
theorem rmAB (l : Launch) (Z : State) (a0 : Array Value) (hw : ∀ d ∈ tables_1, d.before a0 Z = true) (b : Addr) (h0 : Heap) (n0 : Nat) (E_b : Exa Z h0 b "java/util/ArrayList") (F_m : Fld Z h0 b "java/util/AbstractList" "modCount" "I" (.int (0 : Int32))) (F_e : Fld Z h0 b "java/util/ArrayList" "elementData" "[Ljava/lang/Object;" .null) (F_s : Fld Z h0 b "java/util/ArrayList" "size" "I" (.int (0 : Int32))) (g_b : n0 ≤ b) :
    OMet l Z (⟨"java/util/AbstractList", "<init>", "()V"⟩ : MethodName) jdk_39_method_1_code 1 none (⟨2, 0, 0, 24⟩ : Room) #[(.ref b)] h0 (fun v h L => v = none ∧ Fr n0 L ∧ Keep h0 h [b] ∧ Exa Z h b "java/util/ArrayList" ∧ Fld Z h b "java/util/AbstractList" "modCount" "I" (.int (0 : Int32)) ∧ Fld Z h b "java/util/ArrayList" "elementData" "[Ljava/lang/Object;" .null ∧ Fld Z h b "java/util/ArrayList" "size" "I" (.int (0 : Int32))) := by
  refine own_enter own_pn11 ?_
  intro p e s m below meth c T0 X0 hC e0
  obtain ⟨hx, hZ, hby, hml, hown, hret, hlk, hnm⟩ := hC
  have hown : s.vm.findClass "java/util/AbstractList" = some m.cls := hown
  refine own_at (own_ef11_R m b) ?_
  show OFin p e below s _ _ _ (T0.setTop (mkF m 0 #[.val (.ref b)] []))
  have N0 := Fr.nil n0
  have kp0 := Keep.refl h0 [b]
  refine own_st (fun _ kS => XS.aloadN X0.here hx rfl (hb hby own_d11_0) rfl rfl kS) ?_
  show OFin p e below s _ _ _ (T0.setTop (mkF m 1 #[.val (.ref b)] [(.ref b)]))
  obtain ⟨v48, T48, L48, X48, hQ48, st48⟩ := own_init X0 hx hZ (y := (⟨"java/util/AbstractCollection", "<init>", "()V"⟩ : MethodName)) (rm := ⟨1, 0, 0, 12⟩) (W := 0) (a := b) (argsL := []) (rest := []) rfl hown (own_w hw 69 rfl) (own_w hw 70 rfl) (own_w hw 73 rfl) (own_w hw 74 rfl) (rmAC l Z a0 hw b h0) e0 (g := (mkF m 1 #[.val (.ref b)] [(.ref b)])) rfl (by rw [hml]; rfl) (lenOf own_pd8 rfl) rfl (by show 2 * 0 + _ ≤ _; exact Nat.le_of_eq rfl) (hb hby own_d11_1) (by decide) (by decide) (by decide) (by decide)
  obtain ⟨rfl, e48, rfl⟩ := hQ48
  rw [List.append_nil] at X48
  refine own_st (st48) ?_
  clear st48 X0 e0
  show OFin p e below s _ _ _ (T48.setTop (mkF m 4 #[.val (.ref b)] []))
  refine own_st (fun _ kS => XS.aloadN X48.here hx rfl (hb hby own_d11_4) rfl rfl kS) ?_
  show OFin p e below s _ _ _ (T48.setTop (mkF m 5 #[.val (.ref b)] [(.ref b)]))
  refine own_st (fun _ kS => XS.iconst X48.here hx rfl (hb hby own_d11_5) kS) ?_
  show OFin p e below s _ _ _ (T48.setTop (mkF m 6 #[.val (.ref b)] [(.int (0 : Int32)), (.ref b)]))
  obtain ⟨T49, h49, X49, e49, W49, st49⟩ := putF X48 hx hZ hown (host := "") (Or.inl (own_w hw 76 rfl)) Via.refl e48 F_m E_b (Or.inl (own_w hw 77 rfl)) (own_w hw 58 rfl) (ty := .int) (by decide) rfl rfl (g := (mkF m 6 #[.val (.ref b)] [(.int (0 : Int32)), (.ref b)])) rfl rfl (hb hby own_d11_6)
  have f50 := F_m.same W49
  have f51 := E_b.wr W49
  have f53 := F_e.other W49 (Or.inr (slot_ne (Or.inl (own_w hw 80 rfl)) (Or.inl (own_w hw 77 rfl)) (by decide) (t := (.array (.object "java/lang/Object"))) (t' := .int) (by decide) (by decide)))
  have f54 := F_s.other W49 (Or.inr (slot_ne (Or.inl (own_w hw 160 rfl)) (Or.inl (own_w hw 77 rfl)) (by decide) (t := .int) (t' := .int) (by decide) (by decide)))
  have fr49 := Fr.snoc X49 N0 g_b
  clear N0
  have kp49 := kp0.wr W49 (Or.inl (List.mem_of_getElem? (i := 0) rfl))
  clear kp0
  refine own_st (st49) ?_
  clear st49 X48 e48 W49
  show OFin p e below s _ _ _ (T49.setTop (mkF m 9 #[.val (.ref b)] []))
  exact own_retV X49 hx hret hlk (hb hby own_d11_9) (by decide) (by decide) (by show _ ∧ _ ∧ Keep h0 T49.heap _ ∧ _; rw [e49]; exact ⟨rfl, fr49, kp49, f51, f50, f53, f54⟩)
set_option maxRecDepth 65536 in
set_option maxHeartbeats 40000000 in
theorem rmAL (l : Launch) (Z : State) (a0 : Array Value) (hw : ∀ d ∈ tables_1, d.before a0 Z = true) (b : Addr) (h0 : Heap) (n0 : Nat) (dc : Addr) (E_b : Exa Z h0 b "java/util/ArrayList") (F_m : Fld Z h0 b "java/util/AbstractList" "modCount" "I" (.int (0 : Int32))) (F_e : Fld Z h0 b "java/util/ArrayList" "elementData" "[Ljava/lang/Object;" .null) (F_s : Fld Z h0 b "java/util/ArrayList" "size" "I" (.int (0 : Int32))) (g_b : n0 ≤ b) (O : Old Z n0 h0) (S_dc : Sta Z Z.heap "java/util/ArrayList" "DEFAULTCAPACITY_EMPTY_ELEMENTDATA" "[Ljava/lang/Object;" (.ref dc)) :
    OMet l Z (⟨"java/util/ArrayList", "<init>", "()V"⟩ : MethodName) jdk_38_method_2_code 1 none (⟨3, 0, 0, 36⟩ : Room) #[(.ref b)] h0 (fun v h L => v = none ∧ Fr n0 L ∧ Keep h0 h [b] ∧ Exa Z h b "java/util/ArrayList" ∧ Fld Z h b "java/util/AbstractList" "modCount" "I" (.int (0 : Int32)) ∧ Fld Z h b "java/util/ArrayList" "elementData" "[Ljava/lang/Object;" (.ref dc) ∧ Fld Z h b "java/util/ArrayList" "size" "I" (.int (0 : Int32))) := by
  refine own_enter own_pn10 ?_
  intro p e s m below meth c T0 X0 hC e0
  obtain ⟨hx, hZ, hby, hml, hown, hret, hlk, hnm⟩ := hC
  have hown : s.vm.findClass "java/util/ArrayList" = some m.cls := hown
  refine own_at (own_ef10_R m b) ?_
  show OFin p e below s _ _ _ (T0.setTop (mkF m 0 #[.val (.ref b)] []))
  have N0 := Fr.nil n0
  have kp0 := Keep.refl h0 [b]
  refine own_st (fun _ kS => XS.aloadN X0.here hx rfl (hb hby own_d10_0) rfl rfl kS) ?_
  show OFin p e below s _ _ _ (T0.setTop (mkF m 1 #[.val (.ref b)] [(.ref b)]))
  obtain ⟨v55, T55, L55, X55, hQ55, st55⟩ := own_init X0 hx hZ (y := (⟨"java/util/AbstractList", "<init>", "()V"⟩ : MethodName)) (rm := ⟨2, 0, 0, 24⟩) (W := 0) (a := b) (argsL := []) (rest := []) rfl hown (own_w hw 63 rfl) (own_w hw 64 rfl) (own_w hw 67 rfl) (own_w hw 68 rfl) (rmAB l Z a0 hw b h0 n0 E_b F_m F_e F_s g_b) e0 (g := (mkF m 1 #[.val (.ref b)] [(.ref b)])) rfl (by rw [hml]; rfl) (lenOf own_pd8 rfl) rfl (by show 2 * 0 + _ ≤ _; exact Nat.le_of_eq rfl) (hb hby own_d10_1) (by decide) (by decide) (by decide) (by decide)
  obtain ⟨rfl, N55, K55, EB55, FM55, FE55, FS55⟩ := hQ55
  have fr55 := Fr.app N0 N55
  clear N0
  have kp55 := kp0.trans K55 (allS (Or.inl (List.mem_of_getElem? (i := 0) rfl)) all0)
  clear kp0
  have od55 := O.keep K55 (allS g_b all0)
  have f56 := E_b.keep K55
  refine own_st (st55) ?_
  clear st55 X0 e0
  show OFin p e below s _ _ _ (T55.setTop (mkF m 4 #[.val (.ref b)] []))
  refine own_st (fun _ kS => XS.aloadN X55.here hx rfl (hb hby own_d10_4) rfl rfl kS) ?_
  show OFin p e below s _ _ _ (T55.setTop (mkF m 5 #[.val (.ref b)] [(.ref b)]))
  obtain ⟨T60, X60, e60, st60⟩ := getS2 X55 hx hZ hown (host := "") (Or.inl (own_w hw 78 rfl)) Via.refl rfl (Sta.ext od55.2 S_dc) (g := (mkF m 5 #[.val (.ref b)] [(.ref b)])) rfl (hb hby own_d10_5)
  refine own_st (st60) ?_
  clear st60 X55
  show OFin p e below s _ _ _ (T60.setTop (mkF m 8 #[.val (.ref b)] [(.ref dc), (.ref b)]))
  obtain ⟨T61, h61, X61, e61, W61, st61⟩ := putF X60 hx hZ hown (host := "") (Or.inl (own_w hw 79 rfl)) Via.refl e60 FE55 EB55 (Or.inl (own_w hw 80 rfl)) (own_w hw 58 rfl) (ty := (.array (.object "java/lang/Object"))) (by decide) rfl rfl (g := (mkF m 8 #[.val (.ref b)] [(.ref dc), (.ref b)])) rfl rfl (hb hby own_d10_8)
  have f62 := FE55.same W61
  have od61 := od55.wr W61 g_b
  clear od55
  have f63 := EB55.wr W61
  have f64 := FM55.other W61 (Or.inr (slot_ne (Or.inl (own_w hw 77 rfl)) (Or.inl (own_w hw 80 rfl)) (by decide) (t := .int) (t' := (.array (.object "java/lang/Object"))) (by decide) (by decide)))
  have f66 := FS55.other W61 (Or.inr (slot_ne (Or.inl (own_w hw 160 rfl)) (Or.inl (own_w hw 80 rfl)) (by decide) (t := .int) (t' := (.array (.object "java/lang/Object"))) (by decide) (by decide)))
  have fr61 := Fr.snoc X61 fr55 g_b
  clear fr55
  have kp61 := kp55.wr W61 (Or.inl (List.mem_of_getElem? (i := 0) rfl))
  clear kp55
  refine own_st (st61) ?_
  clear st61 X60 e60 W61
  show OFin p e below s _ _ _ (T61.setTop (mkF m 11 #[.val (.ref b)] []))
  exact own_retV X61 hx hret hlk (hb hby own_d10_11) (by decide) (by decide) (by show _ ∧ _ ∧ Keep h0 T61.heap _ ∧ _; rw [e61]; exact ⟨rfl, fr61, kp61, f63, f64, f62, f66⟩)
set_option maxRecDepth 65536 in
set_option maxHeartbeats 40000000 in
theorem rmMax (l : Launch) (Z : State) (a0 : Array Value) (hw : ∀ d ∈ tables_1, d.before a0 Z = true) (q1 : Int32) (q2 : Int32) (h0 : Heap) (hq : ¬ q1 < q2) :
    OMet l Z (⟨"java/lang/Math", "max", "(II)I"⟩ : MethodName) jdk_29_method_65_code 2 (some .int) (⟨0, 0, 0, 0⟩ : Room) #[(.int q1), (.int q2)] h0 (fun v h L => v = some (.int q1) ∧ h = h0 ∧ L = []) := by
  refine own_enter own_pn27 ?_
  intro p e s m below meth c T0 X0 hC e0
  obtain ⟨hx, hZ, hby, hml, hown, hret, hlk, hnm⟩ := hC
  have hown : s.vm.findClass "java/lang/Math" = some m.cls := hown
  refine own_at (own_ef27_II m q1 q2) ?_
  show OFin p e below s _ _ _ (T0.setTop (mkF m 0 #[.val (.int q1), .val (.int q2)] []))
  refine own_st (fun _ kS => XS.iloadN X0.here hx rfl (hb hby own_d27_0) rfl kS) ?_
  show OFin p e below s _ _ _ (T0.setTop (mkF m 1 #[.val (.int q1), .val (.int q2)] [(.int q1)]))
  refine own_st (fun _ kS => XS.iloadN X0.here hx rfl (hb hby own_d27_1) rfl kS) ?_
  show OFin p e below s _ _ _ (T0.setTop (mkF m 2 #[.val (.int q1), .val (.int q2)] [(.int q2), (.int q1)]))
  refine own_st (fun _ kS => XS.icmpNo X0.here hx rfl (hb hby own_d27_2) rfl (flt hq).1 kS) ?_
  show OFin p e below s _ _ _ (T0.setTop (mkF m 5 #[.val (.int q1), .val (.int q2)] []))
  refine own_st (fun _ kS => XS.iloadN X0.here hx rfl (hb hby own_d27_5) rfl kS) ?_
  show OFin p e below s _ _ _ (T0.setTop (mkF m 6 #[.val (.int q1), .val (.int q2)] [(.int q1)]))
  refine own_st (fun _ kS => XS.goto X0.here hx rfl (pc0 := 6) (pc' := 10) rfl (hb hby own_d27_6) (by decide) (by decide) kS) ?_
  show OFin p e below s _ _ _ (T0.setTop (mkF m 10 #[.val (.int q1), .val (.int q2)] [(.int q1)]))
  exact own_ret X0 hx (t := .int) hret hlk rfl (Or.inl ⟨rfl, by simp, _, rfl⟩) (hb hby own_d27_10) (by decide) (by decide) ⟨rfl, e0, rfl⟩
set_option maxRecDepth 65536 in
set_option maxHeartbeats 40000000 in
theorem rmCP (l : Launch) (Z : State) (a0 : Array Value) (hw : ∀ d ∈ tables_1, d.before a0 Z = true) (q1 : Int32) (q2 : Int32) (h0 : Heap) (c1 : ¬ q1 < 0) (c2 : q1 < q2) :
    OMet l Z (⟨"jdk/internal/util/Preconditions", "checkIndex", "(IILjava/util/function/BiFunction;)I"⟩ : MethodName) jdk_41_method_11_code 3 (some .int) (⟨0, 0, 0, 0⟩ : Room) #[(.int q1), (.int q2), .null] h0 (fun v h L => v = some (.int q1) ∧ h = h0 ∧ L = []) := by
  refine own_enter own_pn31 ?_
  intro p e s m below meth c T0 X0 hC e0
  obtain ⟨hx, hZ, hby, hml, hown, hret, hlk, hnm⟩ := hC
  have hown : s.vm.findClass "jdk/internal/util/Preconditions" = some m.cls := hown
  refine own_at (own_ef31_IIN m q1 q2) ?_
  show OFin p e below s _ _ _ (T0.setTop (mkF m 0 #[.val (.int q1), .val (.int q2), .val .null] []))
  refine own_st (fun _ kS => XS.iloadN X0.here hx rfl (hb hby own_d31_0) rfl kS) ?_
  show OFin p e below s _ _ _ (T0.setTop (mkF m 1 #[.val (.int q1), .val (.int q2), .val .null] [(.int q1)]))
  refine own_st (fun _ kS => XS.ifNo X0.here hx rfl (hb hby own_d31_1) rfl ((if0 _ _).trans (flt c1).1) kS) ?_
  show OFin p e below s _ _ _ (T0.setTop (mkF m 4 #[.val (.int q1), .val (.int q2), .val .null] []))
  refine own_st (fun _ kS => XS.iloadN X0.here hx rfl (hb hby own_d31_4) rfl kS) ?_
  show OFin p e below s _ _ _ (T0.setTop (mkF m 5 #[.val (.int q1), .val (.int q2), .val .null] [(.int q1)]))
  refine own_st (fun _ kS => XS.iloadN X0.here hx rfl (hb hby own_d31_5) rfl kS) ?_
  show OFin p e below s _ _ _ (T0.setTop (mkF m 6 #[.val (.int q1), .val (.int q2), .val .null] [(.int q2), (.int q1)]))
  refine own_st (fun _ kS => XS.icmpYes X0.here hx rfl (pc0 := 6) (pc' := 16) rfl (hb hby own_d31_6) rfl (tlt c2).1 (by decide) (by decide) kS) ?_
  show OFin p e below s _ _ _ (T0.setTop (mkF m 16 #[.val (.int q1), .val (.int q2), .val .null] []))
  refine own_st (fun _ kS => XS.iloadN X0.here hx rfl (hb hby own_d31_16) rfl kS) ?_
  show OFin p e below s _ _ _ (T0.setTop (mkF m 17 #[.val (.int q1), .val (.int q2), .val .null] [(.int q1)]))
  exact own_ret X0 hx (t := .int) hret hlk rfl (Or.inl ⟨rfl, by simp, _, rfl⟩) (hb hby own_d31_17) (by decide) (by decide) ⟨rfl, e0, rfl⟩
set_option maxRecDepth 65536 in
set_option maxHeartbeats 40000000 in
theorem rmCO (l : Launch) (Z : State) (a0 : Array Value) (hw : ∀ d ∈ tables_1, d.before a0 Z = true) (q1 : Int32) (q2 : Int32) (h0 : Heap) (c1 : ¬ q1 < 0) (c2 : q1 < q2) :
    OMet l Z (⟨"java/util/Objects", "checkIndex", "(II)I"⟩ : MethodName) jdk_31_method_17_code 2 (some .int) (⟨1, 0, 0, 14⟩ : Room) #[(.int q1), (.int q2)] h0 (fun v h L => v = some (.int q1) ∧ h = h0 ∧ L = []) := by
  refine own_enter own_pn30 ?_
  intro p e s m below meth c T0 X0 hC e0
  obtain ⟨hx, hZ, hby, hml, hown, hret, hlk, hnm⟩ := hC
  have hown : s.vm.findClass "java/util/Objects" = some m.cls := hown
  refine own_at (own_ef30_II m q1 q2) ?_
  show OFin p e below s _ _ _ (T0.setTop (mkF m 0 #[.val (.int q1), .val (.int q2)] []))
  refine own_st (fun _ kS => XS.iloadN X0.here hx rfl (hb hby own_d30_0) rfl kS) ?_
  show OFin p e below s _ _ _ (T0.setTop (mkF m 1 #[.val (.int q1), .val (.int q2)] [(.int q1)]))
  refine own_st (fun _ kS => XS.iloadN X0.here hx rfl (hb hby own_d30_1) rfl kS) ?_
  show OFin p e below s _ _ _ (T0.setTop (mkF m 2 #[.val (.int q1), .val (.int q2)] [(.int q2), (.int q1)]))
  refine own_st (fun _ kS => XS.aconstNull X0.here hx rfl (hb hby own_d30_2) kS) ?_
  show OFin p e below s _ _ _ (T0.setTop (mkF m 3 #[.val (.int q1), .val (.int q2)] [.null, (.int q2), (.int q1)]))
  obtain ⟨v67, T67, L67, X67, hQ67, st67⟩ := own_static X0 hx hZ (y := (⟨"jdk/internal/util/Preconditions", "checkIndex", "(IILjava/util/function/BiFunction;)I"⟩ : MethodName)) (rm := ⟨0, 0, 0, 0⟩) (W := 0) (argsL := [(.int q1), (.int q2), .null]) (rest := []) hown (own_w hw 201 rfl) (own_w hw 202 rfl) (own_w hw 203 rfl) (own_w hw 204 rfl) (rmCP l Z a0 hw q1 q2 h0 c1 c2) e0 (g := (mkF m 3 #[.val (.int q1), .val (.int q2)] [.null, (.int q2), (.int q1)])) rfl (by rw [hml]; rfl) (lenOf own_pd9 rfl) rfl (by show 2 * 0 + _ ≤ _; exact Nat.le_of_eq rfl) (hb hby own_d30_3) (by decide) (by decide) (by decide) (by decide)
  obtain ⟨rfl, e67, rfl⟩ := hQ67
  rw [List.append_nil] at X67
  refine own_st (st67) ?_
  clear st67 X0 e0
  show OFin p e below s _ _ _ (T67.setTop (mkF m 6 #[.val (.int q1), .val (.int q2)] [(.int q1)]))
  exact own_ret X67 hx (t := .int) hret hlk rfl (Or.inl ⟨rfl, by simp, _, rfl⟩) (hb hby own_d30_6) (by decide) (by decide) ⟨rfl, e67, rfl⟩
set_option maxRecDepth 65536 in
set_option maxHeartbeats 40000000 in
theorem rmSz (l : Launch) (Z : State) (a0 : Array Value) (hw : ∀ d ∈ tables_1, d.before a0 Z = true) (b : Addr) (h0 : Heap) (n : Int32) (F_s : Fld Z h0 b "java/util/ArrayList" "size" "I" (.int n)) :
    OMet l Z (⟨"java/util/ArrayList", "size", "()I"⟩ : MethodName) jdk_38_method_8_code 1 (some .int) (⟨0, 0, 0, 0⟩ : Room) #[(.ref b)] h0 (fun v h L => v = some (.int n) ∧ h = h0 ∧ L = []) := by
  refine own_enter own_pn28 ?_
  intro p e s m below meth c T0 X0 hC e0
  obtain ⟨hx, hZ, hby, hml, hown, hret, hlk, hnm⟩ := hC
  have hown : s.vm.findClass "java/util/ArrayList" = some m.cls := hown
  refine own_at (own_ef28_R m b) ?_
  show OFin p e below s _ _ _ (T0.setTop (mkF m 0 #[.val (.ref b)] []))
  refine own_st (fun _ kS => XS.aloadN X0.here hx rfl (hb hby own_d28_0) rfl rfl kS) ?_
  show OFin p e below s _ _ _ (T0.setTop (mkF m 1 #[.val (.ref b)] [(.ref b)]))
  obtain ⟨T68, X68, e68, st68⟩ := getF X0 hx hZ hown (host := "") (Or.inl (own_w hw 159 rfl)) Via.refl e0 F_s (g := (mkF m 1 #[.val (.ref b)] [(.ref b)])) rfl rfl (hb hby own_d28_1)
  refine own_st (st68) ?_
  clear st68 X0 e0
  show OFin p e below s _ _ _ (T68.setTop (mkF m 4 #[.val (.ref b)] [(.int n)]))
  exact own_ret X68 hx (t := .int) hret hlk rfl (Or.inl ⟨rfl, by simp, _, rfl⟩) (hb hby own_d28_4) (by decide) (by decide) ⟨rfl, e68, rfl⟩
set_option maxRecDepth 65536 in
set_option maxHeartbeats 40000000 in
theorem rmED (l : Launch) (Z : State) (a0 : Array Value) (hw : ∀ d ∈ tables_1, d.before a0 Z = true) (b : Addr) (q : Int32) (h0 : Heap) (ar x : Addr) (mc n : Int32) (f : Nat → Value) (j : Nat) (B_b : BL Z h0 b ar mc n f) (c1 : ¬ q < 0) (hj : q.toNatClampNeg = j) (hi : j < 10) (hf : f j = .ref x) :
    OMet l Z (⟨"java/util/ArrayList", "elementData", "(I)Ljava/lang/Object;"⟩ : MethodName) jdk_38_method_18_code 2 (some (.object "java/lang/Object")) (⟨0, 0, 0, 0⟩ : Room) #[(.ref b), (.int q)] h0 (fun v h L => v = some (.ref x) ∧ h = h0 ∧ L = []) := by
  refine own_enter own_pn32 ?_
  intro p e s m below meth c T0 X0 hC e0
  obtain ⟨hx, hZ, hby, hml, hown, hret, hlk, hnm⟩ := hC
  have hown : s.vm.findClass "java/util/ArrayList" = some m.cls := hown
  refine own_at (own_ef32_RI m b q) ?_
  show OFin p e below s _ _ _ (T0.setTop (mkF m 0 #[.val (.ref b), .val (.int q)] []))
  obtain ⟨u69, u70, u71, u72, u73⟩ := B_b
  refine own_st (fun _ kS => XS.aloadN X0.here hx rfl (hb hby own_d32_0) rfl rfl kS) ?_
  show OFin p e below s _ _ _ (T0.setTop (mkF m 1 #[.val (.ref b), .val (.int q)] [(.ref b)]))
  obtain ⟨T74, X74, e74, st74⟩ := getF X0 hx hZ hown (host := "") (Or.inl (own_w hw 79 rfl)) Via.refl e0 u71 (g := (mkF m 1 #[.val (.ref b), .val (.int q)] [(.ref b)])) rfl rfl (hb hby own_d32_1)
  refine own_st (st74) ?_
  clear st74 X0 e0
  show OFin p e below s _ _ _ (T74.setTop (mkF m 4 #[.val (.ref b), .val (.int q)] [(.ref ar)]))
  refine own_st (fun _ kS => XS.iloadN X74.here hx rfl (hb hby own_d32_4) rfl kS) ?_
  show OFin p e below s _ _ _ (T74.setTop (mkF m 5 #[.val (.ref b), .val (.int q)] [(.int q), (.ref ar)]))
  obtain ⟨cl75, Ar75, S75, B75, H75, O75⟩ := id u73
  refine own_st (X74.aaload hx (j := q) (v := (.ref x)) (by rw [e74]; exact Ar75.1) (State.isArrayOf_alike hZ.alike Ar75.2.1) rfl Ar75.2.2 (own_inb S75 c1 hj hi) ((own_hv H75 hj hi).trans (congrArg some (hf))) (g := (mkF m 5 #[.val (.ref b), .val (.int q)] [(.int q), (.ref ar)])) rfl rfl (hb hby own_d32_5)) ?_
  clear Ar75 S75 B75 H75 O75
  show OFin p e below s _ _ _ (T74.setTop (mkF m 6 #[.val (.ref b), .val (.int q)] [(.ref x)]))
  exact own_ret X74 hx (t := (.object "java/lang/Object")) hret hlk rfl (Or.inr (Or.inr (Or.inr (Or.inr ⟨rfl, rfl, rfl⟩)))) (hb hby own_d32_6) (by decide) (by decide) ⟨rfl, e74, rfl⟩
set_option maxRecDepth 65536 in
set_option maxHeartbeats 40000000 in
theorem rmGet (l : Launch) (Z : State) (a0 : Array Value) (hw : ∀ d ∈ tables_1, d.before a0 Z = true) (b : Addr) (q : Int32) (h0 : Heap) (ar x : Addr) (mc n : Int32) (f : Nat → Value) (j : Nat) (B_b : BL Z h0 b ar mc n f) (c1 : ¬ q < 0) (c2 : q < n) (hj : q.toNatClampNeg = j) (hi : j < 10) (hf : f j = .ref x) :
    OMet l Z (⟨"java/util/ArrayList", "get", "(I)Ljava/lang/Object;"⟩ : MethodName) jdk_38_method_20_code 2 (some (.object "java/lang/Object")) (⟨2, 0, 0, 27⟩ : Room) #[(.ref b), (.int q)] h0 (fun v h L => v = some (.ref x) ∧ h = h0 ∧ L = []) := by
  refine own_enter own_pn29 ?_
  intro p e s m below meth c T0 X0 hC e0
  obtain ⟨hx, hZ, hby, hml, hown, hret, hlk, hnm⟩ := hC
  have hown : s.vm.findClass "java/util/ArrayList" = some m.cls := hown
  refine own_at (own_ef29_RI m b q) ?_
  show OFin p e below s _ _ _ (T0.setTop (mkF m 0 #[.val (.ref b), .val (.int q)] []))
  obtain ⟨u76, u77, u78, u79, u80⟩ := (id B_b)
  refine own_st (fun _ kS => XS.iloadN X0.here hx rfl (hb hby own_d29_0) rfl kS) ?_
  show OFin p e below s _ _ _ (T0.setTop (mkF m 1 #[.val (.ref b), .val (.int q)] [(.int q)]))
  refine own_st (fun _ kS => XS.aloadN X0.here hx rfl (hb hby own_d29_1) rfl rfl kS) ?_
  show OFin p e below s _ _ _ (T0.setTop (mkF m 2 #[.val (.ref b), .val (.int q)] [(.ref b), (.int q)]))
  obtain ⟨T81, X81, e81, st81⟩ := getF X0 hx hZ hown (host := "") (Or.inl (own_w hw 159 rfl)) Via.refl e0 u79 (g := (mkF m 2 #[.val (.ref b), .val (.int q)] [(.ref b), (.int q)])) rfl rfl (hb hby own_d29_2)
  refine own_st (st81) ?_
  clear st81 X0 e0
  show OFin p e below s _ _ _ (T81.setTop (mkF m 5 #[.val (.ref b), .val (.int q)] [(.int n), (.int q)]))
  obtain ⟨v82, T82, L82, X82, hQ82, st82⟩ := own_static X81 hx hZ (y := (⟨"java/util/Objects", "checkIndex", "(II)I"⟩ : MethodName)) (rm := ⟨1, 0, 0, 14⟩) (W := 0) (argsL := [(.int q), (.int n)]) (rest := []) hown (own_w hw 197 rfl) (own_w hw 198 rfl) (own_w hw 199 rfl) (own_w hw 200 rfl) (rmCO l Z a0 hw q n h0 c1 c2) e81 (g := (mkF m 5 #[.val (.ref b), .val (.int q)] [(.int n), (.int q)])) rfl (by rw [hml]; rfl) (lenOf own_pd10 rfl) rfl (by show 2 * 0 + _ ≤ _; exact Nat.le_of_eq rfl) (hb hby own_d29_5) (by decide) (by decide) (by decide) (by decide)
  obtain ⟨rfl, e82, rfl⟩ := hQ82
  rw [List.append_nil] at X82
  refine own_st (st82) ?_
  clear st82 X81 e81
  show OFin p e below s _ _ _ (T82.setTop (mkF m 8 #[.val (.ref b), .val (.int q)] [(.int q)]))
  refine own_st (fun _ kS => XS.pop X82.here hx rfl (hb hby own_d29_8) rfl rfl kS) ?_
  show OFin p e below s _ _ _ (T82.setTop (mkF m 9 #[.val (.ref b), .val (.int q)] []))
  refine own_st (fun _ kS => XS.aloadN X82.here hx rfl (hb hby own_d29_9) rfl rfl kS) ?_
  show OFin p e below s _ _ _ (T82.setTop (mkF m 10 #[.val (.ref b), .val (.int q)] [(.ref b)]))
  refine own_st (fun _ kS => XS.iloadN X82.here hx rfl (hb hby own_d29_10) rfl kS) ?_
  show OFin p e below s _ _ _ (T82.setTop (mkF m 11 #[.val (.ref b), .val (.int q)] [(.int q), (.ref b)]))
  obtain ⟨v83, T83, L83, X83, hQ83, st83⟩ := own_virtual X82 hx hZ (y := (⟨"java/util/ArrayList", "elementData", "(I)Ljava/lang/Object;"⟩ : MethodName)) (z := (⟨"java/util/ArrayList", "elementData", "(I)Ljava/lang/Object;"⟩ : MethodName)) (rm := ⟨0, 0, 0, 0⟩) (W := 0) (a := b) (argsL := [(.int q)]) (rest := []) hown (own_w hw 205 rfl) (own_w hw 206 rfl) (notFace_of_selects (args := #[]) (mvT hZ (own_w hw 208 rfl))) (own_w hw 208 rfl) (own_w hw 207 rfl) (own_w hw 59 rfl) (own_w hw 209 rfl) (rmED l Z a0 hw b q h0 ar x mc n f j B_b c1 hj hi hf) e82 u76 (g := (mkF m 11 #[.val (.ref b), .val (.int q)] [(.int q), (.ref b)])) rfl (by rw [hml]; rfl) (lenOf own_pd11 rfl) rfl (by show 2 * 0 + _ ≤ _; exact Nat.le_of_eq rfl) (hb hby own_d29_11) (by decide) (by decide) (by decide) (by decide)
  obtain ⟨rfl, e83, rfl⟩ := hQ83
  rw [List.append_nil] at X83
  refine own_st (st83) ?_
  clear st83 X82 e82
  show OFin p e below s _ _ _ (T83.setTop (mkF m 14 #[.val (.ref b), .val (.int q)] [(.ref x)]))
  exact own_ret X83 hx (t := (.object "java/lang/Object")) hret hlk rfl (Or.inr (Or.inr (Or.inr (Or.inr ⟨rfl, rfl, rfl⟩)))) (hb hby own_d29_14) (by decide) (by decide) ⟨rfl, e83, rfl⟩
set_option maxRecDepth 65536 in
set_option maxHeartbeats 40000000 in
theorem rmG1 (l : Launch) (Z : State) (a0 : Array Value) (hw : ∀ d ∈ tables_1, d.before a0 Z = true) (b : Addr) (q : Int32) (h0 : Heap) (n0 : Nat) (Z0 : n0 ≤ h0.size) (dc : Addr) (mc : Int32) (hq : ¬ (10 : Int32) < q) (E_b : Exa Z h0 b "java/util/ArrayList") (F_m : Fld Z h0 b "java/util/AbstractList" "modCount" "I" (.int mc)) (F_e : Fld Z h0 b "java/util/ArrayList" "elementData" "[Ljava/lang/Object;" (.ref dc)) (F_s : Fld Z h0 b "java/util/ArrayList" "size" "I" (.int (0 : Int32))) (g_b : n0 ≤ b) (O : Old Z n0 h0) (S_dc : Sta Z Z.heap "java/util/ArrayList" "DEFAULTCAPACITY_EMPTY_ELEMENTDATA" "[Ljava/lang/Object;" (.ref dc)) (A_dc : OArr Z Z.heap dc (.object "java/lang/Object") 0 (fun _ => .null)) :
    OMet l Z (⟨"java/util/ArrayList", "grow", "(I)[Ljava/lang/Object;"⟩ : MethodName) jdk_38_method_6_code 4 (some (.array (.object "java/lang/Object"))) (⟨1, 1, 10, 14⟩ : Room) #[(.ref b), (.int q)] h0 (fun v h L => ∃ ar, v = some (.ref ar) ∧ Fr n0 L ∧ Keep h0 h [b] ∧ h0.size ≤ ar ∧ BL Z h b ar mc (0 : Int32) (fun _ => .null)) := by
  refine own_enter own_pn26 ?_
  intro p e s m below meth c T0 X0 hC e0
  obtain ⟨hx, hZ, hby, hml, hown, hret, hlk, hnm⟩ := hC
  have hown : s.vm.findClass "java/util/ArrayList" = some m.cls := hown
  refine own_at (own_ef26_RI m b q) ?_
  show OFin p e below s _ _ _ (T0.setTop (mkF m 0 #[.val (.ref b), .val (.int q), .unset, .unset] []))
  have N0 := Fr.nil n0
  have kp0 := Keep.refl h0 [b]
  refine own_st (fun _ kS => XS.aloadN X0.here hx rfl (hb hby own_d26_0) rfl rfl kS) ?_
  show OFin p e below s _ _ _ (T0.setTop (mkF m 1 #[.val (.ref b), .val (.int q), .unset, .unset] [(.ref b)]))
  obtain ⟨T84, X84, e84, st84⟩ := getF X0 hx hZ hown (host := "") (Or.inl (own_w hw 79 rfl)) Via.refl e0 F_e (g := (mkF m 1 #[.val (.ref b), .val (.int q), .unset, .unset] [(.ref b)])) rfl rfl (hb hby own_d26_1)
  refine own_st (st84) ?_
  clear st84 X0 e0
  show OFin p e below s _ _ _ (T84.setTop (mkF m 4 #[.val (.ref b), .val (.int q), .unset, .unset] [(.ref dc)]))
  obtain ⟨cl85, Ar85, S85, B85, H85⟩ := id (A_dc.ext O.2)
  have hl85 := own_len S85 (rfl : _ = (0 : Int32))
  refine own_st (X84.arraylength hx (by rw [e84]; exact Ar85.1) (State.isArrayOf_alike hZ.alike Ar85.2.1) (g := (mkF m 4 #[.val (.ref b), .val (.int q), .unset, .unset] [(.ref dc)])) rfl rfl (hb hby own_d26_4)) ?_
  rw [hl85]
  clear hl85 Ar85 S85 B85
  show OFin p e below s _ _ _ (T84.setTop (mkF m 5 #[.val (.ref b), .val (.int q), .unset, .unset] [(.int (0 : Int32))]))
  refine own_st (fun _ kS => XS.istoreN X84.here hx rfl (hb hby own_d26_5) rfl (l' := #[.val (.ref b), .val (.int q), .val (.int (0 : Int32)), .unset]) rfl kS) ?_
  show OFin p e below s _ _ _ (T84.setTop (mkF m 6 #[.val (.ref b), .val (.int q), .val (.int (0 : Int32)), .unset] []))
  refine own_st (fun _ kS => XS.iloadN X84.here hx rfl (hb hby own_d26_6) rfl kS) ?_
  show OFin p e below s _ _ _ (T84.setTop (mkF m 7 #[.val (.ref b), .val (.int q), .val (.int (0 : Int32)), .unset] [(.int (0 : Int32))]))
  refine own_st (fun _ kS => XS.ifNo X84.here hx rfl (hb hby own_d26_7) rfl ((if0 _ _).trans (flt (by decide)).2.2.1) kS) ?_
  show OFin p e below s _ _ _ (T84.setTop (mkF m 10 #[.val (.ref b), .val (.int q), .val (.int (0 : Int32)), .unset] []))
  refine own_st (fun _ kS => XS.aloadN X84.here hx rfl (hb hby own_d26_10) rfl rfl kS) ?_
  show OFin p e below s _ _ _ (T84.setTop (mkF m 11 #[.val (.ref b), .val (.int q), .val (.int (0 : Int32)), .unset] [(.ref b)]))
  obtain ⟨T86, X86, e86, st86⟩ := getF X84 hx hZ hown (host := "") (Or.inl (own_w hw 79 rfl)) Via.refl e84 F_e (g := (mkF m 11 #[.val (.ref b), .val (.int q), .val (.int (0 : Int32)), .unset] [(.ref b)])) rfl rfl (hb hby own_d26_11)
  refine own_st (st86) ?_
  clear st86 X84 e84
  show OFin p e below s _ _ _ (T86.setTop (mkF m 14 #[.val (.ref b), .val (.int q), .val (.int (0 : Int32)), .unset] [(.ref dc)]))
  obtain ⟨T87, X87, e87, st87⟩ := getS2 X86 hx hZ hown (host := "") (Or.inl (own_w hw 78 rfl)) Via.refl e86 (Sta.ext O.2 S_dc) (g := (mkF m 14 #[.val (.ref b), .val (.int q), .val (.int (0 : Int32)), .unset] [(.ref dc)])) rfl (hb hby own_d26_14)
  refine own_st (st87) ?_
  clear st87 X86 e86
  show OFin p e below s _ _ _ (T87.setTop (mkF m 17 #[.val (.ref b), .val (.int q), .val (.int (0 : Int32)), .unset] [(.ref dc), (.ref dc)]))
  refine own_st (fun _ kS => Jvm.RoadKit.acmp (g := (mkF m 17 #[.val (.ref b), .val (.int q), .val (.int (0 : Int32)), .unset] [(.ref dc), (.ref dc)])) X87 hx rfl rfl rfl (pc0 := 17) (pc' := 45) (same := true) rfl (hb hby own_d26_17) rfl (decide_eq_true rfl) (by decide) (by decide) kS) ?_
  show OFin p e below s _ _ _ (T87.setTop (mkF m 45 #[.val (.ref b), .val (.int q), .val (.int (0 : Int32)), .unset] []))
  refine own_st (fun _ kS => XS.aloadN X87.here hx rfl (hb hby own_d26_45) rfl rfl kS) ?_
  show OFin p e below s _ _ _ (T87.setTop (mkF m 46 #[.val (.ref b), .val (.int q), .val (.int (0 : Int32)), .unset] [(.ref b)]))
  refine own_st (fun _ kS => XS.bipush X87.here hx rfl (hb hby own_d26_46) kS) ?_
  show OFin p e below s _ _ _ (T87.setTop (mkF m 48 #[.val (.ref b), .val (.int q), .val (.int (0 : Int32)), .unset] [(.int (10 : Int32)), (.ref b)]))
  refine own_st (fun _ kS => XS.iloadN X87.here hx rfl (hb hby own_d26_48) rfl kS) ?_
  show OFin p e below s _ _ _ (T87.setTop (mkF m 49 #[.val (.ref b), .val (.int q), .val (.int (0 : Int32)), .unset] [(.int q), (.int (10 : Int32)), (.ref b)]))
  obtain ⟨v88, T88, L88, X88, hQ88, st88⟩ := own_static X87 hx hZ (y := (⟨"java/lang/Math", "max", "(II)I"⟩ : MethodName)) (rm := ⟨0, 0, 0, 0⟩) (W := 1) (argsL := [(.int (10 : Int32)), (.int q)]) (rest := [(.ref b)]) hown (own_w hw 176 rfl) (own_w hw 177 rfl) (own_w hw 178 rfl) (own_w hw 179 rfl) (rmMax l Z a0 hw (10 : Int32) q h0 hq) e87 (g := (mkF m 49 #[.val (.ref b), .val (.int q), .val (.int (0 : Int32)), .unset] [(.int q), (.int (10 : Int32)), (.ref b)])) rfl (by rw [hml]; rfl) (lenOf own_pd10 rfl) rfl (by show 2 * 0 + _ ≤ _; exact Nat.le_of_eq rfl) (hb hby own_d26_49) (by decide) (by decide) (by decide) (by decide)
  obtain ⟨rfl, e88, rfl⟩ := hQ88
  rw [List.append_nil] at X88
  refine own_st (st88) ?_
  clear st88 X87 e87
  show OFin p e below s _ _ _ (T88.setTop (mkF m 52 #[.val (.ref b), .val (.int q), .val (.int (0 : Int32)), .unset] [(.int (10 : Int32)), (.ref b)]))
  obtain ⟨T89, h89, k89, X89, e89, E89, A89, Ex89, O89, st89⟩ := newRE X88 hx hZ hown (own_w hw 180 rfl) (own_w hw 90 rfl) e88 (g := (mkF m 52 #[.val (.ref b), .val (.int q), .val (.int (0 : Int32)), .unset] [(.int (10 : Int32)), (.ref b)])) rfl (hb hby own_d26_52) rfl (by decide) (cap := 10) (by decide) (by decide) (by decide) (by decide) rfl
  obtain ⟨ar, g89⟩ : ∃ z, z = h0.size := ⟨_, rfl⟩
  rw [← g89] at A89 st89 Ex89
  have ne_b_ar : b ≠ ar := Nat.ne_of_lt (Nat.lt_of_lt_of_le E_b.lt (Nat.le_of_eq g89.symm))
  have g_ar : n0 ≤ ar := Nat.le_trans Z0 (Nat.le_of_eq g89.symm)
  have od89 := O.ext E89
  have f90 := E_b.ext E89
  have f91 := F_m.ext E89
  have f92 := F_e.ext E89
  have f93 := F_s.ext E89
  have f94 : ORef Z h89 ar (.object "java/lang/Object") "java/lang/Object" 10 (fun _ => .null) := ORef.new A89 O89 rfl
  have sz89 : n0 ≤ h89.size := Nat.le_trans Z0 E89.1
  have kp89 := kp0.ext E89
  have kz_ar := Nat.le_trans kp0.1 (Nat.le_of_eq g89.symm)
  clear kp0
  refine own_st (st89) ?_
  clear st89 X88 e88 E89 g89
  show OFin p e below s _ _ _ (T89.setTop (mkF m 55 #[.val (.ref b), .val (.int q), .val (.int (0 : Int32)), .unset] [(.ref ar), (.ref b)]))
  refine own_st (fun _ kS => XS.dupX1 X89.here hx rfl (hb hby own_d26_55) rfl rfl rfl kS) ?_
  show OFin p e below s _ _ _ (T89.setTop (mkF m 56 #[.val (.ref b), .val (.int q), .val (.int (0 : Int32)), .unset] [(.ref ar), (.ref b), (.ref ar)]))
  obtain ⟨T95, h95, X95, e95, W95, st95⟩ := putF X89 hx hZ hown (host := "") (Or.inl (own_w hw 79 rfl)) Via.refl e89 f92 f90 (Or.inl (own_w hw 80 rfl)) (own_w hw 58 rfl) (ty := (.array (.object "java/lang/Object"))) (by decide) rfl rfl (g := (mkF m 56 #[.val (.ref b), .val (.int q), .val (.int (0 : Int32)), .unset] [(.ref ar), (.ref b), (.ref ar)])) rfl rfl (hb hby own_d26_56)
  have f96 := f92.same W95
  have od95 := od89.wr W95 g_b
  clear od89
  have f97 := f90.wr W95
  clear f90
  have f98 := f91.other W95 (Or.inr (slot_ne (Or.inl (own_w hw 77 rfl)) (Or.inl (own_w hw 80 rfl)) (by decide) (t := .int) (t' := (.array (.object "java/lang/Object"))) (by decide) (by decide)))
  clear f91
  have f100 := f93.other W95 (Or.inr (slot_ne (Or.inl (own_w hw 160 rfl)) (Or.inl (own_w hw 80 rfl)) (by decide) (t := .int) (t' := (.array (.object "java/lang/Object"))) (by decide) (by decide)))
  clear f93
  have f101 := f94.other W95 (Ne.symm ne_b_ar)
  clear f94
  have f102 := Ex89.wr W95
  clear Ex89
  have sz95 : n0 ≤ h95.size := by rw [W95.size]; exact sz89
  clear sz89
  have fr95 := Fr.snoc X95 N0 g_b
  clear N0
  have kp95 := kp89.wr W95 (Or.inl (List.mem_of_getElem? (i := 0) rfl))
  clear kp89
  refine own_st (st95) ?_
  clear st95 X89 e89 W95 f92
  show OFin p e below s _ _ _ (T95.setTop (mkF m 59 #[.val (.ref b), .val (.int q), .val (.int (0 : Int32)), .unset] [(.ref ar)]))
  exact own_ret X95 hx (t := (.array (.object "java/lang/Object"))) hret hlk rfl (Or.inr (Or.inr (Or.inr (Or.inr ⟨rfl, rfl, rfl⟩)))) (hb hby own_d26_59) (by decide) (by decide) (by show ∃ ar, _ ∧ _ ∧ Keep h0 T95.heap _ ∧ _; rw [e95]; exact ⟨ar, rfl, fr95, kp95, kz_ar, ⟨f97, f98, f96, f100, f101⟩⟩)
set_option maxRecDepth 65536 in
set_option maxHeartbeats 40000000 in
theorem rmG0 (l : Launch) (Z : State) (a0 : Array Value) (hw : ∀ d ∈ tables_1, d.before a0 Z = true) (b : Addr) (h0 : Heap) (n0 : Nat) (Z0 : n0 ≤ h0.size) (dc : Addr) (mc : Int32) (E_b : Exa Z h0 b "java/util/ArrayList") (F_m : Fld Z h0 b "java/util/AbstractList" "modCount" "I" (.int mc)) (F_e : Fld Z h0 b "java/util/ArrayList" "elementData" "[Ljava/lang/Object;" (.ref dc)) (F_s : Fld Z h0 b "java/util/ArrayList" "size" "I" (.int (0 : Int32))) (g_b : n0 ≤ b) (O : Old Z n0 h0) (S_dc : Sta Z Z.heap "java/util/ArrayList" "DEFAULTCAPACITY_EMPTY_ELEMENTDATA" "[Ljava/lang/Object;" (.ref dc)) (A_dc : OArr Z Z.heap dc (.object "java/lang/Object") 0 (fun _ => .null)) :
    OMet l Z (⟨"java/util/ArrayList", "grow", "()[Ljava/lang/Object;"⟩ : MethodName) jdk_38_method_7_code 1 (some (.array (.object "java/lang/Object"))) (⟨2, 1, 10, 29⟩ : Room) #[(.ref b)] h0 (fun v h L => ∃ ar, v = some (.ref ar) ∧ Fr n0 L ∧ Keep h0 h [b] ∧ h0.size ≤ ar ∧ BL Z h b ar mc (0 : Int32) (fun _ => .null)) := by
  refine own_enter own_pn25 ?_
  intro p e s m below meth c T0 X0 hC e0
  obtain ⟨hx, hZ, hby, hml, hown, hret, hlk, hnm⟩ := hC
  have hown : s.vm.findClass "java/util/ArrayList" = some m.cls := hown
  refine own_at (own_ef25_R m b) ?_
  show OFin p e below s _ _ _ (T0.setTop (mkF m 0 #[.val (.ref b)] []))
  have N0 := Fr.nil n0
  have kp0 := Keep.refl h0 [b]
  refine own_st (fun _ kS => XS.aloadN X0.here hx rfl (hb hby own_d25_0) rfl rfl kS) ?_
  show OFin p e below s _ _ _ (T0.setTop (mkF m 1 #[.val (.ref b)] [(.ref b)]))
  refine own_st (fun _ kS => XS.aloadN X0.here hx rfl (hb hby own_d25_1) rfl rfl kS) ?_
  show OFin p e below s _ _ _ (T0.setTop (mkF m 2 #[.val (.ref b)] [(.ref b), (.ref b)]))
  obtain ⟨T103, X103, e103, st103⟩ := getF X0 hx hZ hown (host := "") (Or.inl (own_w hw 159 rfl)) Via.refl e0 F_s (g := (mkF m 2 #[.val (.ref b)] [(.ref b), (.ref b)])) rfl rfl (hb hby own_d25_2)
  refine own_st (st103) ?_
  clear st103 X0 e0
  show OFin p e below s _ _ _ (T103.setTop (mkF m 5 #[.val (.ref b)] [(.int (0 : Int32)), (.ref b)]))
  refine own_st (fun _ kS => XS.iconst X103.here hx rfl (hb hby own_d25_5) kS) ?_
  show OFin p e below s _ _ _ (T103.setTop (mkF m 6 #[.val (.ref b)] [(.int (1 : Int32)), (.int (0 : Int32)), (.ref b)]))
  refine own_st (fun _ kS => XS.iadd X103.here hx rfl (hb hby own_d25_6) rfl kS) ?_
  show OFin p e below s _ _ _ (T103.setTop (mkF m 7 #[.val (.ref b)] [(.int ((0 : Int32) + (1 : Int32))), (.ref b)]))
  obtain ⟨v104, T104, L104, X104, hQ104, st104⟩ := own_private X103 hx hZ (y := (⟨"java/util/ArrayList", "grow", "(I)[Ljava/lang/Object;"⟩ : MethodName)) (rm := ⟨1, 1, 10, 14⟩) (W := 0) (a := b) (argsL := [(.int ((0 : Int32) + (1 : Int32)))]) (rest := []) hown (own_w hw 171 rfl) (own_w hw 172 rfl) (own_w hw 173 rfl) (own_w hw 164 rfl) rfl (own_w hw 59 rfl) (own_w hw 175 rfl) (rmG1 l Z a0 hw b _ h0 n0 Z0 dc mc (by decide) E_b F_m F_e F_s g_b O S_dc A_dc) e103 E_b (g := (mkF m 7 #[.val (.ref b)] [(.int ((0 : Int32) + (1 : Int32))), (.ref b)])) rfl (by rw [hml]; rfl) (lenOf own_pd12 rfl) rfl (by show 2 * 0 + _ ≤ _; exact Nat.le_of_eq rfl) (hb hby own_d25_7) (by decide) (by decide) (by decide) (by decide)
  obtain ⟨ar, rfl, N104, K104, ge_ar, BB104⟩ := hQ104
  have ne_b_ar : b ≠ ar := Nat.ne_of_lt (Nat.lt_of_lt_of_le E_b.lt ge_ar)
  have g_ar : n0 ≤ ar := Nat.le_trans Z0 ge_ar
  have kz_ar := Nat.le_trans kp0.1 ge_ar
  have fr104 := Fr.app N0 N104
  clear N0
  have kp104 := kp0.trans K104 (allS (Or.inl (List.mem_of_getElem? (i := 0) rfl)) all0)
  clear kp0
  have od104 := O.keep K104 (allS g_b all0)
  have f105 := E_b.keep K104
  have sz104 : n0 ≤ T104.heap.size := Nat.le_trans Z0 K104.1
  obtain ⟨u109, u110, u111, u112, u113⟩ := BB104
  refine own_st (st104) ?_
  clear st104 X103 e103
  show OFin p e below s _ _ _ (T104.setTop (mkF m 10 #[.val (.ref b)] [(.ref ar)]))
  exact own_ret X104 hx (t := (.array (.object "java/lang/Object"))) hret hlk rfl (Or.inr (Or.inr (Or.inr (Or.inr ⟨rfl, rfl, rfl⟩)))) (hb hby own_d25_10) (by decide) (by decide) (by show ∃ ar, _ ∧ _ ∧ Keep h0 T104.heap _ ∧ _; exact ⟨ar, rfl, fr104, kp104, kz_ar, ⟨u109, u110, u111, u112, u113⟩⟩)
set_option maxRecDepth 65536 in
set_option maxHeartbeats 40000000 in
theorem rmA30 (l : Launch) (Z : State) (a0 : Array Value) (hw : ∀ d ∈ tables_1, d.before a0 Z = true) (b : Addr) (x : Addr) (dc : Addr) (q : Int32) (h0 : Heap) (n0 : Nat) (Z0 : n0 ≤ h0.size) (mc : Int32) (hq : q = (0 : Int32)) (E_b : Exa Z h0 b "java/util/ArrayList") (F_m : Fld Z h0 b "java/util/AbstractList" "modCount" "I" (.int mc)) (F_e : Fld Z h0 b "java/util/ArrayList" "elementData" "[Ljava/lang/Object;" (.ref dc)) (F_s : Fld Z h0 b "java/util/ArrayList" "size" "I" (.int (0 : Int32))) (g_b : n0 ≤ b) (E_x : Exa Z h0 x "com/example/unify_trace/unifytrace/program/Type") (O : Old Z n0 h0) (S_dc : Sta Z Z.heap "java/util/ArrayList" "DEFAULTCAPACITY_EMPTY_ELEMENTDATA" "[Ljava/lang/Object;" (.ref dc)) (A_dc : OArr Z Z.heap dc (.object "java/lang/Object") 0 (fun _ => .null)) :
    OMet l Z (⟨"java/util/ArrayList", "add", "(Ljava/lang/Object;[Ljava/lang/Object;I)V"⟩ : MethodName) jdk_38_method_24_code 4 none (⟨3, 1, 10, 41⟩ : Room) #[(.ref b), (.ref x), (.ref dc), (.int q)] h0 (fun v h L => v = none ∧ Fr n0 L ∧ Keep h0 h [b] ∧ ∃ ar, h0.size ≤ ar ∧ BL Z h b ar mc (1 : Int32) (fun i => if i = 0 then .ref x else (fun _ => .null) i)) := by
  refine own_enter own_pn24 ?_
  intro p e s m below meth c T0 X0 hC e0
  obtain ⟨hx, hZ, hby, hml, hown, hret, hlk, hnm⟩ := hC
  have hown : s.vm.findClass "java/util/ArrayList" = some m.cls := hown
  refine own_at (own_ef24_RRRI m b x dc q) ?_
  show OFin p e below s _ _ _ (T0.setTop (mkF m 0 #[.val (.ref b), .val (.ref x), .val (.ref dc), .val (.int q)] []))
  have N0 := Fr.nil n0
  have kp0 := Keep.refl h0 [b]
  refine own_st (fun _ kS => XS.iloadN X0.here hx rfl (hb hby own_d24_0) rfl kS) ?_
  show OFin p e below s _ _ _ (T0.setTop (mkF m 1 #[.val (.ref b), .val (.ref x), .val (.ref dc), .val (.int q)] [(.int q)]))
  refine own_st (fun _ kS => XS.aloadN X0.here hx rfl (hb hby own_d24_1) rfl rfl kS) ?_
  show OFin p e below s _ _ _ (T0.setTop (mkF m 2 #[.val (.ref b), .val (.ref x), .val (.ref dc), .val (.int q)] [(.ref dc), (.int q)]))
  obtain ⟨cl114, Ar114, S114, B114, H114⟩ := id (A_dc.ext O.2)
  have hl114 := own_len S114 (rfl : _ = (0 : Int32))
  refine own_st (X0.arraylength hx (by rw [e0]; exact Ar114.1) (State.isArrayOf_alike hZ.alike Ar114.2.1) (g := (mkF m 2 #[.val (.ref b), .val (.ref x), .val (.ref dc), .val (.int q)] [(.ref dc), (.int q)])) rfl rfl (hb hby own_d24_2)) ?_
  rw [hl114]
  clear hl114 Ar114 S114 B114
  show OFin p e below s _ _ _ (T0.setTop (mkF m 3 #[.val (.ref b), .val (.ref x), .val (.ref dc), .val (.int q)] [(.int (0 : Int32)), (.int q)]))
  refine own_st (fun _ kS => XS.icmpNo X0.here hx rfl (hb hby own_d24_3) rfl (teq hq).2 kS) ?_
  show OFin p e below s _ _ _ (T0.setTop (mkF m 6 #[.val (.ref b), .val (.ref x), .val (.ref dc), .val (.int q)] []))
  refine own_st (fun _ kS => XS.aloadN X0.here hx rfl (hb hby own_d24_6) rfl rfl kS) ?_
  show OFin p e below s _ _ _ (T0.setTop (mkF m 7 #[.val (.ref b), .val (.ref x), .val (.ref dc), .val (.int q)] [(.ref b)]))
  obtain ⟨v115, T115, L115, X115, hQ115, st115⟩ := own_private X0 hx hZ (y := (⟨"java/util/ArrayList", "grow", "()[Ljava/lang/Object;"⟩ : MethodName)) (rm := ⟨2, 1, 10, 29⟩) (W := 0) (a := b) (argsL := []) (rest := []) hown (own_w hw 166 rfl) (own_w hw 167 rfl) (own_w hw 168 rfl) (own_w hw 164 rfl) rfl (own_w hw 59 rfl) (own_w hw 170 rfl) (rmG0 l Z a0 hw b h0 n0 Z0 dc mc E_b F_m F_e F_s g_b O S_dc A_dc) e0 E_b (g := (mkF m 7 #[.val (.ref b), .val (.ref x), .val (.ref dc), .val (.int q)] [(.ref b)])) rfl (by rw [hml]; rfl) (lenOf own_pd13 rfl) rfl (by show 2 * 0 + _ ≤ _; exact Nat.le_of_eq rfl) (hb hby own_d24_7) (by decide) (by decide) (by decide) (by decide)
  obtain ⟨ar, rfl, N115, K115, ge_ar, BB115⟩ := hQ115
  have ne_b_ar : b ≠ ar := Nat.ne_of_lt (Nat.lt_of_lt_of_le E_b.lt ge_ar)
  have ne_x_ar : x ≠ ar := Nat.ne_of_lt (Nat.lt_of_lt_of_le E_x.lt ge_ar)
  have g_ar : n0 ≤ ar := Nat.le_trans Z0 ge_ar
  have kz_ar := Nat.le_trans kp0.1 ge_ar
  have fr115 := Fr.app N0 N115
  clear N0
  have kp115 := kp0.trans K115 (allS (Or.inl (List.mem_of_getElem? (i := 0) rfl)) all0)
  clear kp0
  have od115 := O.keep K115 (allS g_b all0)
  have f116 := E_b.keep K115
  have f120 := E_x.keep K115
  have sz115 : n0 ≤ T115.heap.size := Nat.le_trans Z0 K115.1
  obtain ⟨u121, u122, u123, u124, u125⟩ := BB115
  refine own_st (st115) ?_
  clear st115 X0 e0
  show OFin p e below s _ _ _ (T115.setTop (mkF m 10 #[.val (.ref b), .val (.ref x), .val (.ref dc), .val (.int q)] [(.ref ar)]))
  refine own_st (fun _ kS => XS.astoreN X115.here hx rfl (hb hby own_d24_10) rfl rfl (l' := #[.val (.ref b), .val (.ref x), .val (.ref ar), .val (.int q)]) rfl kS) ?_
  show OFin p e below s _ _ _ (T115.setTop (mkF m 11 #[.val (.ref b), .val (.ref x), .val (.ref ar), .val (.int q)] []))
  refine own_st (fun _ kS => XS.aloadN X115.here hx rfl (hb hby own_d24_11) rfl rfl kS) ?_
  show OFin p e below s _ _ _ (T115.setTop (mkF m 12 #[.val (.ref b), .val (.ref x), .val (.ref ar), .val (.int q)] [(.ref ar)]))
  refine own_st (fun _ kS => XS.iloadN X115.here hx rfl (hb hby own_d24_12) rfl kS) ?_
  show OFin p e below s _ _ _ (T115.setTop (mkF m 13 #[.val (.ref b), .val (.ref x), .val (.ref ar), .val (.int q)] [(.int q), (.ref ar)]))
  refine own_st (fun _ kS => XS.aloadN X115.here hx rfl (hb hby own_d24_13) rfl rfl kS) ?_
  show OFin p e below s _ _ _ (T115.setTop (mkF m 14 #[.val (.ref b), .val (.ref x), .val (.ref ar), .val (.int q)] [(.ref x), (.int q), (.ref ar)]))
  obtain ⟨cl126, Ar126, S126, B126, H126, O126⟩ := id u125
  obtain ⟨T126, h126, X126, e126, W126, st126⟩ := stR X115 hx hZ rfl Ar126 (j := q) (own_inb S126 (by rw [hq]; decide) (by rw [hq]) (by decide)) rfl (own_sto Ar126 O126 (Ins.of_exa f120 (own_w hw 112 rfl))) (g := (mkF m 14 #[.val (.ref b), .val (.ref x), .val (.ref ar), .val (.int q)] [(.ref x), (.int q), (.ref ar)])) rfl rfl (hb hby own_d24_14)
  have V126 := own_wrj W126 (by rw [hq])
  have f127 := (u125).set V126
  have od126 := od115.wr W126 g_ar
  clear od115
  have f128 := u121.wr W126
  clear u121
  have f129 := f120.wr W126
  clear f120
  have f130 := u122.other W126 (Or.inl ne_b_ar)
  clear u122
  have f131 := u123.other W126 (Or.inl ne_b_ar)
  clear u123
  have f132 := u124.other W126 (Or.inl ne_b_ar)
  clear u124
  have sz126 : n0 ≤ h126.size := by rw [W126.size]; exact sz115
  clear sz115
  have fr126 := Fr.snoc X126 fr115 g_ar
  clear fr115
  have kp126 := kp115.wr W126 (Or.inr kz_ar)
  clear kp115
  refine own_st (st126) ?_
  clear st126 X115 W126 V126 Ar126 S126 B126 H126 O126 u125
  show OFin p e below s _ _ _ (T126.setTop (mkF m 15 #[.val (.ref b), .val (.ref x), .val (.ref ar), .val (.int q)] []))
  refine own_st (fun _ kS => XS.aloadN X126.here hx rfl (hb hby own_d24_15) rfl rfl kS) ?_
  show OFin p e below s _ _ _ (T126.setTop (mkF m 16 #[.val (.ref b), .val (.ref x), .val (.ref ar), .val (.int q)] [(.ref b)]))
  refine own_st (fun _ kS => XS.iloadN X126.here hx rfl (hb hby own_d24_16) rfl kS) ?_
  show OFin p e below s _ _ _ (T126.setTop (mkF m 17 #[.val (.ref b), .val (.ref x), .val (.ref ar), .val (.int q)] [(.int q), (.ref b)]))
  refine own_st (fun _ kS => XS.iconst X126.here hx rfl (hb hby own_d24_17) kS) ?_
  show OFin p e below s _ _ _ (T126.setTop (mkF m 18 #[.val (.ref b), .val (.ref x), .val (.ref ar), .val (.int q)] [(.int (1 : Int32)), (.int q), (.ref b)]))
  refine own_st (fun _ kS => XS.iadd X126.here hx rfl (hb hby own_d24_18) rfl kS) ?_
  show OFin p e below s _ _ _ (T126.setTop (mkF m 19 #[.val (.ref b), .val (.ref x), .val (.ref ar), .val (.int q)] [(.int (q + (1 : Int32))), (.ref b)]))
  rw [show q + (1 : Int32) = 1 from by rw [hq]; rfl]
  show OFin p e below s _ _ _ (T126.setTop (mkF m 19 #[.val (.ref b), .val (.ref x), .val (.ref ar), .val (.int q)] [(.int (1 : Int32)), (.ref b)]))
  obtain ⟨T134, h134, X134, e134, W134, st134⟩ := putF X126 hx hZ hown (host := "") (Or.inl (own_w hw 159 rfl)) Via.refl e126 f132 f128 (Or.inl (own_w hw 160 rfl)) (own_w hw 58 rfl) (ty := .int) (by decide) rfl rfl (g := (mkF m 19 #[.val (.ref b), .val (.ref x), .val (.ref ar), .val (.int q)] [(.int (1 : Int32)), (.ref b)])) rfl rfl (hb hby own_d24_19)
  have f135 := f132.same W134
  have od134 := od126.wr W134 g_b
  clear od126
  have f136 := f128.wr W134
  clear f128
  have f137 := f129.wr W134
  clear f129
  have f138 := f130.other W134 (Or.inr (slot_ne (Or.inl (own_w hw 77 rfl)) (Or.inl (own_w hw 160 rfl)) (by decide) (t := .int) (t' := .int) (by decide) (by decide)))
  clear f130
  have f139 := f131.other W134 (Or.inr (slot_ne (Or.inl (own_w hw 80 rfl)) (Or.inl (own_w hw 160 rfl)) (by decide) (t := (.array (.object "java/lang/Object"))) (t' := .int) (by decide) (by decide)))
  clear f131
  have f141 := f127.other W134 (Ne.symm ne_b_ar)
  clear f127
  have sz134 : n0 ≤ h134.size := by rw [W134.size]; exact sz126
  clear sz126
  have fr134 := Fr.snoc X134 fr126 g_b
  clear fr126
  have kp134 := kp126.wr W134 (Or.inl (List.mem_of_getElem? (i := 0) rfl))
  clear kp126
  refine own_st (st134) ?_
  clear st134 X126 e126 W134 f132
  show OFin p e below s _ _ _ (T134.setTop (mkF m 22 #[.val (.ref b), .val (.ref x), .val (.ref ar), .val (.int q)] []))
  exact own_retV X134 hx hret hlk (hb hby own_d24_22) (by decide) (by decide) (by show _ ∧ _ ∧ Keep h0 T134.heap _ ∧ _; rw [e134]; exact ⟨rfl, fr134, kp134, ar, kz_ar, ⟨f136, f138, f139, f135, f141⟩⟩)
set_option maxRecDepth 65536 in
set_option maxHeartbeats 40000000 in
theorem rmA0 (l : Launch) (Z : State) (a0 : Array Value) (hw : ∀ d ∈ tables_1, d.before a0 Z = true) (b : Addr) (x : Addr) (h0 : Heap) (n0 : Nat) (Z0 : n0 ≤ h0.size) (dc : Addr) (E_b : Exa Z h0 b "java/util/ArrayList") (F_m : Fld Z h0 b "java/util/AbstractList" "modCount" "I" (.int (0 : Int32))) (F_e : Fld Z h0 b "java/util/ArrayList" "elementData" "[Ljava/lang/Object;" (.ref dc)) (F_s : Fld Z h0 b "java/util/ArrayList" "size" "I" (.int (0 : Int32))) (g_b : n0 ≤ b) (E_x : Exa Z h0 x "com/example/unify_trace/unifytrace/program/Type") (O : Old Z n0 h0) (S_dc : Sta Z Z.heap "java/util/ArrayList" "DEFAULTCAPACITY_EMPTY_ELEMENTDATA" "[Ljava/lang/Object;" (.ref dc)) (A_dc : OArr Z Z.heap dc (.object "java/lang/Object") 0 (fun _ => .null)) :
    OMet l Z (⟨"java/util/ArrayList", "add", "(Ljava/lang/Object;)Z"⟩ : MethodName) jdk_38_method_25_code 2 (some .boolean) (⟨4, 1, 10, 56⟩ : Room) #[(.ref b), (.ref x)] h0 (fun v h L => v = some (.int (1 : Int32)) ∧ Fr n0 L ∧ Keep h0 h [b] ∧ ∃ ar, h0.size ≤ ar ∧ BL Z h b ar (1 : Int32) (1 : Int32) (fun i => if i = 0 then .ref x else (fun _ => .null) i)) := by
  refine own_enter own_pn23 ?_
  intro p e s m below meth c T0 X0 hC e0
  obtain ⟨hx, hZ, hby, hml, hown, hret, hlk, hnm⟩ := hC
  have hown : s.vm.findClass "java/util/ArrayList" = some m.cls := hown
  refine own_at (own_ef23_RR m b x) ?_
  show OFin p e below s _ _ _ (T0.setTop (mkF m 0 #[.val (.ref b), .val (.ref x)] []))
  have N0 := Fr.nil n0
  have kp0 := Keep.refl h0 [b]
  refine own_st (fun _ kS => XS.aloadN X0.here hx rfl (hb hby own_d23_0) rfl rfl kS) ?_
  show OFin p e below s _ _ _ (T0.setTop (mkF m 1 #[.val (.ref b), .val (.ref x)] [(.ref b)]))
  refine own_st (fun _ kS => XS.dup X0.here hx rfl (hb hby own_d23_1) rfl rfl kS) ?_
  show OFin p e below s _ _ _ (T0.setTop (mkF m 2 #[.val (.ref b), .val (.ref x)] [(.ref b), (.ref b)]))
  obtain ⟨T142, X142, e142, st142⟩ := getF X0 hx hZ hown (host := "") (Or.inl (own_w hw 157 rfl)) (Via.of (own_w hw 158 rfl)) e0 F_m (g := (mkF m 2 #[.val (.ref b), .val (.ref x)] [(.ref b), (.ref b)])) rfl rfl (hb hby own_d23_2)
  refine own_st (st142) ?_
  clear st142 X0 e0
  show OFin p e below s _ _ _ (T142.setTop (mkF m 5 #[.val (.ref b), .val (.ref x)] [(.int (0 : Int32)), (.ref b)]))
  refine own_st (fun _ kS => XS.iconst X142.here hx rfl (hb hby own_d23_5) kS) ?_
  show OFin p e below s _ _ _ (T142.setTop (mkF m 6 #[.val (.ref b), .val (.ref x)] [(.int (1 : Int32)), (.int (0 : Int32)), (.ref b)]))
  refine own_st (fun _ kS => XS.iadd X142.here hx rfl (hb hby own_d23_6) rfl kS) ?_
  show OFin p e below s _ _ _ (T142.setTop (mkF m 7 #[.val (.ref b), .val (.ref x)] [(.int ((0 : Int32) + (1 : Int32))), (.ref b)]))
  rw [show ((0 : Int32) + (1 : Int32)) = (1 : Int32) from by decide]
  show OFin p e below s _ _ _ (T142.setTop (mkF m 7 #[.val (.ref b), .val (.ref x)] [(.int ((1 : Int32))), (.ref b)]))
  obtain ⟨T143, h143, X143, e143, W143, st143⟩ := putF X142 hx hZ hown (host := "") (Or.inl (own_w hw 157 rfl)) (Via.of (own_w hw 158 rfl)) e142 F_m E_b (Or.inl (own_w hw 77 rfl)) (own_w hw 58 rfl) (ty := .int) (by decide) rfl rfl (g := (mkF m 7 #[.val (.ref b), .val (.ref x)] [(.int (1 : Int32)), (.ref b)])) rfl rfl (hb hby own_d23_7)
  have f144 := F_m.same W143
  have od143 := O.wr W143 g_b
  have f145 := E_b.wr W143
  have f147 := F_e.other W143 (Or.inr (slot_ne (Or.inl (own_w hw 80 rfl)) (Or.inl (own_w hw 77 rfl)) (by decide) (t := (.array (.object "java/lang/Object"))) (t' := .int) (by decide) (by decide)))
  have f148 := F_s.other W143 (Or.inr (slot_ne (Or.inl (own_w hw 160 rfl)) (Or.inl (own_w hw 77 rfl)) (by decide) (t := .int) (t' := .int) (by decide) (by decide)))
  have f149 := E_x.wr W143
  have sz143 : n0 ≤ h143.size := by rw [W143.size]; exact Z0
  have fr143 := Fr.snoc X143 N0 g_b
  clear N0
  have kp143 := kp0.wr W143 (Or.inl (List.mem_of_getElem? (i := 0) rfl))
  clear kp0
  refine own_st (st143) ?_
  clear st143 X142 e142 W143
  show OFin p e below s _ _ _ (T143.setTop (mkF m 10 #[.val (.ref b), .val (.ref x)] []))
  refine own_st (fun _ kS => XS.aloadN X143.here hx rfl (hb hby own_d23_10) rfl rfl kS) ?_
  show OFin p e below s _ _ _ (T143.setTop (mkF m 11 #[.val (.ref b), .val (.ref x)] [(.ref b)]))
  refine own_st (fun _ kS => XS.aloadN X143.here hx rfl (hb hby own_d23_11) rfl rfl kS) ?_
  show OFin p e below s _ _ _ (T143.setTop (mkF m 12 #[.val (.ref b), .val (.ref x)] [(.ref x), (.ref b)]))
  refine own_st (fun _ kS => XS.aloadN X143.here hx rfl (hb hby own_d23_12) rfl rfl kS) ?_
  show OFin p e below s _ _ _ (T143.setTop (mkF m 13 #[.val (.ref b), .val (.ref x)] [(.ref b), (.ref x), (.ref b)]))
  obtain ⟨T150, X150, e150, st150⟩ := getF X143 hx hZ hown (host := "") (Or.inl (own_w hw 79 rfl)) Via.refl e143 f147 (g := (mkF m 13 #[.val (.ref b), .val (.ref x)] [(.ref b), (.ref x), (.ref b)])) rfl rfl (hb hby own_d23_13)
  refine own_st (st150) ?_
  clear st150 X143 e143
  show OFin p e below s _ _ _ (T150.setTop (mkF m 16 #[.val (.ref b), .val (.ref x)] [(.ref dc), (.ref x), (.ref b)]))
  refine own_st (fun _ kS => XS.aloadN X150.here hx rfl (hb hby own_d23_16) rfl rfl kS) ?_
  show OFin p e below s _ _ _ (T150.setTop (mkF m 17 #[.val (.ref b), .val (.ref x)] [(.ref b), (.ref dc), (.ref x), (.ref b)]))
  obtain ⟨T151, X151, e151, st151⟩ := getF X150 hx hZ hown (host := "") (Or.inl (own_w hw 159 rfl)) Via.refl e150 f148 (g := (mkF m 17 #[.val (.ref b), .val (.ref x)] [(.ref b), (.ref dc), (.ref x), (.ref b)])) rfl rfl (hb hby own_d23_17)
  refine own_st (st151) ?_
  clear st151 X150 e150
  show OFin p e below s _ _ _ (T151.setTop (mkF m 20 #[.val (.ref b), .val (.ref x)] [(.int (0 : Int32)), (.ref dc), (.ref x), (.ref b)]))
  obtain ⟨v152, T152, L152, X152, hQ152, st152⟩ := own_private X151 hx hZ (y := (⟨"java/util/ArrayList", "add", "(Ljava/lang/Object;[Ljava/lang/Object;I)V"⟩ : MethodName)) (rm := ⟨3, 1, 10, 41⟩) (W := 0) (a := b) (argsL := [(.ref x), (.ref dc), (.int (0 : Int32))]) (rest := []) hown (own_w hw 161 rfl) (own_w hw 162 rfl) (own_w hw 163 rfl) (own_w hw 164 rfl) rfl (own_w hw 59 rfl) (own_w hw 165 rfl) (rmA30 l Z a0 hw b x dc _ h143 n0 sz143 (1 : Int32) rfl f145 f144 f147 f148 g_b f149 od143 S_dc A_dc) e151 f145 (g := (mkF m 20 #[.val (.ref b), .val (.ref x)] [(.int (0 : Int32)), (.ref dc), (.ref x), (.ref b)])) rfl (by rw [hml]; rfl) (lenOf own_pd14 rfl) rfl (by show 2 * 0 + _ ≤ _; exact Nat.le_of_eq rfl) (hb hby own_d23_20) (by decide) (by decide) (by decide) (by decide)
  obtain ⟨rfl, N152, K152, ar, ge_ar, BB152⟩ := hQ152
  have ne_b_ar : b ≠ ar := Nat.ne_of_lt (Nat.lt_of_lt_of_le f145.lt ge_ar)
  have ne_x_ar : x ≠ ar := Nat.ne_of_lt (Nat.lt_of_lt_of_le f149.lt ge_ar)
  have g_ar : n0 ≤ ar := Nat.le_trans sz143 ge_ar
  have kz_ar := Nat.le_trans kp143.1 ge_ar
  have fr152 := Fr.app fr143 N152
  have kp152 := kp143.trans K152 (allS (Or.inl (List.mem_of_getElem? (i := 0) rfl)) all0)
  refine own_st (st152) ?_
  clear st152 X151 e151
  show OFin p e below s _ _ _ (T152.setTop (mkF m 23 #[.val (.ref b), .val (.ref x)] []))
  refine own_st (fun _ kS => XS.iconst X152.here hx rfl (hb hby own_d23_23) kS) ?_
  show OFin p e below s _ _ _ (T152.setTop (mkF m 24 #[.val (.ref b), .val (.ref x)] [(.int (1 : Int32))]))
  exact own_ret X152 hx (t := .boolean) hret hlk rfl (Or.inl ⟨rfl, by simp, _, rfl⟩) (hb hby own_d23_24) (by decide) (by decide) (by show _ ∧ _ ∧ Keep h0 T152.heap _ ∧ _; exact ⟨rfl, fr152, kp152, ar, kz_ar, BB152⟩)
set_option maxRecDepth 65536 in
set_option maxHeartbeats 40000000 in
theorem rmDI (l : Launch) (Z : State) (a0 : Array Value) (hw : ∀ d ∈ tables_1, d.before a0 Z = true) (dq : Addr) (h0 : Heap) (n0 : Nat) (Z0 : n0 ≤ h0.size) (E_d : Exa Z h0 dq "java/util/ArrayDeque") (F_e : Fld Z h0 dq "java/util/ArrayDeque" "elements" "[Ljava/lang/Object;" .null) (F_h : Fld Z h0 dq "java/util/ArrayDeque" "head" "I" (.int (0 : Int32))) (F_t : Fld Z h0 dq "java/util/ArrayDeque" "tail" "I" (.int (0 : Int32))) (g_dq : n0 ≤ dq) :
    OMet l Z (⟨"java/util/ArrayDeque", "<init>", "()V"⟩ : MethodName) jdk_21_method_3_code 1 none (⟨2, 1, 17, 24⟩ : Room) #[(.ref dq)] h0 (fun v h L => v = none ∧ Fr n0 L ∧ Keep h0 h [dq] ∧ ∃ da, h0.size ≤ da ∧ BD Z h dq da (0 : Int32) (fun _ => .null)) := by
  refine own_enter own_pn13 ?_
  intro p e s m below meth c T0 X0 hC e0
  obtain ⟨hx, hZ, hby, hml, hown, hret, hlk, hnm⟩ := hC
  have hown : s.vm.findClass "java/util/ArrayDeque" = some m.cls := hown
  refine own_at (own_ef13_R m dq) ?_
  show OFin p e below s _ _ _ (T0.setTop (mkF m 0 #[.val (.ref dq)] []))
  have N0 := Fr.nil n0
  have kp0 := Keep.refl h0 [dq]
  refine own_st (fun _ kS => XS.aloadN X0.here hx rfl (hb hby own_d13_0) rfl rfl kS) ?_
  show OFin p e below s _ _ _ (T0.setTop (mkF m 1 #[.val (.ref dq)] [(.ref dq)]))
  obtain ⟨v153, T153, L153, X153, hQ153, st153⟩ := own_init X0 hx hZ (y := (⟨"java/util/AbstractCollection", "<init>", "()V"⟩ : MethodName)) (rm := ⟨1, 0, 0, 12⟩) (W := 0) (a := dq) (argsL := []) (rest := []) rfl hown (own_w hw 87 rfl) (own_w hw 70 rfl) (own_w hw 73 rfl) (own_w hw 74 rfl) (rmAC l Z a0 hw dq h0) e0 (g := (mkF m 1 #[.val (.ref dq)] [(.ref dq)])) rfl (by rw [hml]; rfl) (lenOf own_pd8 rfl) rfl (by show 2 * 0 + _ ≤ _; exact Nat.le_of_eq rfl) (hb hby own_d13_1) (by decide) (by decide) (by decide) (by decide)
  obtain ⟨rfl, e153, rfl⟩ := hQ153
  rw [List.append_nil] at X153
  refine own_st (st153) ?_
  clear st153 X0 e0
  show OFin p e below s _ _ _ (T153.setTop (mkF m 4 #[.val (.ref dq)] []))
  refine own_st (fun _ kS => XS.aloadN X153.here hx rfl (hb hby own_d13_4) rfl rfl kS) ?_
  show OFin p e below s _ _ _ (T153.setTop (mkF m 5 #[.val (.ref dq)] [(.ref dq)]))
  refine own_st (fun _ kS => XS.bipush X153.here hx rfl (hb hby own_d13_5) kS) ?_
  show OFin p e below s _ _ _ (T153.setTop (mkF m 7 #[.val (.ref dq)] [(.int (17 : Int32)), (.ref dq)]))
  obtain ⟨T154, h154, k154, X154, e154, E154, A154, Ex154, O154, st154⟩ := newRE X153 hx hZ hown (own_w hw 89 rfl) (own_w hw 90 rfl) e153 (g := (mkF m 7 #[.val (.ref dq)] [(.int (17 : Int32)), (.ref dq)])) rfl (hb hby own_d13_7) rfl (by decide) (cap := 17) (by decide) (by decide) (by decide) (by decide) rfl
  obtain ⟨da, g154⟩ : ∃ z, z = h0.size := ⟨_, rfl⟩
  rw [← g154] at A154 st154 Ex154
  have ne_dq_da : dq ≠ da := Nat.ne_of_lt (Nat.lt_of_lt_of_le E_d.lt (Nat.le_of_eq g154.symm))
  have g_da : n0 ≤ da := Nat.le_trans Z0 (Nat.le_of_eq g154.symm)
  have f155 := E_d.ext E154
  have f156 := F_e.ext E154
  have f157 := F_h.ext E154
  have f158 := F_t.ext E154
  have f159 : ORef Z h154 da (.object "java/lang/Object") "java/lang/Object" 17 (fun _ => .null) := ORef.new A154 O154 rfl
  have sz154 : n0 ≤ h154.size := Nat.le_trans Z0 E154.1
  have kp154 := kp0.ext E154
  have kz_da := Nat.le_trans kp0.1 (Nat.le_of_eq g154.symm)
  clear kp0
  refine own_st (st154) ?_
  clear st154 X153 e153 E154 g154
  show OFin p e below s _ _ _ (T154.setTop (mkF m 10 #[.val (.ref dq)] [(.ref da), (.ref dq)]))
  obtain ⟨T160, h160, X160, e160, W160, st160⟩ := putF X154 hx hZ hown (host := "") (Or.inl (own_w hw 91 rfl)) Via.refl e154 f156 f155 (Or.inl (own_w hw 92 rfl)) (own_w hw 82 rfl) (ty := (.array (.object "java/lang/Object"))) (by decide) rfl rfl (g := (mkF m 10 #[.val (.ref dq)] [(.ref da), (.ref dq)])) rfl rfl (hb hby own_d13_10)
  have f161 := f156.same W160
  have f162 := f155.wr W160
  clear f155
  have f164 := f157.other W160 (Or.inr (slot_ne (Or.inl (own_w hw 108 rfl)) (Or.inl (own_w hw 92 rfl)) (by decide) (t := .int) (t' := (.array (.object "java/lang/Object"))) (by decide) (by decide)))
  clear f157
  have f165 := f158.other W160 (Or.inr (slot_ne (Or.inl (own_w hw 114 rfl)) (Or.inl (own_w hw 92 rfl)) (by decide) (t := .int) (t' := (.array (.object "java/lang/Object"))) (by decide) (by decide)))
  clear f158
  have f166 := f159.other W160 (Ne.symm ne_dq_da)
  clear f159
  have f167 := Ex154.wr W160
  clear Ex154
  have sz160 : n0 ≤ h160.size := by rw [W160.size]; exact sz154
  clear sz154
  have fr160 := Fr.snoc X160 N0 g_dq
  clear N0
  have kp160 := kp154.wr W160 (Or.inl (List.mem_of_getElem? (i := 0) rfl))
  clear kp154
  refine own_st (st160) ?_
  clear st160 X154 e154 W160 f156
  show OFin p e below s _ _ _ (T160.setTop (mkF m 13 #[.val (.ref dq)] []))
  exact own_retV X160 hx hret hlk (hb hby own_d13_13) (by decide) (by decide) (by show _ ∧ _ ∧ Keep h0 T160.heap _ ∧ _; rw [e160]; exact ⟨rfl, fr160, kp160, da, kz_da, ⟨f162, f161, f164, f165, f166⟩⟩)
set_option maxRecDepth 65536 in
set_option maxHeartbeats 40000000 in
theorem rmDec (l : Launch) (Z : State) (a0 : Array Value) (hw : ∀ d ∈ tables_1, d.before a0 Z = true) (q1 : Int32) (q2 : Int32) (h0 : Heap) (h1 : q1 = 0) (h2 : q2 = 17) :
    OMet l Z (⟨"java/util/ArrayDeque", "dec", "(II)I"⟩ : MethodName) jdk_21_method_7_code 2 (some .int) (⟨0, 0, 0, 0⟩ : Room) #[(.int q1), (.int q2)] h0 (fun v h L => v = some (.int (16 : Int32)) ∧ h = h0 ∧ L = []) := by
  refine own_enter own_pn16 ?_
  intro p e s m below meth c T0 X0 hC e0
  obtain ⟨hx, hZ, hby, hml, hown, hret, hlk, hnm⟩ := hC
  have hown : s.vm.findClass "java/util/ArrayDeque" = some m.cls := hown
  refine own_at (own_ef16_II m q1 q2) ?_
  show OFin p e below s _ _ _ (T0.setTop (mkF m 0 #[.val (.int q1), .val (.int q2)] []))
  refine own_st (fun _ kS => XS.iinc X0.here hx rfl (hb hby own_d16_0) rfl (l' := #[.val (.int (q1 + (-1 : Int32))), .val (.int q2)]) rfl kS) ?_
  show OFin p e below s _ _ _ (T0.setTop (mkF m 3 #[.val (.int (q1 + (-1 : Int32))), .val (.int q2)] []))
  refine own_st (fun _ kS => XS.iloadN X0.here hx rfl (hb hby own_d16_3) rfl kS) ?_
  show OFin p e below s _ _ _ (T0.setTop (mkF m 4 #[.val (.int (q1 + (-1 : Int32))), .val (.int q2)] [(.int (q1 + (-1 : Int32)))]))
  refine own_st (fun _ kS => XS.ifNo X0.here hx rfl (hb hby own_d16_4) rfl ((if0 _ _).trans (tlt (by rw [h1]; decide)).2.1) kS) ?_
  show OFin p e below s _ _ _ (T0.setTop (mkF m 7 #[.val (.int (q1 + (-1 : Int32))), .val (.int q2)] []))
  refine own_st (fun _ kS => XS.iloadN X0.here hx rfl (hb hby own_d16_7) rfl kS) ?_
  show OFin p e below s _ _ _ (T0.setTop (mkF m 8 #[.val (.int (q1 + (-1 : Int32))), .val (.int q2)] [(.int q2)]))
  refine own_st (fun _ kS => XS.iconst X0.here hx rfl (hb hby own_d16_8) kS) ?_
  show OFin p e below s _ _ _ (T0.setTop (mkF m 9 #[.val (.int (q1 + (-1 : Int32))), .val (.int q2)] [(.int (1 : Int32)), (.int q2)]))
  refine own_st (fun _ kS => XS.isub X0.here hx rfl (hb hby own_d16_9) rfl kS) ?_
  show OFin p e below s _ _ _ (T0.setTop (mkF m 10 #[.val (.int (q1 + (-1 : Int32))), .val (.int q2)] [(.int (q2 - (1 : Int32)))]))
  refine own_st (fun _ kS => XS.istoreN X0.here hx rfl (hb hby own_d16_10) rfl (l' := #[.val (.int (q2 - (1 : Int32))), .val (.int q2)]) rfl kS) ?_
  show OFin p e below s _ _ _ (T0.setTop (mkF m 11 #[.val (.int (q2 - (1 : Int32))), .val (.int q2)] []))
  refine own_st (fun _ kS => XS.iloadN X0.here hx rfl (hb hby own_d16_11) rfl kS) ?_
  show OFin p e below s _ _ _ (T0.setTop (mkF m 12 #[.val (.int (q2 - (1 : Int32))), .val (.int q2)] [(.int (q2 - (1 : Int32)))]))
  exact own_ret X0 hx (t := .int) hret hlk rfl (Or.inl ⟨rfl, by simp, _, rfl⟩) (hb hby own_d16_12) (by decide) (by decide) ⟨by rw [h2]; rfl, e0, rfl⟩
set_option maxRecDepth 65536 in
set_option maxHeartbeats 40000000 in
theorem rmInc (l : Launch) (Z : State) (a0 : Array Value) (hw : ∀ d ∈ tables_1, d.before a0 Z = true) (q1 : Int32) (q2 : Int32) (h0 : Heap) (h1 : q1 = 16) (h2 : q2 = 17) :
    OMet l Z (⟨"java/util/ArrayDeque", "inc", "(II)I"⟩ : MethodName) jdk_21_method_6_code 2 (some .int) (⟨0, 0, 0, 0⟩ : Room) #[(.int q1), (.int q2)] h0 (fun v h L => v = some (.int (0 : Int32)) ∧ h = h0 ∧ L = []) := by
  refine own_enter own_pn22 ?_
  intro p e s m below meth c T0 X0 hC e0
  obtain ⟨hx, hZ, hby, hml, hown, hret, hlk, hnm⟩ := hC
  have hown : s.vm.findClass "java/util/ArrayDeque" = some m.cls := hown
  refine own_at (own_ef22_II m q1 q2) ?_
  show OFin p e below s _ _ _ (T0.setTop (mkF m 0 #[.val (.int q1), .val (.int q2)] []))
  refine own_st (fun _ kS => XS.iinc X0.here hx rfl (hb hby own_d22_0) rfl (l' := #[.val (.int (q1 + (1 : Int32))), .val (.int q2)]) rfl kS) ?_
  show OFin p e below s _ _ _ (T0.setTop (mkF m 3 #[.val (.int (q1 + (1 : Int32))), .val (.int q2)] []))
  refine own_st (fun _ kS => XS.iloadN X0.here hx rfl (hb hby own_d22_3) rfl kS) ?_
  show OFin p e below s _ _ _ (T0.setTop (mkF m 4 #[.val (.int (q1 + (1 : Int32))), .val (.int q2)] [(.int (q1 + (1 : Int32)))]))
  refine own_st (fun _ kS => XS.iloadN X0.here hx rfl (hb hby own_d22_4) rfl kS) ?_
  show OFin p e below s _ _ _ (T0.setTop (mkF m 5 #[.val (.int (q1 + (1 : Int32))), .val (.int q2)] [(.int q2), (.int (q1 + (1 : Int32)))]))
  refine own_st (fun _ kS => XS.icmpNo X0.here hx rfl (hb hby own_d22_5) rfl (flt (by rw [h1, h2]; decide)).1 kS) ?_
  show OFin p e below s _ _ _ (T0.setTop (mkF m 8 #[.val (.int (q1 + (1 : Int32))), .val (.int q2)] []))
  refine own_st (fun _ kS => XS.iconst X0.here hx rfl (hb hby own_d22_8) kS) ?_
  show OFin p e below s _ _ _ (T0.setTop (mkF m 9 #[.val (.int (q1 + (1 : Int32))), .val (.int q2)] [(.int (0 : Int32))]))
  refine own_st (fun _ kS => XS.istoreN X0.here hx rfl (hb hby own_d22_9) rfl (l' := #[.val (.int (0 : Int32)), .val (.int q2)]) rfl kS) ?_
  show OFin p e below s _ _ _ (T0.setTop (mkF m 10 #[.val (.int (0 : Int32)), .val (.int q2)] []))
  refine own_st (fun _ kS => XS.iloadN X0.here hx rfl (hb hby own_d22_10) rfl kS) ?_
  show OFin p e below s _ _ _ (T0.setTop (mkF m 11 #[.val (.int (0 : Int32)), .val (.int q2)] [(.int (0 : Int32))]))
  exact own_ret X0 hx (t := .int) hret hlk rfl (Or.inl ⟨rfl, by simp, _, rfl⟩) (hb hby own_d22_11) (by decide) (by decide) ⟨rfl, e0, rfl⟩
set_option maxRecDepth 65536 in
set_option maxHeartbeats 40000000 in
theorem rmAF (l : Launch) (Z : State) (a0 : Array Value) (hw : ∀ d ∈ tables_1, d.before a0 Z = true) (dq : Addr) (x : Addr) (h0 : Heap) (n0 : Nat) (da : Addr) (f : Nat → Value) (B_d : BD Z h0 dq da (0 : Int32) f) (ne_dq_da : dq ≠ da) (g_dq : n0 ≤ dq) (g_da : n0 ≤ da) (I_x : Ins Z h0 x "java/lang/Object" true) :
    OMet l Z (⟨"java/util/ArrayDeque", "addFirst", "(Ljava/lang/Object;)V"⟩ : MethodName) jdk_21_method_12_code 3 none (⟨1, 0, 0, 15⟩ : Room) #[(.ref dq), (.ref x)] h0 (fun v h L => v = none ∧ Fr n0 L ∧ Keep h0 h [dq, da] ∧ BD Z h dq da (16 : Int32) (fun i => if i = 16 then .ref x else f i)) := by
  refine own_enter own_pn15 ?_
  intro p e s m below meth c T0 X0 hC e0
  obtain ⟨hx, hZ, hby, hml, hown, hret, hlk, hnm⟩ := hC
  have hown : s.vm.findClass "java/util/ArrayDeque" = some m.cls := hown
  refine own_at (own_ef15_RR m dq x) ?_
  show OFin p e below s _ _ _ (T0.setTop (mkF m 0 #[.val (.ref dq), .val (.ref x), .unset] []))
  have N0 := Fr.nil n0
  have kp0 := Keep.refl h0 [dq, da]
  obtain ⟨u168, u169, u170, u171, u172⟩ := B_d
  refine own_st (fun _ kS => XS.aloadN X0.here hx rfl (hb hby own_d15_0) rfl rfl kS) ?_
  show OFin p e below s _ _ _ (T0.setTop (mkF m 1 #[.val (.ref dq), .val (.ref x), .unset] [(.ref x)]))
  refine own_st (fun _ kS => XS.ifnonnullYes X0.here hx rfl (pc0 := 1) (pc' := 12) rfl (hb hby own_d15_1) rfl (by decide) (by decide) kS) ?_
  show OFin p e below s _ _ _ (T0.setTop (mkF m 12 #[.val (.ref dq), .val (.ref x), .unset] []))
  refine own_st (fun _ kS => XS.aloadN X0.here hx rfl (hb hby own_d15_12) rfl rfl kS) ?_
  show OFin p e below s _ _ _ (T0.setTop (mkF m 13 #[.val (.ref dq), .val (.ref x), .unset] [(.ref dq)]))
  obtain ⟨T173, X173, e173, st173⟩ := getF X0 hx hZ hown (host := "") (Or.inl (own_w hw 91 rfl)) Via.refl e0 u169 (g := (mkF m 13 #[.val (.ref dq), .val (.ref x), .unset] [(.ref dq)])) rfl rfl (hb hby own_d15_13)
  refine own_st (st173) ?_
  clear st173 X0 e0
  show OFin p e below s _ _ _ (T173.setTop (mkF m 16 #[.val (.ref dq), .val (.ref x), .unset] [(.ref da)]))
  refine own_st (fun _ kS => XS.astoreN X173.here hx rfl (hb hby own_d15_16) rfl rfl (l' := #[.val (.ref dq), .val (.ref x), .val (.ref da)]) rfl kS) ?_
  show OFin p e below s _ _ _ (T173.setTop (mkF m 17 #[.val (.ref dq), .val (.ref x), .val (.ref da)] []))
  refine own_st (fun _ kS => XS.aloadN X173.here hx rfl (hb hby own_d15_17) rfl rfl kS) ?_
  show OFin p e below s _ _ _ (T173.setTop (mkF m 18 #[.val (.ref dq), .val (.ref x), .val (.ref da)] [(.ref da)]))
  refine own_st (fun _ kS => XS.aloadN X173.here hx rfl (hb hby own_d15_18) rfl rfl kS) ?_
  show OFin p e below s _ _ _ (T173.setTop (mkF m 19 #[.val (.ref dq), .val (.ref x), .val (.ref da)] [(.ref dq), (.ref da)]))
  refine own_st (fun _ kS => XS.aloadN X173.here hx rfl (hb hby own_d15_19) rfl rfl kS) ?_
  show OFin p e below s _ _ _ (T173.setTop (mkF m 20 #[.val (.ref dq), .val (.ref x), .val (.ref da)] [(.ref dq), (.ref dq), (.ref da)]))
  obtain ⟨T174, X174, e174, st174⟩ := getF X173 hx hZ hown (host := "") (Or.inl (own_w hw 107 rfl)) Via.refl e173 u170 (g := (mkF m 20 #[.val (.ref dq), .val (.ref x), .val (.ref da)] [(.ref dq), (.ref dq), (.ref da)])) rfl rfl (hb hby own_d15_20)
  refine own_st (st174) ?_
  clear st174 X173 e173
  show OFin p e below s _ _ _ (T174.setTop (mkF m 23 #[.val (.ref dq), .val (.ref x), .val (.ref da)] [(.int (0 : Int32)), (.ref dq), (.ref da)]))
  refine own_st (fun _ kS => XS.aloadN X174.here hx rfl (hb hby own_d15_23) rfl rfl kS) ?_
  show OFin p e below s _ _ _ (T174.setTop (mkF m 24 #[.val (.ref dq), .val (.ref x), .val (.ref da)] [(.ref da), (.int (0 : Int32)), (.ref dq), (.ref da)]))
  obtain ⟨cl175, Ar175, S175, B175, H175⟩ := id u172
  have hl175 := own_len S175 (rfl : _ = (17 : Int32))
  refine own_st (X174.arraylength hx (by rw [e174]; exact Ar175.1) (State.isArrayOf_alike hZ.alike Ar175.2.1) (g := (mkF m 24 #[.val (.ref dq), .val (.ref x), .val (.ref da)] [(.ref da), (.int (0 : Int32)), (.ref dq), (.ref da)])) rfl rfl (hb hby own_d15_24)) ?_
  rw [hl175]
  clear hl175 Ar175 S175 B175
  show OFin p e below s _ _ _ (T174.setTop (mkF m 25 #[.val (.ref dq), .val (.ref x), .val (.ref da)] [(.int (17 : Int32)), (.int (0 : Int32)), (.ref dq), (.ref da)]))
  obtain ⟨v176, T176, L176, X176, hQ176, st176⟩ := own_static X174 hx hZ (y := (⟨"java/util/ArrayDeque", "dec", "(II)I"⟩ : MethodName)) (rm := ⟨0, 0, 0, 0⟩) (W := 2) (argsL := [(.int (0 : Int32)), (.int (17 : Int32))]) (rest := [(.ref dq), (.ref da)]) hown (own_w hw 109 rfl) (own_w hw 110 rfl) (own_w hw 83 rfl) (own_w hw 111 rfl) (rmDec l Z a0 hw _ _ h0 rfl rfl) e174 (g := (mkF m 25 #[.val (.ref dq), .val (.ref x), .val (.ref da)] [(.int (17 : Int32)), (.int (0 : Int32)), (.ref dq), (.ref da)])) rfl (by rw [hml]; rfl) (lenOf own_pd10 rfl) rfl (by show 2 * 0 + _ ≤ _; exact Nat.le_of_eq rfl) (hb hby own_d15_25) (by decide) (by decide) (by decide) (by decide)
  obtain ⟨rfl, e176, rfl⟩ := hQ176
  rw [List.append_nil] at X176
  refine own_st (st176) ?_
  clear st176 X174 e174
  show OFin p e below s _ _ _ (T176.setTop (mkF m 28 #[.val (.ref dq), .val (.ref x), .val (.ref da)] [(.int (16 : Int32)), (.ref dq), (.ref da)]))
  refine own_st (fun _ kS => XS.dupX1 X176.here hx rfl (hb hby own_d15_28) rfl rfl rfl kS) ?_
  show OFin p e below s _ _ _ (T176.setTop (mkF m 29 #[.val (.ref dq), .val (.ref x), .val (.ref da)] [(.int (16 : Int32)), (.ref dq), (.int (16 : Int32)), (.ref da)]))
  obtain ⟨T177, h177, X177, e177, W177, st177⟩ := putF X176 hx hZ hown (host := "") (Or.inl (own_w hw 107 rfl)) Via.refl e176 u170 u168 (Or.inl (own_w hw 108 rfl)) (own_w hw 82 rfl) (ty := .int) (by decide) rfl rfl (g := (mkF m 29 #[.val (.ref dq), .val (.ref x), .val (.ref da)] [(.int (16 : Int32)), (.ref dq), (.int (16 : Int32)), (.ref da)])) rfl rfl (hb hby own_d15_29)
  have f178 := u170.same W177
  have f179 := u168.wr W177
  clear u168
  have f180 := u169.other W177 (Or.inr (slot_ne (Or.inl (own_w hw 92 rfl)) (Or.inl (own_w hw 108 rfl)) (by decide) (t := (.array (.object "java/lang/Object"))) (t' := .int) (by decide) (by decide)))
  clear u169
  have f182 := u171.other W177 (Or.inr (slot_ne (Or.inl (own_w hw 114 rfl)) (Or.inl (own_w hw 108 rfl)) (by decide) (t := .int) (t' := .int) (by decide) (by decide)))
  clear u171
  have f183 := u172.other W177 (Ne.symm ne_dq_da)
  clear u172
  have f184 := I_x.wr W177
  have fr177 := Fr.snoc X177 N0 g_dq
  clear N0
  have kp177 := kp0.wr W177 (Or.inl (List.mem_of_getElem? (i := 0) rfl))
  clear kp0
  refine own_st (st177) ?_
  clear st177 X176 e176 W177 u170
  show OFin p e below s _ _ _ (T177.setTop (mkF m 32 #[.val (.ref dq), .val (.ref x), .val (.ref da)] [(.int (16 : Int32)), (.ref da)]))
  refine own_st (fun _ kS => XS.aloadN X177.here hx rfl (hb hby own_d15_32) rfl rfl kS) ?_
  show OFin p e below s _ _ _ (T177.setTop (mkF m 33 #[.val (.ref dq), .val (.ref x), .val (.ref da)] [(.ref x), (.int (16 : Int32)), (.ref da)]))
  obtain ⟨cl185, Ar185, S185, B185, H185, O185⟩ := id f183
  obtain ⟨T185, h185, X185, e185, W185, st185⟩ := stR X177 hx hZ e177 Ar185 (j := (16 : Int32)) (own_inb S185 (by decide) rfl (by decide)) rfl (own_sto Ar185 O185 f184) (g := (mkF m 33 #[.val (.ref dq), .val (.ref x), .val (.ref da)] [(.ref x), (.int (16 : Int32)), (.ref da)])) rfl rfl (hb hby own_d15_33)
  have V185 := own_wrj W185 rfl
  have f186 := (f183).set V185
  have f187 := f179.wr W185
  clear f179
  have f188 := f180.other W185 (Or.inl ne_dq_da)
  clear f180
  have f189 := f178.other W185 (Or.inl ne_dq_da)
  clear f178
  have f190 := f182.other W185 (Or.inl ne_dq_da)
  clear f182
  have f192 := f184.wr W185
  clear f184
  have fr185 := Fr.snoc X185 fr177 g_da
  clear fr177
  have kp185 := kp177.wr W185 (Or.inl (List.mem_of_getElem? (i := 1) rfl))
  clear kp177
  refine own_st (st185) ?_
  clear st185 X177 e177 W185 V185 Ar185 S185 B185 H185 O185 f183
  show OFin p e below s _ _ _ (T185.setTop (mkF m 34 #[.val (.ref dq), .val (.ref x), .val (.ref da)] []))
  refine own_st (fun _ kS => XS.aloadN X185.here hx rfl (hb hby own_d15_34) rfl rfl kS) ?_
  show OFin p e below s _ _ _ (T185.setTop (mkF m 35 #[.val (.ref dq), .val (.ref x), .val (.ref da)] [(.ref dq)]))
  obtain ⟨T193, X193, e193, st193⟩ := getF X185 hx hZ hown (host := "") (Or.inl (own_w hw 107 rfl)) Via.refl e185 f189 (g := (mkF m 35 #[.val (.ref dq), .val (.ref x), .val (.ref da)] [(.ref dq)])) rfl rfl (hb hby own_d15_35)
  refine own_st (st193) ?_
  clear st193 X185 e185
  show OFin p e below s _ _ _ (T193.setTop (mkF m 38 #[.val (.ref dq), .val (.ref x), .val (.ref da)] [(.int (16 : Int32))]))
  refine own_st (fun _ kS => XS.aloadN X193.here hx rfl (hb hby own_d15_38) rfl rfl kS) ?_
  show OFin p e below s _ _ _ (T193.setTop (mkF m 39 #[.val (.ref dq), .val (.ref x), .val (.ref da)] [(.ref dq), (.int (16 : Int32))]))
  obtain ⟨T194, X194, e194, st194⟩ := getF X193 hx hZ hown (host := "") (Or.inl (own_w hw 113 rfl)) Via.refl e193 f190 (g := (mkF m 39 #[.val (.ref dq), .val (.ref x), .val (.ref da)] [(.ref dq), (.int (16 : Int32))])) rfl rfl (hb hby own_d15_39)
  refine own_st (st194) ?_
  clear st194 X193 e193
  show OFin p e below s _ _ _ (T194.setTop (mkF m 42 #[.val (.ref dq), .val (.ref x), .val (.ref da)] [(.int (0 : Int32)), (.int (16 : Int32))]))
  refine own_st (fun _ kS => XS.icmpYes X194.here hx rfl (pc0 := 42) (pc' := 50) rfl (hb hby own_d15_42) rfl (feq (by decide)).2 (by decide) (by decide) kS) ?_
  show OFin p e below s _ _ _ (T194.setTop (mkF m 50 #[.val (.ref dq), .val (.ref x), .val (.ref da)] []))
  exact own_retV X194 hx hret hlk (hb hby own_d15_50) (by decide) (by decide) (by show _ ∧ _ ∧ Keep h0 T194.heap _ ∧ _; rw [e194]; exact ⟨rfl, fr185, kp185, ⟨f187, f188, f189, f190, f186⟩⟩)
set_option maxRecDepth 65536 in
set_option maxHeartbeats 40000000 in
theorem rmPu (l : Launch) (Z : State) (a0 : Array Value) (hw : ∀ d ∈ tables_1, d.before a0 Z = true) (dq : Addr) (x : Addr) (h0 : Heap) (n0 : Nat) (da : Addr) (f : Nat → Value) (B_d : BD Z h0 dq da (0 : Int32) f) (ne_dq_da : dq ≠ da) (g_dq : n0 ≤ dq) (g_da : n0 ≤ da) (I_x : Ins Z h0 x "java/lang/Object" true) :
    OMet l Z (⟨"java/util/ArrayDeque", "push", "(Ljava/lang/Object;)V"⟩ : MethodName) jdk_21_method_34_code 2 none (⟨2, 0, 0, 29⟩ : Room) #[(.ref dq), (.ref x)] h0 (fun v h L => v = none ∧ Fr n0 L ∧ Keep h0 h [dq, da] ∧ BD Z h dq da (16 : Int32) (fun i => if i = 16 then .ref x else f i)) := by
  refine own_enter own_pn14 ?_
  intro p e s m below meth c T0 X0 hC e0
  obtain ⟨hx, hZ, hby, hml, hown, hret, hlk, hnm⟩ := hC
  have hown : s.vm.findClass "java/util/ArrayDeque" = some m.cls := hown
  refine own_at (own_ef14_RR m dq x) ?_
  show OFin p e below s _ _ _ (T0.setTop (mkF m 0 #[.val (.ref dq), .val (.ref x)] []))
  have N0 := Fr.nil n0
  have kp0 := Keep.refl h0 [dq, da]
  have E_d := B_d.1
  refine own_st (fun _ kS => XS.aloadN X0.here hx rfl (hb hby own_d14_0) rfl rfl kS) ?_
  show OFin p e below s _ _ _ (T0.setTop (mkF m 1 #[.val (.ref dq), .val (.ref x)] [(.ref dq)]))
  refine own_st (fun _ kS => XS.aloadN X0.here hx rfl (hb hby own_d14_1) rfl rfl kS) ?_
  show OFin p e below s _ _ _ (T0.setTop (mkF m 2 #[.val (.ref dq), .val (.ref x)] [(.ref x), (.ref dq)]))
  obtain ⟨v195, T195, L195, X195, hQ195, st195⟩ := own_virtual X0 hx hZ (y := (⟨"java/util/ArrayDeque", "addFirst", "(Ljava/lang/Object;)V"⟩ : MethodName)) (z := (⟨"java/util/ArrayDeque", "addFirst", "(Ljava/lang/Object;)V"⟩ : MethodName)) (rm := ⟨1, 0, 0, 15⟩) (W := 0) (a := dq) (argsL := [(.ref x)]) (rest := []) hown (own_w hw 102 rfl) (own_w hw 103 rfl) (notFace_of_selects (args := #[]) (mvT hZ (own_w hw 105 rfl))) (own_w hw 105 rfl) (own_w hw 104 rfl) (own_w hw 83 rfl) (own_w hw 106 rfl) (rmAF l Z a0 hw dq x h0 n0 da f B_d ne_dq_da g_dq g_da I_x) e0 E_d (g := (mkF m 2 #[.val (.ref dq), .val (.ref x)] [(.ref x), (.ref dq)])) rfl (by rw [hml]; rfl) (lenOf own_pd15 rfl) rfl (by show 2 * 0 + _ ≤ _; exact Nat.le_of_eq rfl) (hb hby own_d14_2) (by decide) (by decide) (by decide) (by decide)
  obtain ⟨rfl, N195, K195, BB⟩ := hQ195
  have fr195 := Fr.app N0 N195
  clear N0
  have kp195 := kp0.trans K195 (allS (Or.inl (List.mem_of_getElem? (i := 0) rfl)) (allS (Or.inl (List.mem_of_getElem? (i := 1) rfl)) all0))
  clear kp0
  have f196 := E_d.keep K195
  refine own_st (st195) ?_
  clear st195 X0 e0
  show OFin p e below s _ _ _ (T195.setTop (mkF m 5 #[.val (.ref dq), .val (.ref x)] []))
  exact own_retV X195 hx hret hlk (hb hby own_d14_5) (by decide) (by decide) (by show _ ∧ _ ∧ Keep h0 T195.heap _ ∧ _; exact ⟨rfl, fr195, kp195, BB⟩)
set_option maxRecDepth 65536 in
set_option maxHeartbeats 40000000 in
theorem rmDE0 (l : Launch) (Z : State) (a0 : Array Value) (hw : ∀ d ∈ tables_1, d.before a0 Z = true) (dq : Addr) (h0 : Heap) (F_h : Fld Z h0 dq "java/util/ArrayDeque" "head" "I" (.int (16 : Int32))) (F_t : Fld Z h0 dq "java/util/ArrayDeque" "tail" "I" (.int (0 : Int32))) :
    OMet l Z (⟨"java/util/ArrayDeque", "isEmpty", "()Z"⟩ : MethodName) jdk_21_method_38_code 1 (some .boolean) (⟨0, 0, 0, 0⟩ : Room) #[(.ref dq)] h0 (fun v h L => v = some (.int (0 : Int32)) ∧ h = h0 ∧ L = []) := by
  refine own_enter own_pn17 ?_
  intro p e s m below meth c T0 X0 hC e0
  obtain ⟨hx, hZ, hby, hml, hown, hret, hlk, hnm⟩ := hC
  have hown : s.vm.findClass "java/util/ArrayDeque" = some m.cls := hown
  refine own_at (own_ef17_R m dq) ?_
  show OFin p e below s _ _ _ (T0.setTop (mkF m 0 #[.val (.ref dq)] []))
  refine own_st (fun _ kS => XS.aloadN X0.here hx rfl (hb hby own_d17_0) rfl rfl kS) ?_
  show OFin p e below s _ _ _ (T0.setTop (mkF m 1 #[.val (.ref dq)] [(.ref dq)]))
  obtain ⟨T197, X197, e197, st197⟩ := getF X0 hx hZ hown (host := "") (Or.inl (own_w hw 107 rfl)) Via.refl e0 F_h (g := (mkF m 1 #[.val (.ref dq)] [(.ref dq)])) rfl rfl (hb hby own_d17_1)
  refine own_st (st197) ?_
  clear st197 X0 e0
  show OFin p e below s _ _ _ (T197.setTop (mkF m 4 #[.val (.ref dq)] [(.int (16 : Int32))]))
  refine own_st (fun _ kS => XS.aloadN X197.here hx rfl (hb hby own_d17_4) rfl rfl kS) ?_
  show OFin p e below s _ _ _ (T197.setTop (mkF m 5 #[.val (.ref dq)] [(.ref dq), (.int (16 : Int32))]))
  obtain ⟨T198, X198, e198, st198⟩ := getF X197 hx hZ hown (host := "") (Or.inl (own_w hw 113 rfl)) Via.refl e197 F_t (g := (mkF m 5 #[.val (.ref dq)] [(.ref dq), (.int (16 : Int32))])) rfl rfl (hb hby own_d17_5)
  refine own_st (st198) ?_
  clear st198 X197 e197
  show OFin p e below s _ _ _ (T198.setTop (mkF m 8 #[.val (.ref dq)] [(.int (0 : Int32)), (.int (16 : Int32))]))
  refine own_st (fun _ kS => XS.icmpYes X198.here hx rfl (pc0 := 8) (pc' := 15) rfl (hb hby own_d17_8) rfl (feq (by decide)).2 (by decide) (by decide) kS) ?_
  show OFin p e below s _ _ _ (T198.setTop (mkF m 15 #[.val (.ref dq)] []))
  refine own_st (fun _ kS => XS.iconst X198.here hx rfl (hb hby own_d17_15) kS) ?_
  show OFin p e below s _ _ _ (T198.setTop (mkF m 16 #[.val (.ref dq)] [(.int (0 : Int32))]))
  exact own_ret X198 hx (t := .boolean) hret hlk rfl (Or.inl ⟨rfl, by simp, _, rfl⟩) (hb hby own_d17_16) (by decide) (by decide) ⟨rfl, e198, rfl⟩
set_option maxRecDepth 65536 in
set_option maxHeartbeats 40000000 in
theorem rmDE1 (l : Launch) (Z : State) (a0 : Array Value) (hw : ∀ d ∈ tables_1, d.before a0 Z = true) (dq : Addr) (h0 : Heap) (F_h : Fld Z h0 dq "java/util/ArrayDeque" "head" "I" (.int (0 : Int32))) (F_t : Fld Z h0 dq "java/util/ArrayDeque" "tail" "I" (.int (0 : Int32))) :
    OMet l Z (⟨"java/util/ArrayDeque", "isEmpty", "()Z"⟩ : MethodName) jdk_21_method_38_code 1 (some .boolean) (⟨0, 0, 0, 0⟩ : Room) #[(.ref dq)] h0 (fun v h L => v = some (.int (1 : Int32)) ∧ h = h0 ∧ L = []) := by
  refine own_enter own_pn17 ?_
  intro p e s m below meth c T0 X0 hC e0
  obtain ⟨hx, hZ, hby, hml, hown, hret, hlk, hnm⟩ := hC
  have hown : s.vm.findClass "java/util/ArrayDeque" = some m.cls := hown
  refine own_at (own_ef17_R m dq) ?_
  show OFin p e below s _ _ _ (T0.setTop (mkF m 0 #[.val (.ref dq)] []))
  refine own_st (fun _ kS => XS.aloadN X0.here hx rfl (hb hby own_d17_0) rfl rfl kS) ?_
  show OFin p e below s _ _ _ (T0.setTop (mkF m 1 #[.val (.ref dq)] [(.ref dq)]))
  obtain ⟨T199, X199, e199, st199⟩ := getF X0 hx hZ hown (host := "") (Or.inl (own_w hw 107 rfl)) Via.refl e0 F_h (g := (mkF m 1 #[.val (.ref dq)] [(.ref dq)])) rfl rfl (hb hby own_d17_1)
  refine own_st (st199) ?_
  clear st199 X0 e0
  show OFin p e below s _ _ _ (T199.setTop (mkF m 4 #[.val (.ref dq)] [(.int (0 : Int32))]))
  refine own_st (fun _ kS => XS.aloadN X199.here hx rfl (hb hby own_d17_4) rfl rfl kS) ?_
  show OFin p e below s _ _ _ (T199.setTop (mkF m 5 #[.val (.ref dq)] [(.ref dq), (.int (0 : Int32))]))
  obtain ⟨T200, X200, e200, st200⟩ := getF X199 hx hZ hown (host := "") (Or.inl (own_w hw 113 rfl)) Via.refl e199 F_t (g := (mkF m 5 #[.val (.ref dq)] [(.ref dq), (.int (0 : Int32))])) rfl rfl (hb hby own_d17_5)
  refine own_st (st200) ?_
  clear st200 X199 e199
  show OFin p e below s _ _ _ (T200.setTop (mkF m 8 #[.val (.ref dq)] [(.int (0 : Int32)), (.int (0 : Int32))]))
  refine own_st (fun _ kS => XS.icmpNo X200.here hx rfl (hb hby own_d17_8) rfl (teq rfl).2 kS) ?_
  show OFin p e below s _ _ _ (T200.setTop (mkF m 11 #[.val (.ref dq)] []))
  refine own_st (fun _ kS => XS.iconst X200.here hx rfl (hb hby own_d17_11) kS) ?_
  show OFin p e below s _ _ _ (T200.setTop (mkF m 12 #[.val (.ref dq)] [(.int (1 : Int32))]))
  refine own_st (fun _ kS => XS.goto X200.here hx rfl (pc0 := 12) (pc' := 16) rfl (hb hby own_d17_12) (by decide) (by decide) kS) ?_
  show OFin p e below s _ _ _ (T200.setTop (mkF m 16 #[.val (.ref dq)] [(.int (1 : Int32))]))
  exact own_ret X200 hx (t := .boolean) hret hlk rfl (Or.inl ⟨rfl, by simp, _, rfl⟩) (hb hby own_d17_16) (by decide) (by decide) ⟨rfl, e200, rfl⟩
set_option maxRecDepth 65536 in
set_option maxHeartbeats 40000000 in
theorem rmEl (l : Launch) (Z : State) (a0 : Array Value) (hw : ∀ d ∈ tables_1, d.before a0 Z = true) (da : Addr) (q : Int32) (h0 : Heap) (x : Addr) (f : Nat → Value) (R_d : ORef Z h0 da (.object "java/lang/Object") "java/lang/Object" 17 f) (hq : q = 16) (hf : f 16 = .ref x) :
    OMet l Z (⟨"java/util/ArrayDeque", "elementAt", "([Ljava/lang/Object;I)Ljava/lang/Object;"⟩ : MethodName) jdk_21_method_10_code 2 (some (.object "java/lang/Object")) (⟨0, 0, 0, 0⟩ : Room) #[(.ref da), (.int q)] h0 (fun v h L => v = some (.ref x) ∧ h = h0 ∧ L = []) := by
  refine own_enter own_pn21 ?_
  intro p e s m below meth c T0 X0 hC e0
  obtain ⟨hx, hZ, hby, hml, hown, hret, hlk, hnm⟩ := hC
  have hown : s.vm.findClass "java/util/ArrayDeque" = some m.cls := hown
  refine own_at (own_ef21_RI m da q) ?_
  show OFin p e below s _ _ _ (T0.setTop (mkF m 0 #[.val (.ref da), .val (.int q)] []))
  refine own_st (fun _ kS => XS.aloadN X0.here hx rfl (hb hby own_d21_0) rfl rfl kS) ?_
  show OFin p e below s _ _ _ (T0.setTop (mkF m 1 #[.val (.ref da), .val (.int q)] [(.ref da)]))
  refine own_st (fun _ kS => XS.iloadN X0.here hx rfl (hb hby own_d21_1) rfl kS) ?_
  show OFin p e below s _ _ _ (T0.setTop (mkF m 2 #[.val (.ref da), .val (.int q)] [(.int q), (.ref da)]))
  obtain ⟨cl201, Ar201, S201, B201, H201, O201⟩ := id R_d
  refine own_st (X0.aaload hx (j := q) (v := (.ref x)) (by rw [e0]; exact Ar201.1) (State.isArrayOf_alike hZ.alike Ar201.2.1) rfl Ar201.2.2 (own_inb S201 (by rw [hq]; decide) (by rw [hq] <;> rfl) (by decide)) ((own_hv H201 (by rw [hq] <;> rfl) (by decide)).trans (congrArg some (hf))) (g := (mkF m 2 #[.val (.ref da), .val (.int q)] [(.int q), (.ref da)])) rfl rfl (hb hby own_d21_2)) ?_
  clear Ar201 S201 B201 H201 O201
  show OFin p e below s _ _ _ (T0.setTop (mkF m 3 #[.val (.ref da), .val (.int q)] [(.ref x)]))
  exact own_ret X0 hx (t := (.object "java/lang/Object")) hret hlk rfl (Or.inr (Or.inr (Or.inr (Or.inr ⟨rfl, rfl, rfl⟩)))) (hb hby own_d21_3) (by decide) (by decide) ⟨rfl, e0, rfl⟩
set_option maxRecDepth 65536 in
set_option maxHeartbeats 40000000 in
theorem rmPF (l : Launch) (Z : State) (a0 : Array Value) (hw : ∀ d ∈ tables_1, d.before a0 Z = true) (dq : Addr) (h0 : Heap) (n0 : Nat) (da x : Addr) (f : Nat → Value) (B_d : BD Z h0 dq da (16 : Int32) f) (ne_dq_da : dq ≠ da) (g_dq : n0 ≤ dq) (g_da : n0 ≤ da) (hf : f 16 = .ref x) :
    OMet l Z (⟨"java/util/ArrayDeque", "pollFirst", "()Ljava/lang/Object;"⟩ : MethodName) jdk_21_method_20_code 4 (some (.object "java/lang/Object")) (⟨1, 0, 0, 14⟩ : Room) #[(.ref dq)] h0 (fun v h L => v = some (.ref x) ∧ Fr n0 L ∧ Keep h0 h [dq, da] ∧ BD Z h dq da (0 : Int32) (fun i => if i = 16 then .null else f i)) := by
  refine own_enter own_pn20 ?_
  intro p e s m below meth c T0 X0 hC e0
  obtain ⟨hx, hZ, hby, hml, hown, hret, hlk, hnm⟩ := hC
  have hown : s.vm.findClass "java/util/ArrayDeque" = some m.cls := hown
  refine own_at (own_ef20_R m dq) ?_
  show OFin p e below s _ _ _ (T0.setTop (mkF m 0 #[.val (.ref dq), .unset, .unset, .unset] []))
  have N0 := Fr.nil n0
  have kp0 := Keep.refl h0 [dq, da]
  obtain ⟨u202, u203, u204, u205, u206⟩ := B_d
  refine own_st (fun _ kS => XS.aloadN X0.here hx rfl (hb hby own_d20_0) rfl rfl kS) ?_
  show OFin p e below s _ _ _ (T0.setTop (mkF m 1 #[.val (.ref dq), .unset, .unset, .unset] [(.ref dq)]))
  obtain ⟨T207, X207, e207, st207⟩ := getF X0 hx hZ hown (host := "") (Or.inl (own_w hw 91 rfl)) Via.refl e0 u203 (g := (mkF m 1 #[.val (.ref dq), .unset, .unset, .unset] [(.ref dq)])) rfl rfl (hb hby own_d20_1)
  refine own_st (st207) ?_
  clear st207 X0 e0
  show OFin p e below s _ _ _ (T207.setTop (mkF m 4 #[.val (.ref dq), .unset, .unset, .unset] [(.ref da)]))
  refine own_st (fun _ kS => XS.dup X207.here hx rfl (hb hby own_d20_4) rfl rfl kS) ?_
  show OFin p e below s _ _ _ (T207.setTop (mkF m 5 #[.val (.ref dq), .unset, .unset, .unset] [(.ref da), (.ref da)]))
  refine own_st (fun _ kS => XS.astoreN X207.here hx rfl (hb hby own_d20_5) rfl rfl (l' := #[.val (.ref dq), .val (.ref da), .unset, .unset]) rfl kS) ?_
  show OFin p e below s _ _ _ (T207.setTop (mkF m 6 #[.val (.ref dq), .val (.ref da), .unset, .unset] [(.ref da)]))
  refine own_st (fun _ kS => XS.aloadN X207.here hx rfl (hb hby own_d20_6) rfl rfl kS) ?_
  show OFin p e below s _ _ _ (T207.setTop (mkF m 7 #[.val (.ref dq), .val (.ref da), .unset, .unset] [(.ref dq), (.ref da)]))
  obtain ⟨T208, X208, e208, st208⟩ := getF X207 hx hZ hown (host := "") (Or.inl (own_w hw 107 rfl)) Via.refl e207 u204 (g := (mkF m 7 #[.val (.ref dq), .val (.ref da), .unset, .unset] [(.ref dq), (.ref da)])) rfl rfl (hb hby own_d20_7)
  refine own_st (st208) ?_
  clear st208 X207 e207
  show OFin p e below s _ _ _ (T208.setTop (mkF m 10 #[.val (.ref dq), .val (.ref da), .unset, .unset] [(.int (16 : Int32)), (.ref da)]))
  refine own_st (fun _ kS => XS.dup X208.here hx rfl (hb hby own_d20_10) rfl rfl kS) ?_
  show OFin p e below s _ _ _ (T208.setTop (mkF m 11 #[.val (.ref dq), .val (.ref da), .unset, .unset] [(.int (16 : Int32)), (.int (16 : Int32)), (.ref da)]))
  refine own_st (fun _ kS => XS.istoreN X208.here hx rfl (hb hby own_d20_11) rfl (l' := #[.val (.ref dq), .val (.ref da), .val (.int (16 : Int32)), .unset]) rfl kS) ?_
  show OFin p e below s _ _ _ (T208.setTop (mkF m 12 #[.val (.ref dq), .val (.ref da), .val (.int (16 : Int32)), .unset] [(.int (16 : Int32)), (.ref da)]))
  obtain ⟨v209, T209, L209, X209, hQ209, st209⟩ := own_static X208 hx hZ (y := (⟨"java/util/ArrayDeque", "elementAt", "([Ljava/lang/Object;I)Ljava/lang/Object;"⟩ : MethodName)) (rm := ⟨0, 0, 0, 0⟩) (W := 0) (argsL := [(.ref da), (.int (16 : Int32))]) (rest := []) hown (own_w hw 141 rfl) (own_w hw 142 rfl) (own_w hw 83 rfl) (own_w hw 143 rfl) (rmEl l Z a0 hw da _ h0 x f u206 rfl hf) e208 (g := (mkF m 12 #[.val (.ref dq), .val (.ref da), .val (.int (16 : Int32)), .unset] [(.int (16 : Int32)), (.ref da)])) rfl (by rw [hml]; rfl) (lenOf own_pd16 rfl) rfl (by show 2 * 0 + _ ≤ _; exact Nat.le_of_eq rfl) (hb hby own_d20_12) (by decide) (by decide) (by decide) (by decide)
  obtain ⟨rfl, e209, rfl⟩ := hQ209
  rw [List.append_nil] at X209
  refine own_st (st209) ?_
  clear st209 X208 e208
  show OFin p e below s _ _ _ (T209.setTop (mkF m 15 #[.val (.ref dq), .val (.ref da), .val (.int (16 : Int32)), .unset] [(.ref x)]))
  refine own_st (fun _ kS => XS.astoreN X209.here hx rfl (hb hby own_d20_15) rfl rfl (l' := #[.val (.ref dq), .val (.ref da), .val (.int (16 : Int32)), .val (.ref x)]) rfl kS) ?_
  show OFin p e below s _ _ _ (T209.setTop (mkF m 16 #[.val (.ref dq), .val (.ref da), .val (.int (16 : Int32)), .val (.ref x)] []))
  refine own_st (fun _ kS => XS.aloadN X209.here hx rfl (hb hby own_d20_16) rfl rfl kS) ?_
  show OFin p e below s _ _ _ (T209.setTop (mkF m 17 #[.val (.ref dq), .val (.ref da), .val (.int (16 : Int32)), .val (.ref x)] [(.ref x)]))
  refine own_st (fun _ kS => XS.ifnullNo X209.here hx rfl (hb hby own_d20_17) rfl kS) ?_
  show OFin p e below s _ _ _ (T209.setTop (mkF m 20 #[.val (.ref dq), .val (.ref da), .val (.int (16 : Int32)), .val (.ref x)] []))
  refine own_st (fun _ kS => XS.aloadN X209.here hx rfl (hb hby own_d20_20) rfl rfl kS) ?_
  show OFin p e below s _ _ _ (T209.setTop (mkF m 21 #[.val (.ref dq), .val (.ref da), .val (.int (16 : Int32)), .val (.ref x)] [(.ref da)]))
  refine own_st (fun _ kS => XS.iloadN X209.here hx rfl (hb hby own_d20_21) rfl kS) ?_
  show OFin p e below s _ _ _ (T209.setTop (mkF m 22 #[.val (.ref dq), .val (.ref da), .val (.int (16 : Int32)), .val (.ref x)] [(.int (16 : Int32)), (.ref da)]))
  refine own_st (fun _ kS => XS.aconstNull X209.here hx rfl (hb hby own_d20_22) kS) ?_
  show OFin p e below s _ _ _ (T209.setTop (mkF m 23 #[.val (.ref dq), .val (.ref da), .val (.int (16 : Int32)), .val (.ref x)] [.null, (.int (16 : Int32)), (.ref da)]))
  obtain ⟨cl210, Ar210, S210, B210, H210, O210⟩ := id u206
  obtain ⟨T210, h210, X210, e210, W210, st210⟩ := stR X209 hx hZ e209 Ar210 (j := (16 : Int32)) (own_inb S210 (by decide) rfl (by decide)) rfl (Or.inl rfl) (g := (mkF m 23 #[.val (.ref dq), .val (.ref da), .val (.int (16 : Int32)), .val (.ref x)] [.null, (.int (16 : Int32)), (.ref da)])) rfl rfl (hb hby own_d20_23)
  have V210 := own_wrj W210 rfl
  have f211 := (u206).set V210
  have f212 := u202.wr W210
  clear u202
  have f213 := u203.other W210 (Or.inl ne_dq_da)
  clear u203
  have f214 := u204.other W210 (Or.inl ne_dq_da)
  clear u204
  have f215 := u205.other W210 (Or.inl ne_dq_da)
  clear u205
  have fr210 := Fr.snoc X210 N0 g_da
  clear N0
  have kp210 := kp0.wr W210 (Or.inl (List.mem_of_getElem? (i := 1) rfl))
  clear kp0
  refine own_st (st210) ?_
  clear st210 X209 e209 W210 V210 Ar210 S210 B210 H210 O210 u206
  show OFin p e below s _ _ _ (T210.setTop (mkF m 24 #[.val (.ref dq), .val (.ref da), .val (.int (16 : Int32)), .val (.ref x)] []))
  refine own_st (fun _ kS => XS.aloadN X210.here hx rfl (hb hby own_d20_24) rfl rfl kS) ?_
  show OFin p e below s _ _ _ (T210.setTop (mkF m 25 #[.val (.ref dq), .val (.ref da), .val (.int (16 : Int32)), .val (.ref x)] [(.ref dq)]))
  refine own_st (fun _ kS => XS.iloadN X210.here hx rfl (hb hby own_d20_25) rfl kS) ?_
  show OFin p e below s _ _ _ (T210.setTop (mkF m 26 #[.val (.ref dq), .val (.ref da), .val (.int (16 : Int32)), .val (.ref x)] [(.int (16 : Int32)), (.ref dq)]))
  refine own_st (fun _ kS => XS.aloadN X210.here hx rfl (hb hby own_d20_26) rfl rfl kS) ?_
  show OFin p e below s _ _ _ (T210.setTop (mkF m 27 #[.val (.ref dq), .val (.ref da), .val (.int (16 : Int32)), .val (.ref x)] [(.ref da), (.int (16 : Int32)), (.ref dq)]))
  obtain ⟨cl217, Ar217, S217, B217, H217⟩ := id f211
  have hl217 := own_len S217 (rfl : _ = (17 : Int32))
  refine own_st (X210.arraylength hx (by rw [e210]; exact Ar217.1) (State.isArrayOf_alike hZ.alike Ar217.2.1) (g := (mkF m 27 #[.val (.ref dq), .val (.ref da), .val (.int (16 : Int32)), .val (.ref x)] [(.ref da), (.int (16 : Int32)), (.ref dq)])) rfl rfl (hb hby own_d20_27)) ?_
  rw [hl217]
  clear hl217 Ar217 S217 B217
  show OFin p e below s _ _ _ (T210.setTop (mkF m 28 #[.val (.ref dq), .val (.ref da), .val (.int (16 : Int32)), .val (.ref x)] [(.int (17 : Int32)), (.int (16 : Int32)), (.ref dq)]))
  obtain ⟨v218, T218, L218, X218, hQ218, st218⟩ := own_static X210 hx hZ (y := (⟨"java/util/ArrayDeque", "inc", "(II)I"⟩ : MethodName)) (rm := ⟨0, 0, 0, 0⟩) (W := 1) (argsL := [(.int (16 : Int32)), (.int (17 : Int32))]) (rest := [(.ref dq)]) hown (own_w hw 144 rfl) (own_w hw 145 rfl) (own_w hw 83 rfl) (own_w hw 146 rfl) (rmInc l Z a0 hw _ _ h210 rfl rfl) e210 (g := (mkF m 28 #[.val (.ref dq), .val (.ref da), .val (.int (16 : Int32)), .val (.ref x)] [(.int (17 : Int32)), (.int (16 : Int32)), (.ref dq)])) rfl (by rw [hml]; rfl) (lenOf own_pd10 rfl) rfl (by show 2 * 0 + _ ≤ _; exact Nat.le_of_eq rfl) (hb hby own_d20_28) (by decide) (by decide) (by decide) (by decide)
  obtain ⟨rfl, e218, rfl⟩ := hQ218
  rw [List.append_nil] at X218
  refine own_st (st218) ?_
  clear st218 X210 e210
  show OFin p e below s _ _ _ (T218.setTop (mkF m 31 #[.val (.ref dq), .val (.ref da), .val (.int (16 : Int32)), .val (.ref x)] [(.int (0 : Int32)), (.ref dq)]))
  obtain ⟨T219, h219, X219, e219, W219, st219⟩ := putF X218 hx hZ hown (host := "") (Or.inl (own_w hw 107 rfl)) Via.refl e218 f214 f212 (Or.inl (own_w hw 108 rfl)) (own_w hw 82 rfl) (ty := .int) (by decide) rfl rfl (g := (mkF m 31 #[.val (.ref dq), .val (.ref da), .val (.int (16 : Int32)), .val (.ref x)] [(.int (0 : Int32)), (.ref dq)])) rfl rfl (hb hby own_d20_31)
  have f220 := f214.same W219
  have f221 := f212.wr W219
  clear f212
  have f222 := f213.other W219 (Or.inr (slot_ne (Or.inl (own_w hw 92 rfl)) (Or.inl (own_w hw 108 rfl)) (by decide) (t := (.array (.object "java/lang/Object"))) (t' := .int) (by decide) (by decide)))
  clear f213
  have f224 := f215.other W219 (Or.inr (slot_ne (Or.inl (own_w hw 114 rfl)) (Or.inl (own_w hw 108 rfl)) (by decide) (t := .int) (t' := .int) (by decide) (by decide)))
  clear f215
  have f225 := f211.other W219 (Ne.symm ne_dq_da)
  clear f211
  have fr219 := Fr.snoc X219 fr210 g_dq
  clear fr210
  have kp219 := kp210.wr W219 (Or.inl (List.mem_of_getElem? (i := 0) rfl))
  clear kp210
  refine own_st (st219) ?_
  clear st219 X218 e218 W219 f214
  show OFin p e below s _ _ _ (T219.setTop (mkF m 34 #[.val (.ref dq), .val (.ref da), .val (.int (16 : Int32)), .val (.ref x)] []))
  refine own_st (fun _ kS => XS.aloadN X219.here hx rfl (hb hby own_d20_34) rfl rfl kS) ?_
  show OFin p e below s _ _ _ (T219.setTop (mkF m 35 #[.val (.ref dq), .val (.ref da), .val (.int (16 : Int32)), .val (.ref x)] [(.ref x)]))
  exact own_ret X219 hx (t := (.object "java/lang/Object")) hret hlk rfl (Or.inr (Or.inr (Or.inr (Or.inr ⟨rfl, rfl, rfl⟩)))) (hb hby own_d20_35) (by decide) (by decide) (by show _ ∧ _ ∧ Keep h0 T219.heap _ ∧ _; rw [e219]; exact ⟨rfl, fr219, kp219, ⟨f221, f222, f220, f224, f225⟩⟩)
set_option maxRecDepth 65536 in
set_option maxHeartbeats 40000000 in
theorem rmRF (l : Launch) (Z : State) (a0 : Array Value) (hw : ∀ d ∈ tables_1, d.before a0 Z = true) (dq : Addr) (h0 : Heap) (n0 : Nat) (da x : Addr) (f : Nat → Value) (B_d : BD Z h0 dq da (16 : Int32) f) (ne_dq_da : dq ≠ da) (g_dq : n0 ≤ dq) (g_da : n0 ≤ da) (hf : f 16 = .ref x) :
    OMet l Z (⟨"java/util/ArrayDeque", "removeFirst", "()Ljava/lang/Object;"⟩ : MethodName) jdk_21_method_18_code 2 (some (.object "java/lang/Object")) (⟨2, 0, 0, 29⟩ : Room) #[(.ref dq)] h0 (fun v h L => v = some (.ref x) ∧ Fr n0 L ∧ Keep h0 h [dq, da] ∧ BD Z h dq da (0 : Int32) (fun i => if i = 16 then .null else f i)) := by
  refine own_enter own_pn19 ?_
  intro p e s m below meth c T0 X0 hC e0
  obtain ⟨hx, hZ, hby, hml, hown, hret, hlk, hnm⟩ := hC
  have hown : s.vm.findClass "java/util/ArrayDeque" = some m.cls := hown
  refine own_at (own_ef19_R m dq) ?_
  show OFin p e below s _ _ _ (T0.setTop (mkF m 0 #[.val (.ref dq), .unset] []))
  have N0 := Fr.nil n0
  have kp0 := Keep.refl h0 [dq, da]
  have E_d := B_d.1
  refine own_st (fun _ kS => XS.aloadN X0.here hx rfl (hb hby own_d19_0) rfl rfl kS) ?_
  show OFin p e below s _ _ _ (T0.setTop (mkF m 1 #[.val (.ref dq), .unset] [(.ref dq)]))
  obtain ⟨v226, T226, L226, X226, hQ226, st226⟩ := own_virtual X0 hx hZ (y := (⟨"java/util/ArrayDeque", "pollFirst", "()Ljava/lang/Object;"⟩ : MethodName)) (z := (⟨"java/util/ArrayDeque", "pollFirst", "()Ljava/lang/Object;"⟩ : MethodName)) (rm := ⟨1, 0, 0, 14⟩) (W := 0) (a := dq) (argsL := []) (rest := []) hown (own_w hw 136 rfl) (own_w hw 137 rfl) (notFace_of_selects (args := #[]) (mvT hZ (own_w hw 139 rfl))) (own_w hw 139 rfl) (own_w hw 138 rfl) (own_w hw 83 rfl) (own_w hw 140 rfl) (rmPF l Z a0 hw dq h0 n0 da x f B_d ne_dq_da g_dq g_da hf) e0 E_d (g := (mkF m 1 #[.val (.ref dq), .unset] [(.ref dq)])) rfl (by rw [hml]; rfl) (lenOf own_pd17 rfl) rfl (by show 2 * 0 + _ ≤ _; exact Nat.le_of_eq rfl) (hb hby own_d19_1) (by decide) (by decide) (by decide) (by decide)
  obtain ⟨rfl, N226, K226, BB⟩ := hQ226
  have fr226 := Fr.app N0 N226
  clear N0
  have kp226 := kp0.trans K226 (allS (Or.inl (List.mem_of_getElem? (i := 0) rfl)) (allS (Or.inl (List.mem_of_getElem? (i := 1) rfl)) all0))
  clear kp0
  have f227 := E_d.keep K226
  refine own_st (st226) ?_
  clear st226 X0 e0
  show OFin p e below s _ _ _ (T226.setTop (mkF m 4 #[.val (.ref dq), .unset] [(.ref x)]))
  refine own_st (fun _ kS => XS.astoreN X226.here hx rfl (hb hby own_d19_4) rfl rfl (l' := #[.val (.ref dq), .val (.ref x)]) rfl kS) ?_
  show OFin p e below s _ _ _ (T226.setTop (mkF m 5 #[.val (.ref dq), .val (.ref x)] []))
  refine own_st (fun _ kS => XS.aloadN X226.here hx rfl (hb hby own_d19_5) rfl rfl kS) ?_
  show OFin p e below s _ _ _ (T226.setTop (mkF m 6 #[.val (.ref dq), .val (.ref x)] [(.ref x)]))
  refine own_st (fun _ kS => XS.ifnonnullYes X226.here hx rfl (pc0 := 6) (pc' := 17) rfl (hb hby own_d19_6) rfl (by decide) (by decide) kS) ?_
  show OFin p e below s _ _ _ (T226.setTop (mkF m 17 #[.val (.ref dq), .val (.ref x)] []))
  refine own_st (fun _ kS => XS.aloadN X226.here hx rfl (hb hby own_d19_17) rfl rfl kS) ?_
  show OFin p e below s _ _ _ (T226.setTop (mkF m 18 #[.val (.ref dq), .val (.ref x)] [(.ref x)]))
  exact own_ret X226 hx (t := (.object "java/lang/Object")) hret hlk rfl (Or.inr (Or.inr (Or.inr (Or.inr ⟨rfl, rfl, rfl⟩)))) (hb hby own_d19_18) (by decide) (by decide) (by show _ ∧ _ ∧ Keep h0 T226.heap _ ∧ _; exact ⟨rfl, fr226, kp226, BB⟩)
set_option maxRecDepth 65536 in
set_option maxHeartbeats 40000000 in
theorem rmPo (l : Launch) (Z : State) (a0 : Array Value) (hw : ∀ d ∈ tables_1, d.before a0 Z = true) (dq : Addr) (h0 : Heap) (n0 : Nat) (da x : Addr) (f : Nat → Value) (B_d : BD Z h0 dq da (16 : Int32) f) (ne_dq_da : dq ≠ da) (g_dq : n0 ≤ dq) (g_da : n0 ≤ da) (hf : f 16 = .ref x) :
    OMet l Z (⟨"java/util/ArrayDeque", "pop", "()Ljava/lang/Object;"⟩ : MethodName) jdk_21_method_35_code 1 (some (.object "java/lang/Object")) (⟨3, 0, 0, 42⟩ : Room) #[(.ref dq)] h0 (fun v h L => v = some (.ref x) ∧ Fr n0 L ∧ Keep h0 h [dq, da] ∧ BD Z h dq da (0 : Int32) (fun i => if i = 16 then .null else f i)) := by
  refine own_enter own_pn18 ?_
  intro p e s m below meth c T0 X0 hC e0
  obtain ⟨hx, hZ, hby, hml, hown, hret, hlk, hnm⟩ := hC
  have hown : s.vm.findClass "java/util/ArrayDeque" = some m.cls := hown
  refine own_at (own_ef18_R m dq) ?_
  show OFin p e below s _ _ _ (T0.setTop (mkF m 0 #[.val (.ref dq)] []))
  have N0 := Fr.nil n0
  have kp0 := Keep.refl h0 [dq, da]
  have E_d := B_d.1
  refine own_st (fun _ kS => XS.aloadN X0.here hx rfl (hb hby own_d18_0) rfl rfl kS) ?_
  show OFin p e below s _ _ _ (T0.setTop (mkF m 1 #[.val (.ref dq)] [(.ref dq)]))
  obtain ⟨v228, T228, L228, X228, hQ228, st228⟩ := own_virtual X0 hx hZ (y := (⟨"java/util/ArrayDeque", "removeFirst", "()Ljava/lang/Object;"⟩ : MethodName)) (z := (⟨"java/util/ArrayDeque", "removeFirst", "()Ljava/lang/Object;"⟩ : MethodName)) (rm := ⟨2, 0, 0, 29⟩) (W := 0) (a := dq) (argsL := []) (rest := []) hown (own_w hw 131 rfl) (own_w hw 132 rfl) (notFace_of_selects (args := #[]) (mvT hZ (own_w hw 134 rfl))) (own_w hw 134 rfl) (own_w hw 133 rfl) (own_w hw 83 rfl) (own_w hw 135 rfl) (rmRF l Z a0 hw dq h0 n0 da x f B_d ne_dq_da g_dq g_da hf) e0 E_d (g := (mkF m 1 #[.val (.ref dq)] [(.ref dq)])) rfl (by rw [hml]; rfl) (lenOf own_pd17 rfl) rfl (by show 2 * 0 + _ ≤ _; exact Nat.le_of_eq rfl) (hb hby own_d18_1) (by decide) (by decide) (by decide) (by decide)
  obtain ⟨rfl, N228, K228, BB⟩ := hQ228
  have fr228 := Fr.app N0 N228
  clear N0
  have kp228 := kp0.trans K228 (allS (Or.inl (List.mem_of_getElem? (i := 0) rfl)) (allS (Or.inl (List.mem_of_getElem? (i := 1) rfl)) all0))
  clear kp0
  have f229 := E_d.keep K228
  refine own_st (st228) ?_
  clear st228 X0 e0
  show OFin p e below s _ _ _ (T228.setTop (mkF m 4 #[.val (.ref dq)] [(.ref x)]))
  exact own_ret X228 hx (t := (.object "java/lang/Object")) hret hlk rfl (Or.inr (Or.inr (Or.inr (Or.inr ⟨rfl, rfl, rfl⟩)))) (hb hby own_d18_4) (by decide) (by decide) (by show _ ∧ _ ∧ Keep h0 T228.heap _ ∧ _; exact ⟨rfl, fr228, kp228, BB⟩)
set_option maxRecDepth 65536 in
set_option maxHeartbeats 40000000 in
theorem rmTy (l : Launch) (Z : State) (a0 : Array Value) (hw : ∀ d ∈ tables_1, d.before a0 Z = true) (ty : Addr) (x : Addr) (q : Int32) (h0 : Heap) (n0 : Nat) (hq : q = 0) (E_t : Exa Z h0 ty "com/example/unify_trace/unifytrace/program/Type") (F_n : Fld Z h0 ty "com/example/unify_trace/unifytrace/program/Type" "name" "Ljava/lang/String;" .null) (F_v : Fld Z h0 ty "com/example/unify_trace/unifytrace/program/Type" "variable" "Z" (.int (0 : Int32))) (F_a : Fld Z h0 ty "com/example/unify_trace/unifytrace/program/Type" "argument" "Lcom/example/unify_trace/unifytrace/program/Type;" .null) (F_r : Fld Z h0 ty "com/example/unify_trace/unifytrace/program/Type" "result" "Lcom/example/unify_trace/unifytrace/program/Type;" .null) (g_ty : n0 ≤ ty) :
    OMet l Z (⟨"com/example/unify_trace/unifytrace/program/Type", "<init>", "(Ljava/lang/String;ZLcom/example/unify_trace/unifytrace/program/Type;Lcom/example/unify_trace/unifytrace/program/Type;)V"⟩ : MethodName) prog_19_method_1_code 5 none (⟨1, 0, 0, 12⟩ : Room) #[(.ref ty), (.ref x), (.int q), .null, .null] h0 (fun v h L => v = none ∧ Fr n0 L ∧ Keep h0 h [ty] ∧ BT Z h ty x) := by
  refine own_enter own_pn8 ?_
  intro p e s m below meth c T0 X0 hC e0
  obtain ⟨hx, hZ, hby, hml, hown, hret, hlk, hnm⟩ := hC
  have hown : s.vm.findClass "com/example/unify_trace/unifytrace/program/Type" = some m.cls := hown
  refine own_at (own_ef8_RRINN m ty x q) ?_
  show OFin p e below s _ _ _ (T0.setTop (mkF m 0 #[.val (.ref ty), .val (.ref x), .val (.int q), .val .null, .val .null] []))
  have N0 := Fr.nil n0
  have kp0 := Keep.refl h0 [ty]
  refine own_st (fun _ kS => XS.aloadN X0.here hx rfl (hb hby own_d8_0) rfl rfl kS) ?_
  show OFin p e below s _ _ _ (T0.setTop (mkF m 1 #[.val (.ref ty), .val (.ref x), .val (.int q), .val .null, .val .null] [(.ref ty)]))
  obtain ⟨T230, X230, e230, st230⟩ := initO X0 hx hZ hown (own_w hw 40 rfl) (own_w hw 13 rfl) (own_w hw 14 rfl) e0 (g := (mkF m 1 #[.val (.ref ty), .val (.ref x), .val (.int q), .val .null, .val .null] [(.ref ty)])) rfl (by rw [hml]; rfl) rfl (hb hby own_d8_1) (by decide) (W := 0) (by show 2 * 0 + _ ≤ _; exact Nat.le_of_eq rfl) (by decide)
  refine own_st (st230) ?_
  clear st230 X0 e0
  show OFin p e below s _ _ _ (T230.setTop (mkF m 4 #[.val (.ref ty), .val (.ref x), .val (.int q), .val .null, .val .null] []))
  refine own_st (fun _ kS => XS.aloadN X230.here hx rfl (hb hby own_d8_4) rfl rfl kS) ?_
  show OFin p e below s _ _ _ (T230.setTop (mkF m 5 #[.val (.ref ty), .val (.ref x), .val (.int q), .val .null, .val .null] [(.ref ty)]))
  refine own_st (fun _ kS => XS.aloadN X230.here hx rfl (hb hby own_d8_5) rfl rfl kS) ?_
  show OFin p e below s _ _ _ (T230.setTop (mkF m 6 #[.val (.ref ty), .val (.ref x), .val (.int q), .val .null, .val .null] [(.ref x), (.ref ty)]))
  obtain ⟨T231, h231, X231, e231, W231, st231⟩ := putF X230 hx hZ hown (host := "") (Or.inl (own_w hw 41 rfl)) Via.refl e230 F_n E_t (Or.inr ⟨(own_w hw 42 rfl), rfl, hnm⟩) (own_w hw 36 rfl) (ty := (.object "java/lang/String")) (by decide) rfl rfl (g := (mkF m 6 #[.val (.ref ty), .val (.ref x), .val (.int q), .val .null, .val .null] [(.ref x), (.ref ty)])) rfl rfl (hb hby own_d8_6)
  have f232 := F_n.same W231
  have f233 := E_t.wr W231
  have f235 := F_v.other W231 (Or.inr (slot_ne (Or.inr (own_w hw 44 rfl)) (Or.inr (own_w hw 42 rfl)) (by decide) (t := .boolean) (t' := (.object "java/lang/String")) (by decide) (by decide)))
  have f236 := F_a.other W231 (Or.inr (slot_ne (Or.inr (own_w hw 46 rfl)) (Or.inr (own_w hw 42 rfl)) (by decide) (t := (.object "com/example/unify_trace/unifytrace/program/Type")) (t' := (.object "java/lang/String")) (by decide) (by decide)))
  have f237 := F_r.other W231 (Or.inr (slot_ne (Or.inr (own_w hw 48 rfl)) (Or.inr (own_w hw 42 rfl)) (by decide) (t := (.object "com/example/unify_trace/unifytrace/program/Type")) (t' := (.object "java/lang/String")) (by decide) (by decide)))
  have fr231 := Fr.snoc X231 N0 g_ty
  clear N0
  have kp231 := kp0.wr W231 (Or.inl (List.mem_of_getElem? (i := 0) rfl))
  clear kp0
  refine own_st (st231) ?_
  clear st231 X230 e230 W231
  show OFin p e below s _ _ _ (T231.setTop (mkF m 9 #[.val (.ref ty), .val (.ref x), .val (.int q), .val .null, .val .null] []))
  refine own_st (fun _ kS => XS.aloadN X231.here hx rfl (hb hby own_d8_9) rfl rfl kS) ?_
  show OFin p e below s _ _ _ (T231.setTop (mkF m 10 #[.val (.ref ty), .val (.ref x), .val (.int q), .val .null, .val .null] [(.ref ty)]))
  refine own_st (fun _ kS => XS.iloadN X231.here hx rfl (hb hby own_d8_10) rfl kS) ?_
  show OFin p e below s _ _ _ (T231.setTop (mkF m 11 #[.val (.ref ty), .val (.ref x), .val (.int q), .val .null, .val .null] [(.int q), (.ref ty)]))
  rw [hq]
  show OFin p e below s _ _ _ (T231.setTop (mkF m 11 #[.val (.ref ty), .val (.ref x), .val (.int (0 : Int32)), .val .null, .val .null] [(.int (0 : Int32)), (.ref ty)]))
  obtain ⟨T238, h238, X238, e238, W238, st238⟩ := putFN X231 hx hZ hown (own_w hw 43 rfl) Via.refl e231 f235 f233 (Or.inr ⟨(own_w hw 44 rfl), rfl, hnm⟩) (own_w hw 36 rfl) (ty := .boolean) (v' := (.int (nar .boolean (0 : Int32)))) (by decide) rfl (fits_nar_bool _) (g := (mkF m 11 #[.val (.ref ty), .val (.ref x), .val (.int (0 : Int32)), .val .null, .val .null] [(.int (0 : Int32)), (.ref ty)])) rfl rfl (hb hby own_d8_11)
  have f239 := f235.same W238
  have f240 := f233.wr W238
  clear f233
  have f241 := f232.other W238 (Or.inr (slot_ne (Or.inr (own_w hw 42 rfl)) (Or.inr (own_w hw 44 rfl)) (by decide) (t := (.object "java/lang/String")) (t' := .boolean) (by decide) (by decide)))
  clear f232
  have f243 := f236.other W238 (Or.inr (slot_ne (Or.inr (own_w hw 46 rfl)) (Or.inr (own_w hw 44 rfl)) (by decide) (t := (.object "com/example/unify_trace/unifytrace/program/Type")) (t' := .boolean) (by decide) (by decide)))
  clear f236
  have f244 := f237.other W238 (Or.inr (slot_ne (Or.inr (own_w hw 48 rfl)) (Or.inr (own_w hw 44 rfl)) (by decide) (t := (.object "com/example/unify_trace/unifytrace/program/Type")) (t' := .boolean) (by decide) (by decide)))
  clear f237
  have fr238 := Fr.snoc X238 fr231 g_ty
  clear fr231
  have kp238 := kp231.wr W238 (Or.inl (List.mem_of_getElem? (i := 0) rfl))
  clear kp231
  refine own_st (st238) ?_
  clear st238 X231 e231 W238 f235
  show OFin p e below s _ _ _ (T238.setTop (mkF m 14 #[.val (.ref ty), .val (.ref x), .val (.int (0 : Int32)), .val .null, .val .null] []))
  refine own_st (fun _ kS => XS.aloadN X238.here hx rfl (hb hby own_d8_14) rfl rfl kS) ?_
  show OFin p e below s _ _ _ (T238.setTop (mkF m 15 #[.val (.ref ty), .val (.ref x), .val (.int (0 : Int32)), .val .null, .val .null] [(.ref ty)]))
  refine own_st (fun _ kS => XS.aloadN X238.here hx rfl (hb hby own_d8_15) rfl rfl kS) ?_
  show OFin p e below s _ _ _ (T238.setTop (mkF m 16 #[.val (.ref ty), .val (.ref x), .val (.int (0 : Int32)), .val .null, .val .null] [.null, (.ref ty)]))
  obtain ⟨T245, h245, X245, e245, W245, st245⟩ := putF X238 hx hZ hown (host := "") (Or.inl (own_w hw 45 rfl)) Via.refl e238 f243 f240 (Or.inr ⟨(own_w hw 46 rfl), rfl, hnm⟩) (own_w hw 36 rfl) (ty := (.object "com/example/unify_trace/unifytrace/program/Type")) (by decide) rfl rfl (g := (mkF m 16 #[.val (.ref ty), .val (.ref x), .val (.int (0 : Int32)), .val .null, .val .null] [.null, (.ref ty)])) rfl rfl (hb hby own_d8_16)
  have f246 := f243.same W245
  have f247 := f240.wr W245
  clear f240
  have f248 := f241.other W245 (Or.inr (slot_ne (Or.inr (own_w hw 42 rfl)) (Or.inr (own_w hw 46 rfl)) (by decide) (t := (.object "java/lang/String")) (t' := (.object "com/example/unify_trace/unifytrace/program/Type")) (by decide) (by decide)))
  clear f241
  have f249 := f239.other W245 (Or.inr (slot_ne (Or.inr (own_w hw 44 rfl)) (Or.inr (own_w hw 46 rfl)) (by decide) (t := .boolean) (t' := (.object "com/example/unify_trace/unifytrace/program/Type")) (by decide) (by decide)))
  clear f239
  have f251 := f244.other W245 (Or.inr (slot_ne (Or.inr (own_w hw 48 rfl)) (Or.inr (own_w hw 46 rfl)) (by decide) (t := (.object "com/example/unify_trace/unifytrace/program/Type")) (t' := (.object "com/example/unify_trace/unifytrace/program/Type")) (by decide) (by decide)))
  clear f244
  have fr245 := Fr.snoc X245 fr238 g_ty
  clear fr238
  have kp245 := kp238.wr W245 (Or.inl (List.mem_of_getElem? (i := 0) rfl))
  clear kp238
  refine own_st (st245) ?_
  clear st245 X238 e238 W245 f243
  show OFin p e below s _ _ _ (T245.setTop (mkF m 19 #[.val (.ref ty), .val (.ref x), .val (.int (0 : Int32)), .val .null, .val .null] []))
  refine own_st (fun _ kS => XS.aloadN X245.here hx rfl (hb hby own_d8_19) rfl rfl kS) ?_
  show OFin p e below s _ _ _ (T245.setTop (mkF m 20 #[.val (.ref ty), .val (.ref x), .val (.int (0 : Int32)), .val .null, .val .null] [(.ref ty)]))
  refine own_st (fun _ kS => XS.aload X245.here hx rfl (hb hby own_d8_20) rfl rfl kS) ?_
  show OFin p e below s _ _ _ (T245.setTop (mkF m 22 #[.val (.ref ty), .val (.ref x), .val (.int (0 : Int32)), .val .null, .val .null] [.null, (.ref ty)]))
  obtain ⟨T252, h252, X252, e252, W252, st252⟩ := putF X245 hx hZ hown (host := "") (Or.inl (own_w hw 47 rfl)) Via.refl e245 f251 f247 (Or.inr ⟨(own_w hw 48 rfl), rfl, hnm⟩) (own_w hw 36 rfl) (ty := (.object "com/example/unify_trace/unifytrace/program/Type")) (by decide) rfl rfl (g := (mkF m 22 #[.val (.ref ty), .val (.ref x), .val (.int (0 : Int32)), .val .null, .val .null] [.null, (.ref ty)])) rfl rfl (hb hby own_d8_22)
  have f253 := f251.same W252
  have f254 := f247.wr W252
  clear f247
  have f255 := f248.other W252 (Or.inr (slot_ne (Or.inr (own_w hw 42 rfl)) (Or.inr (own_w hw 48 rfl)) (by decide) (t := (.object "java/lang/String")) (t' := (.object "com/example/unify_trace/unifytrace/program/Type")) (by decide) (by decide)))
  clear f248
  have f256 := f249.other W252 (Or.inr (slot_ne (Or.inr (own_w hw 44 rfl)) (Or.inr (own_w hw 48 rfl)) (by decide) (t := .boolean) (t' := (.object "com/example/unify_trace/unifytrace/program/Type")) (by decide) (by decide)))
  clear f249
  have f257 := f246.other W252 (Or.inr (slot_ne (Or.inr (own_w hw 46 rfl)) (Or.inr (own_w hw 48 rfl)) (by decide) (t := (.object "com/example/unify_trace/unifytrace/program/Type")) (t' := (.object "com/example/unify_trace/unifytrace/program/Type")) (by decide) (by decide)))
  clear f246
  have fr252 := Fr.snoc X252 fr245 g_ty
  clear fr245
  have kp252 := kp245.wr W252 (Or.inl (List.mem_of_getElem? (i := 0) rfl))
  clear kp245
  refine own_st (st252) ?_
  clear st252 X245 e245 W252 f251
  show OFin p e below s _ _ _ (T252.setTop (mkF m 25 #[.val (.ref ty), .val (.ref x), .val (.int (0 : Int32)), .val .null, .val .null] []))
  exact own_retV X252 hx hret hlk (hb hby own_d8_25) (by decide) (by decide) (by show _ ∧ _ ∧ Keep h0 T252.heap _ ∧ _; rw [e252]; exact ⟨rfl, fr252, kp252, ⟨f254, f255, f256, f257, f253⟩⟩)
set_option maxRecDepth 65536 in
set_option maxHeartbeats 40000000 in
theorem rmBa (l : Launch) (Z : State) (a0 : Array Value) (hw : ∀ d ∈ tables_1, d.before a0 Z = true) (x : Addr) (h0 : Heap) (n0 : Nat) (Z0 : n0 ≤ h0.size)  :
    OMet l Z (⟨"com/example/unify_trace/unifytrace/program/Type", "base", "(Ljava/lang/String;)Lcom/example/unify_trace/unifytrace/program/Type;"⟩ : MethodName) prog_19_method_2_code 1 (some (.object "com/example/unify_trace/unifytrace/program/Type")) (⟨2, 1, 4, 29⟩ : Room) #[(.ref x)] h0 (fun v h L => ∃ ty, v = some (.ref ty) ∧ Fr n0 L ∧ Keep h0 h [] ∧ h0.size ≤ ty ∧ BT Z h ty x) := by
  refine own_enter own_pn7 ?_
  intro p e s m below meth c T0 X0 hC e0
  obtain ⟨hx, hZ, hby, hml, hown, hret, hlk, hnm⟩ := hC
  have hown : s.vm.findClass "com/example/unify_trace/unifytrace/program/Type" = some m.cls := hown
  refine own_at (own_ef7_R m x) ?_
  show OFin p e below s _ _ _ (T0.setTop (mkF m 0 #[.val (.ref x)] []))
  have N0 := Fr.nil n0
  have kp0 := Keep.refl h0 []
  obtain ⟨T259, h259, X259, e259, E259, A259, D259, -, st259⟩ := newO X0 hx hZ hown (own_w hw 35 rfl) (own_w hw 36 rfl) (own_w hw 33 rfl) e0 (g := (mkF m 0 #[.val (.ref x)] [])) rfl (hb hby own_d7_0) (by decide) (by decide)
  obtain ⟨ty, g259⟩ : ∃ z, z = h0.size := ⟨_, rfl⟩
  rw [← g259] at A259 D259 st259
  have g_ty : n0 ≤ ty := Nat.le_trans Z0 (Nat.le_of_eq g259.symm)
  have f260 : Fld Z h259 ty "com/example/unify_trace/unifytrace/program/Type" "name" "Ljava/lang/String;" .null := D259 (Or.inr (own_w hw 42 rfl)) (ty := (.object "java/lang/String")) (by decide)
  have f261 : Fld Z h259 ty "com/example/unify_trace/unifytrace/program/Type" "variable" "Z" (.int (0 : Int32)) := D259 (Or.inr (own_w hw 44 rfl)) (ty := .boolean) (by decide)
  have f262 : Fld Z h259 ty "com/example/unify_trace/unifytrace/program/Type" "argument" "Lcom/example/unify_trace/unifytrace/program/Type;" .null := D259 (Or.inr (own_w hw 46 rfl)) (ty := (.object "com/example/unify_trace/unifytrace/program/Type")) (by decide)
  have f263 : Fld Z h259 ty "com/example/unify_trace/unifytrace/program/Type" "result" "Lcom/example/unify_trace/unifytrace/program/Type;" .null := D259 (Or.inr (own_w hw 48 rfl)) (ty := (.object "com/example/unify_trace/unifytrace/program/Type")) (by decide)
  have sz259 : n0 ≤ h259.size := Nat.le_trans Z0 E259.1
  have kp259 := kp0.ext E259
  have kz_ty := Nat.le_trans kp0.1 (Nat.le_of_eq g259.symm)
  clear kp0
  refine own_st (st259) ?_
  clear st259 X0 e0 E259 D259 g259
  show OFin p e below s _ _ _ (T259.setTop (mkF m 3 #[.val (.ref x)] [(.ref ty)]))
  refine own_st (fun _ kS => XS.dup X259.here hx rfl (hb hby own_d7_3) rfl rfl kS) ?_
  show OFin p e below s _ _ _ (T259.setTop (mkF m 4 #[.val (.ref x)] [(.ref ty), (.ref ty)]))
  refine own_st (fun _ kS => XS.aloadN X259.here hx rfl (hb hby own_d7_4) rfl rfl kS) ?_
  show OFin p e below s _ _ _ (T259.setTop (mkF m 5 #[.val (.ref x)] [(.ref x), (.ref ty), (.ref ty)]))
  refine own_st (fun _ kS => XS.iconst X259.here hx rfl (hb hby own_d7_5) kS) ?_
  show OFin p e below s _ _ _ (T259.setTop (mkF m 6 #[.val (.ref x)] [(.int (0 : Int32)), (.ref x), (.ref ty), (.ref ty)]))
  refine own_st (fun _ kS => XS.aconstNull X259.here hx rfl (hb hby own_d7_6) kS) ?_
  show OFin p e below s _ _ _ (T259.setTop (mkF m 7 #[.val (.ref x)] [.null, (.int (0 : Int32)), (.ref x), (.ref ty), (.ref ty)]))
  refine own_st (fun _ kS => XS.aconstNull X259.here hx rfl (hb hby own_d7_7) kS) ?_
  show OFin p e below s _ _ _ (T259.setTop (mkF m 8 #[.val (.ref x)] [.null, .null, (.int (0 : Int32)), (.ref x), (.ref ty), (.ref ty)]))
  obtain ⟨v264, T264, L264, X264, hQ264, st264⟩ := own_init X259 hx hZ (y := (⟨"com/example/unify_trace/unifytrace/program/Type", "<init>", "(Ljava/lang/String;ZLcom/example/unify_trace/unifytrace/program/Type;Lcom/example/unify_trace/unifytrace/program/Type;)V"⟩ : MethodName)) (rm := ⟨1, 0, 0, 12⟩) (W := 1) (a := ty) (argsL := [(.ref x), (.int (0 : Int32)), .null, .null]) (rest := [(.ref ty)]) rfl hown (own_w hw 37 rfl) (own_w hw 38 rfl) (own_w hw 33 rfl) (own_w hw 39 rfl) (rmTy l Z a0 hw ty x _ h259 n0 rfl A259 f260 f261 f262 f263 g_ty) e259 (g := (mkF m 8 #[.val (.ref x)] [.null, .null, (.int (0 : Int32)), (.ref x), (.ref ty), (.ref ty)])) rfl (by rw [hml]; rfl) (lenOf own_pd18 rfl) rfl (by show 2 * 0 + _ ≤ _; exact Nat.le_of_eq rfl) (hb hby own_d7_8) (by decide) (by decide) (by decide) (by decide)
  obtain ⟨rfl, N264, K264, BB⟩ := hQ264
  have fr264 := Fr.app N0 N264
  clear N0
  have kp264 := kp259.trans K264 (allS (Or.inr kz_ty) all0)
  clear kp259
  have f265 := A259.keep K264
  clear f260
  clear f261
  clear f262
  clear f263
  have sz264 : n0 ≤ T264.heap.size := Nat.le_trans sz259 K264.1
  clear sz259
  refine own_st (st264) ?_
  clear st264 X259 e259
  show OFin p e below s _ _ _ (T264.setTop (mkF m 11 #[.val (.ref x)] [(.ref ty)]))
  exact own_ret X264 hx (t := (.object "com/example/unify_trace/unifytrace/program/Type")) hret hlk rfl (Or.inr (Or.inr (Or.inr (Or.inr ⟨rfl, rfl, rfl⟩)))) (hb hby own_d7_11) (by decide) (by decide) ⟨ty, rfl, fr264, kp264, kz_ty, BB⟩
set_option maxRecDepth 65536 in
set_option maxHeartbeats 40000000 in
theorem rmTe (l : Launch) (Z : State) (a0 : Array Value) (hw : ∀ d ∈ tables_1, d.before a0 Z = true) (ty : Addr) (y : Addr) (h0 : Heap) (x dc : Addr) (cs : List Int32) (z : Int32) (fm : Value) (n0 : Nat) (Z0 : n0 ≤ h0.size) (B_t : BT Z h0 ty x) (O1 : OStr Z h0 x cs) (hn : own_name cs) (S_c : Sta Z Z.heap "java/lang/String" "COMPACT_STRINGS" "Z" (.int z)) (hz : ¬ z = 0) (S_f : Sta Z Z.heap "jdk/internal/util/Preconditions" "SIOOBE_FORMATTER" "Ljava/util/function/BiFunction;" fm) (rf : fm.isRef = true) (O : Old Z n0 h0) (S_dc : Sta Z Z.heap "java/util/ArrayList" "DEFAULTCAPACITY_EMPTY_ELEMENTDATA" "[Ljava/lang/Object;" (.ref dc)) (A_dc : OArr Z Z.heap dc (.object "java/lang/Object") 0 (fun _ => .null)) :
    OMetW l Z (fun _ => True) (⟨"com/example/unify_trace/unifytrace/program/Type", "term", "(Ljava/lang/String;)Lcom/example/unify_trace/unifytrace/term/Term;"⟩ : MethodName) prog_19_method_6_code 8 (some (.object "com/example/unify_trace/unifytrace/term/Term")) (⟨7, 11, 75, 102⟩ : Room) #[(.ref ty), (.ref y)] h0 (fun v vm h L => ∃ c0 br, v = some (.ref c0) ∧ Fr n0 L ∧ Keep h0 h [] ∧ Exa Z h c0 "com/example/unify_trace/unifytrace/term/Compound" ∧ Fld Z h c0 "com/example/unify_trace/unifytrace/term/Term" "name" "Ljava/lang/String;" (.ref x) ∧ Fld Z h c0 "com/example/unify_trace/unifytrace/term/Compound" "arguments" "[Lcom/example/unify_trace/unifytrace/term/Term;" (.ref br) ∧ ORef Z h br (.object "com/example/unify_trace/unifytrace/term/Term") "com/example/unify_trace/unifytrace/term/Term" 0 (fun _ => .null)) := by
  refine own_enterW own_pn9 ?_
  intro p e s m below meth c T0 X0 hC e0 eS hPv
  have hC0 := hC
  obtain ⟨hx, hZ, hby, hml, hown, hret, hlk, hnm⟩ := hC
  have hown : s.vm.findClass "com/example/unify_trace/unifytrace/program/Type" = some m.cls := hown
  refine own_atE (own_ef9_RR m ty y) ?_
  show OFinE p e below _ (T0.setTop (mkF m 0 #[.val (.ref ty), .val (.ref y), .unset, .unset, .unset, .unset, .unset, .unset] []))
  have N0 := Fr.nil n0
  have kp0 := Keep.refl h0 []
  obtain ⟨u270, u271, u272, u273, u274⟩ := B_t
  obtain ⟨T275, h275, X275, e275, E275, A275, D275, -, st275⟩ := newO X0 hx hZ hown (own_w hw 57 rfl) (own_w hw 58 rfl) (own_w hw 59 rfl) e0 (g := (mkF m 0 #[.val (.ref ty), .val (.ref y), .unset, .unset, .unset, .unset, .unset, .unset] [])) rfl (hb hby own_d9_0) (by decide) (by decide)
  obtain ⟨b, g275⟩ : ∃ z, z = h0.size := ⟨_, rfl⟩
  rw [← g275] at A275 D275 st275
  have g_b : n0 ≤ b := Nat.le_trans Z0 (Nat.le_of_eq g275.symm)
  have od275 := O.ext E275
  have f276 : Fld Z h275 b "java/util/AbstractList" "modCount" "I" (.int (0 : Int32)) := D275 (Or.inl (own_w hw 77 rfl)) (ty := .int) (by decide)
  have f277 : Fld Z h275 b "java/util/ArrayList" "elementData" "[Ljava/lang/Object;" .null := D275 (Or.inl (own_w hw 80 rfl)) (ty := (.array (.object "java/lang/Object"))) (by decide)
  have f278 : Fld Z h275 b "java/util/ArrayList" "size" "I" (.int (0 : Int32)) := D275 (Or.inl (own_w hw 160 rfl)) (ty := .int) (by decide)
  have sz275 : n0 ≤ h275.size := Nat.le_trans Z0 E275.1
  have kp275 := kp0.ext E275
  have kz_b := Nat.le_trans kp0.1 (Nat.le_of_eq g275.symm)
  clear kp0
  refine own_stE (st275) ?_
  clear st275 X0 e0 E275 D275 g275
  show OFinE p e below _ (T275.setTop (mkF m 3 #[.val (.ref ty), .val (.ref y), .unset, .unset, .unset, .unset, .unset, .unset] [(.ref b)]))
  refine own_stE (fun _ kS => XS.dup X275.here hx rfl (hb hby own_d9_3) rfl rfl kS) ?_
  show OFinE p e below _ (T275.setTop (mkF m 4 #[.val (.ref ty), .val (.ref y), .unset, .unset, .unset, .unset, .unset, .unset] [(.ref b), (.ref b)]))
  obtain ⟨v279, T279, L279, X279, hQ279, st279⟩ := own_init X275 hx hZ (y := (⟨"java/util/ArrayList", "<init>", "()V"⟩ : MethodName)) (rm := ⟨3, 0, 0, 36⟩) (W := 1) (a := b) (argsL := []) (rest := [(.ref b)]) rfl hown (own_w hw 60 rfl) (own_w hw 61 rfl) (own_w hw 59 rfl) (own_w hw 62 rfl) (rmAL l Z a0 hw b h275 n0 dc A275 f276 f277 f278 g_b od275 S_dc) e275 (g := (mkF m 4 #[.val (.ref ty), .val (.ref y), .unset, .unset, .unset, .unset, .unset, .unset] [(.ref b), (.ref b)])) rfl (by rw [hml]; rfl) (lenOf own_pd8 rfl) rfl (by show 2 * 0 + _ ≤ _; exact Nat.le_of_eq rfl) (hb hby own_d9_4) (by decide) (by decide) (by decide) (by decide)
  obtain ⟨rfl, N279, K279, EB279, FM279, FE279, FS279⟩ := hQ279
  have fr279 := Fr.app N0 N279
  clear N0
  have kp279 := kp275.trans K279 (allS (Or.inr kz_b) all0)
  clear kp275
  have od279 := od275.keep K279 (allS g_b all0)
  clear od275
  have f280 := A275.keep K279
  clear f276
  clear f277
  clear f278
  have sz279 : n0 ≤ T279.heap.size := Nat.le_trans sz275 K279.1
  clear sz275
  refine own_stE (st279) ?_
  clear st279 X275 e275
  show OFinE p e below _ (T279.setTop (mkF m 7 #[.val (.ref ty), .val (.ref y), .unset, .unset, .unset, .unset, .unset, .unset] [(.ref b)]))
  refine own_stE (fun _ kS => XS.astoreN X279.here hx rfl (hb hby own_d9_7) rfl rfl (l' := #[.val (.ref ty), .val (.ref y), .val (.ref b), .unset, .unset, .unset, .unset, .unset]) rfl kS) ?_
  show OFinE p e below _ (T279.setTop (mkF m 8 #[.val (.ref ty), .val (.ref y), .val (.ref b), .unset, .unset, .unset, .unset, .unset] []))
  obtain ⟨T284, h284, X284, e284, E284, A284, D284, -, st284⟩ := newO X279 hx hZ hown (own_w hw 81 rfl) (own_w hw 82 rfl) (own_w hw 83 rfl) rfl (g := (mkF m 8 #[.val (.ref ty), .val (.ref y), .val (.ref b), .unset, .unset, .unset, .unset, .unset] [])) rfl (hb hby own_d9_8) (by decide) (by decide)
  obtain ⟨dq, g284⟩ : ∃ z, z = T279.heap.size := ⟨_, rfl⟩
  rw [← g284] at A284 D284 st284
  have ne_b_dq : b ≠ dq := Nat.ne_of_lt (Nat.lt_of_lt_of_le EB279.lt (Nat.le_of_eq g284.symm))
  have g_dq : n0 ≤ dq := Nat.le_trans sz279 (Nat.le_of_eq g284.symm)
  have od284 := od279.ext E284
  clear od279
  have f285 := EB279.ext E284
  have f286 := FM279.ext E284
  have f287 := FE279.ext E284
  have f288 := FS279.ext E284
  have f289 : Fld Z h284 dq "java/util/ArrayDeque" "elements" "[Ljava/lang/Object;" .null := D284 (Or.inl (own_w hw 92 rfl)) (ty := (.array (.object "java/lang/Object"))) (by decide)
  have f290 : Fld Z h284 dq "java/util/ArrayDeque" "head" "I" (.int (0 : Int32)) := D284 (Or.inl (own_w hw 108 rfl)) (ty := .int) (by decide)
  have f291 : Fld Z h284 dq "java/util/ArrayDeque" "tail" "I" (.int (0 : Int32)) := D284 (Or.inl (own_w hw 114 rfl)) (ty := .int) (by decide)
  have sz284 : n0 ≤ h284.size := Nat.le_trans sz279 E284.1
  clear sz279
  have kp284 := kp279.ext E284
  have kz_dq := Nat.le_trans kp279.1 (Nat.le_of_eq g284.symm)
  clear kp279
  refine own_stE (st284) ?_
  clear st284 X279 E284 D284 g284
  show OFinE p e below _ (T284.setTop (mkF m 11 #[.val (.ref ty), .val (.ref y), .val (.ref b), .unset, .unset, .unset, .unset, .unset] [(.ref dq)]))
  refine own_stE (fun _ kS => XS.dup X284.here hx rfl (hb hby own_d9_11) rfl rfl kS) ?_
  show OFinE p e below _ (T284.setTop (mkF m 12 #[.val (.ref ty), .val (.ref y), .val (.ref b), .unset, .unset, .unset, .unset, .unset] [(.ref dq), (.ref dq)]))
  obtain ⟨v292, T292, L292, X292, hQ292, st292⟩ := own_init X284 hx hZ (y := (⟨"java/util/ArrayDeque", "<init>", "()V"⟩ : MethodName)) (rm := ⟨2, 1, 17, 24⟩) (W := 1) (a := dq) (argsL := []) (rest := [(.ref dq)]) rfl hown (own_w hw 84 rfl) (own_w hw 85 rfl) (own_w hw 83 rfl) (own_w hw 86 rfl) (rmDI l Z a0 hw dq h284 n0 sz284 A284 f289 f290 f291 g_dq) e284 (g := (mkF m 12 #[.val (.ref ty), .val (.ref y), .val (.ref b), .unset, .unset, .unset, .unset, .unset] [(.ref dq), (.ref dq)])) rfl (by rw [hml]; rfl) (lenOf own_pd8 rfl) rfl (by show 2 * 0 + _ ≤ _; exact Nat.le_of_eq rfl) (hb hby own_d9_12) (by decide) (by decide) (by decide) (by decide)
  obtain ⟨rfl, N292, K292, da, ge_da, B292_0⟩ := hQ292
  have ne_b_da : b ≠ da := Nat.ne_of_lt (Nat.lt_of_lt_of_le f285.lt ge_da)
  have ne_dq_da : dq ≠ da := Nat.ne_of_lt (Nat.lt_of_lt_of_le A284.lt ge_da)
  have g_da : n0 ≤ da := Nat.le_trans sz284 ge_da
  have kz_da := Nat.le_trans kp284.1 ge_da
  have fr292 := Fr.app fr279 N292
  clear fr279 N292
  have kp292 := kp284.trans K292 (allS (Or.inr kz_dq) all0)
  clear kp284
  have od292 := od284.keep K292 (allS g_dq all0)
  clear od284
  have f293 := f285.keep K292
  clear f285
  have f294 := f286.keep K292 (ninS ne_b_dq nin0)
  clear f286
  have f295 := f287.keep K292 (ninS ne_b_dq nin0)
  clear f287
  have f296 := f288.keep K292 (ninS ne_b_dq nin0)
  clear f288
  have f297 := A284.keep K292
  clear f289
  clear f290
  clear f291
  have sz292 : n0 ≤ T292.heap.size := Nat.le_trans sz284 K292.1
  clear sz284
  clear K292
  obtain ⟨u301, u302, u303, u304, u305⟩ := B292_0
  refine own_stE (st292) ?_
  clear st292 X284 e284
  show OFinE p e below _ (T292.setTop (mkF m 15 #[.val (.ref ty), .val (.ref y), .val (.ref b), .unset, .unset, .unset, .unset, .unset] [(.ref dq)]))
  refine own_stE (fun _ kS => XS.astoreN X292.here hx rfl (hb hby own_d9_15) rfl rfl (l' := #[.val (.ref ty), .val (.ref y), .val (.ref b), .val (.ref dq), .unset, .unset, .unset, .unset]) rfl kS) ?_
  show OFinE p e below _ (T292.setTop (mkF m 16 #[.val (.ref ty), .val (.ref y), .val (.ref b), .val (.ref dq), .unset, .unset, .unset, .unset] []))
  refine own_stE (fun _ kS => XS.aloadN X292.here hx rfl (hb hby own_d9_16) rfl rfl kS) ?_
  show OFinE p e below _ (T292.setTop (mkF m 17 #[.val (.ref ty), .val (.ref y), .val (.ref b), .val (.ref dq), .unset, .unset, .unset, .unset] [(.ref dq)]))
  refine own_stE (fun _ kS => XS.aloadN X292.here hx rfl (hb hby own_d9_17) rfl rfl kS) ?_
  show OFinE p e below _ (T292.setTop (mkF m 18 #[.val (.ref ty), .val (.ref y), .val (.ref b), .val (.ref dq), .unset, .unset, .unset, .unset] [(.ref ty), (.ref dq)]))
  obtain ⟨v306, T306, L306, X306, hQ306, st306⟩ := own_face X292 hx hZ (y := (⟨"java/util/Deque", "push", "(Ljava/lang/Object;)V"⟩ : MethodName)) (z := (⟨"java/util/ArrayDeque", "push", "(Ljava/lang/Object;)V"⟩ : MethodName)) (rm := ⟨2, 0, 0, 29⟩) (W := 0) (a := dq) (argsL := [(.ref ty)]) (rest := []) hown (own_w hw 93 rfl) (own_w hw 94 rfl) (mvT hZ (own_w hw 95 rfl)) (own_w hw 96 rfl) (own_w hw 97 rfl) (own_w hw 98 rfl) (own_w hw 99 rfl) (own_w hw 100 rfl) (own_w hw 83 rfl) (own_w hw 101 rfl) (rmPu l Z a0 hw dq ty T292.heap n0 da (fun _ => .null) ⟨u301, u302, u303, u304, u305⟩ ne_dq_da g_dq g_da (Ins.of_exa (u270.keep kp292) (own_w hw 112 rfl))) rfl u301 (g := (mkF m 18 #[.val (.ref ty), .val (.ref y), .val (.ref b), .val (.ref dq), .unset, .unset, .unset, .unset] [(.ref ty), (.ref dq)])) rfl (by rw [hml]; rfl) (lenOf own_pd15 rfl) rfl (by show 2 * 0 + _ ≤ _; exact Nat.le_of_eq rfl) (hb hby own_d9_18) (by decide) (by decide) (by decide) (by decide)
  obtain ⟨rfl, N306, K306, B306_0⟩ := hQ306
  have fr306 := Fr.app fr292 N306
  clear fr292 N306
  have kp306 := kp292.trans K306 (allS (Or.inr kz_dq) (allS (Or.inr kz_da) all0))
  clear kp292
  have od306 := od292.keep K306 (allS g_dq (allS g_da all0))
  clear od292
  have f307 := f293.keep K306
  clear f293
  have f308 := f294.keep K306 (ninS ne_b_dq (ninS ne_b_da nin0))
  clear f294
  have f309 := f295.keep K306 (ninS ne_b_dq (ninS ne_b_da nin0))
  clear f295
  have f310 := f296.keep K306 (ninS ne_b_dq (ninS ne_b_da nin0))
  clear f296
  have f311 := u301.keep K306
  clear u301
  clear u302
  clear u303
  clear u304
  clear u305
  have sz306 : n0 ≤ T306.heap.size := Nat.le_trans sz292 K306.1
  clear sz292
  clear K306
  obtain ⟨u316, u317, u318, u319, u320⟩ := B306_0
  refine own_stE (st306) ?_
  clear st306 X292
  show OFinE p e below _ (T306.setTop (mkF m 23 #[.val (.ref ty), .val (.ref y), .val (.ref b), .val (.ref dq), .unset, .unset, .unset, .unset] []))
  refine own_stE (fun _ kS => XS.aloadN X306.here hx rfl (hb hby own_d9_23) rfl rfl kS) ?_
  show OFinE p e below _ (T306.setTop (mkF m 24 #[.val (.ref ty), .val (.ref y), .val (.ref b), .val (.ref dq), .unset, .unset, .unset, .unset] [(.ref dq)]))
  obtain ⟨v321, T321, L321, X321, hQ321, st321⟩ := own_faceUp X306 hx hZ (J := "java/util/Collection") (y := (⟨"java/util/Deque", "isEmpty", "()Z"⟩ : MethodName)) (z := (⟨"java/util/ArrayDeque", "isEmpty", "()Z"⟩ : MethodName)) (rm := ⟨0, 0, 0, 0⟩) (W := 0) (a := dq) (argsL := []) (rest := []) hown (own_w hw 115 rfl) (own_w hw 116 rfl) (own_mvI hZ (own_w hw 117 rfl)) (by decide) (by decide) (own_w hw 118 rfl) (own_w hw 119 rfl) (own_w hw 120 rfl) (own_w hw 121 rfl) (own_w hw 100 rfl) (own_w hw 83 rfl) (own_w hw 122 rfl) (rmDE0 l Z a0 hw dq T306.heap u318 u319) rfl u316 (g := (mkF m 24 #[.val (.ref ty), .val (.ref y), .val (.ref b), .val (.ref dq), .unset, .unset, .unset, .unset] [(.ref dq)])) rfl (by rw [hml]; rfl) (lenOf own_pd4 rfl) rfl (by show 2 * 0 + _ ≤ _; exact Nat.le_of_eq rfl) (hb hby own_d9_24) (by decide) (by decide) (by decide) (by decide)
  obtain ⟨rfl, e321, rfl⟩ := hQ321
  rw [List.append_nil] at X321
  refine own_stE (st321) ?_
  clear st321 X306
  show OFinE p e below _ (T321.setTop (mkF m 29 #[.val (.ref ty), .val (.ref y), .val (.ref b), .val (.ref dq), .unset, .unset, .unset, .unset] [(.int (0 : Int32))]))
  refine own_stE (fun _ kS => XS.ifNo X321.here hx rfl (hb hby own_d9_29) rfl ((if0 _ _).trans (teq rfl).2) kS) ?_
  show OFinE p e below _ (T321.setTop (mkF m 32 #[.val (.ref ty), .val (.ref y), .val (.ref b), .val (.ref dq), .unset, .unset, .unset, .unset] []))
  refine own_stE (fun _ kS => XS.aloadN X321.here hx rfl (hb hby own_d9_32) rfl rfl kS) ?_
  show OFinE p e below _ (T321.setTop (mkF m 33 #[.val (.ref ty), .val (.ref y), .val (.ref b), .val (.ref dq), .unset, .unset, .unset, .unset] [(.ref dq)]))
  obtain ⟨v322, T322, L322, X322, hQ322, st322⟩ := own_face X321 hx hZ (y := (⟨"java/util/Deque", "pop", "()Ljava/lang/Object;"⟩ : MethodName)) (z := (⟨"java/util/ArrayDeque", "pop", "()Ljava/lang/Object;"⟩ : MethodName)) (rm := ⟨3, 0, 0, 42⟩) (W := 0) (a := dq) (argsL := []) (rest := []) hown (own_w hw 123 rfl) (own_w hw 124 rfl) (mvT hZ (own_w hw 125 rfl)) (own_w hw 126 rfl) (own_w hw 127 rfl) (own_w hw 128 rfl) (own_w hw 129 rfl) (own_w hw 100 rfl) (own_w hw 83 rfl) (own_w hw 130 rfl) (rmPo l Z a0 hw dq T306.heap n0 da ty (fun i => if i = 16 then .ref ty else (fun _ => .null) i) ⟨u316, u317, u318, u319, u320⟩ ne_dq_da g_dq g_da rfl) e321 u316 (g := (mkF m 33 #[.val (.ref ty), .val (.ref y), .val (.ref b), .val (.ref dq), .unset, .unset, .unset, .unset] [(.ref dq)])) rfl (by rw [hml]; rfl) (lenOf own_pd17 rfl) rfl (by show 2 * 0 + _ ≤ _; exact Nat.le_of_eq rfl) (hb hby own_d9_33) (by decide) (by decide) (by decide) (by decide)
  obtain ⟨rfl, N322, K322, B322_0⟩ := hQ322
  have fr322 := Fr.app fr306 N322
  clear fr306 N322
  have kp322 := kp306.trans K322 (allS (Or.inr kz_dq) (allS (Or.inr kz_da) all0))
  clear kp306
  have od322 := od306.keep K322 (allS g_dq (allS g_da all0))
  clear od306
  have f323 := f307.keep K322
  clear f307
  have f324 := f308.keep K322 (ninS ne_b_dq (ninS ne_b_da nin0))
  clear f308
  have f325 := f309.keep K322 (ninS ne_b_dq (ninS ne_b_da nin0))
  clear f309
  have f326 := f310.keep K322 (ninS ne_b_dq (ninS ne_b_da nin0))
  clear f310
  have f327 := u316.keep K322
  clear u316
  clear u317
  clear u318
  clear u319
  clear u320
  have sz322 : n0 ≤ T322.heap.size := Nat.le_trans sz306 K322.1
  clear sz306
  clear K322
  obtain ⟨u332, u333, u334, u335, u336⟩ := B322_0
  refine own_stE (st322) ?_
  clear st322 X321 e321
  show OFinE p e below _ (T322.setTop (mkF m 38 #[.val (.ref ty), .val (.ref y), .val (.ref b), .val (.ref dq), .unset, .unset, .unset, .unset] [(.ref ty)]))
  obtain ⟨T337, X337, e337, st337⟩ := castY X322 hx hZ hown (own_w hw 35 rfl) rfl (Ins.self (u270.keep kp322)) (g := (mkF m 38 #[.val (.ref ty), .val (.ref y), .val (.ref b), .val (.ref dq), .unset, .unset, .unset, .unset] [(.ref ty)])) rfl rfl (hb hby own_d9_38)
  refine own_stE (st337) ?_
  clear st337 X322
  show OFinE p e below _ (T337.setTop (mkF m 41 #[.val (.ref ty), .val (.ref y), .val (.ref b), .val (.ref dq), .unset, .unset, .unset, .unset] [(.ref ty)]))
  refine own_stE (fun _ kS => XS.astore X337.here hx rfl (hb hby own_d9_41) rfl rfl (l' := #[.val (.ref ty), .val (.ref y), .val (.ref b), .val (.ref dq), .val (.ref ty), .unset, .unset, .unset]) rfl kS) ?_
  show OFinE p e below _ (T337.setTop (mkF m 43 #[.val (.ref ty), .val (.ref y), .val (.ref b), .val (.ref dq), .val (.ref ty), .unset, .unset, .unset] []))
  refine own_stE (fun _ kS => XS.aloadN X337.here hx rfl (hb hby own_d9_43) rfl rfl kS) ?_
  show OFinE p e below _ (T337.setTop (mkF m 44 #[.val (.ref ty), .val (.ref y), .val (.ref b), .val (.ref dq), .val (.ref ty), .unset, .unset, .unset] [(.ref b)]))
  refine own_stE (fun _ kS => XS.aload X337.here hx rfl (hb hby own_d9_44) rfl rfl kS) ?_
  show OFinE p e below _ (T337.setTop (mkF m 46 #[.val (.ref ty), .val (.ref y), .val (.ref b), .val (.ref dq), .val (.ref ty), .unset, .unset, .unset] [(.ref ty), (.ref b)]))
  obtain ⟨v338, T338, L338, X338, hQ338, st338⟩ := own_face X337 hx hZ (y := (⟨"java/util/List", "add", "(Ljava/lang/Object;)Z"⟩ : MethodName)) (z := (⟨"java/util/ArrayList", "add", "(Ljava/lang/Object;)Z"⟩ : MethodName)) (rm := ⟨4, 1, 10, 56⟩) (W := 0) (a := b) (argsL := [(.ref ty)]) (rest := []) hown (own_w hw 148 rfl) (own_w hw 149 rfl) (mvT hZ (own_w hw 150 rfl)) (own_w hw 151 rfl) (own_w hw 152 rfl) (own_w hw 153 rfl) (own_w hw 154 rfl) (own_w hw 155 rfl) (own_w hw 59 rfl) (own_w hw 156 rfl) (rmA0 l Z a0 hw b ty T322.heap n0 sz322 dc f323 f324 f325 f326 g_b (u270.keep kp322) od322 S_dc A_dc) e337 f323 (g := (mkF m 46 #[.val (.ref ty), .val (.ref y), .val (.ref b), .val (.ref dq), .val (.ref ty), .unset, .unset, .unset] [(.ref ty), (.ref b)])) rfl (by rw [hml]; rfl) (lenOf own_pd19 rfl) rfl (by show 2 * 0 + _ ≤ _; exact Nat.le_of_eq rfl) (hb hby own_d9_46) (by decide) (by decide) (by decide) (by decide)
  obtain ⟨rfl, N338, K338, ar, ge_ar, B338_0⟩ := hQ338
  have ne_b_ar : b ≠ ar := Nat.ne_of_lt (Nat.lt_of_lt_of_le f323.lt ge_ar)
  have ne_da_ar : da ≠ ar := Nat.ne_of_lt (Nat.lt_of_lt_of_le u336.lt ge_ar)
  have ne_dq_ar : dq ≠ ar := Nat.ne_of_lt (Nat.lt_of_lt_of_le u332.lt ge_ar)
  have g_ar : n0 ≤ ar := Nat.le_trans sz322 ge_ar
  have kz_ar := Nat.le_trans kp322.1 ge_ar
  have fr338 := Fr.app fr322 N338
  clear fr322 N338
  have kp338 := kp322.trans K338 (allS (Or.inr kz_b) all0)
  clear kp322
  have od338 := od322.keep K338 (allS g_b all0)
  clear od322
  have f339 := f323.keep K338
  clear f323
  clear f324
  clear f325
  clear f326
  have f343 := u332.keep K338
  clear u332
  have f344 := u333.keep K338 (ninS (Ne.symm ne_b_dq) nin0)
  clear u333
  have f345 := u334.keep K338 (ninS (Ne.symm ne_b_dq) nin0)
  clear u334
  have f346 := u335.keep K338 (ninS (Ne.symm ne_b_dq) nin0)
  clear u335
  have f347 := u336.keep K338 (ninS (Ne.symm ne_b_da) nin0)
  clear u336
  have sz338 : n0 ≤ T338.heap.size := Nat.le_trans sz322 K338.1
  clear sz322
  clear K338
  obtain ⟨u348, u349, u350, u351, u352⟩ := B338_0
  refine own_stE (st338) ?_
  clear st338 X337 e337
  show OFinE p e below _ (T338.setTop (mkF m 51 #[.val (.ref ty), .val (.ref y), .val (.ref b), .val (.ref dq), .val (.ref ty), .unset, .unset, .unset] [(.int (1 : Int32))]))
  refine own_stE (fun _ kS => XS.pop X338.here hx rfl (hb hby own_d9_51) rfl rfl kS) ?_
  show OFinE p e below _ (T338.setTop (mkF m 52 #[.val (.ref ty), .val (.ref y), .val (.ref b), .val (.ref dq), .val (.ref ty), .unset, .unset, .unset] []))
  refine own_stE (fun _ kS => XS.aload X338.here hx rfl (hb hby own_d9_52) rfl rfl kS) ?_
  show OFinE p e below _ (T338.setTop (mkF m 54 #[.val (.ref ty), .val (.ref y), .val (.ref b), .val (.ref dq), .val (.ref ty), .unset, .unset, .unset] [(.ref ty)]))
  obtain ⟨T353, X353, e353, st353⟩ := getF X338 hx hZ hown (host := "") (Or.inl (own_w hw 41 rfl)) Via.refl rfl (u271.keep kp338 nin0) (g := (mkF m 54 #[.val (.ref ty), .val (.ref y), .val (.ref b), .val (.ref dq), .val (.ref ty), .unset, .unset, .unset] [(.ref ty)])) rfl rfl (hb hby own_d9_54)
  refine own_stE (st353) ?_
  clear st353 X338
  show OFinE p e below _ (T353.setTop (mkF m 57 #[.val (.ref ty), .val (.ref y), .val (.ref b), .val (.ref dq), .val (.ref ty), .unset, .unset, .unset] [(.ref x)]))
  refine own_stE (fun _ kS => XS.ifnonnullYes X353.here hx rfl (pc0 := 57) (pc' := 82) rfl (hb hby own_d9_57) rfl (by decide) (by decide) kS) ?_
  show OFinE p e below _ (T353.setTop (mkF m 82 #[.val (.ref ty), .val (.ref y), .val (.ref b), .val (.ref dq), .val (.ref ty), .unset, .unset, .unset] []))
  refine own_stE (fun _ kS => XS.goto X353.here hx rfl (pc0 := 82) (pc' := 23) rfl (hb hby own_d9_82) (by decide) (by decide) kS) ?_
  show OFinE p e below _ (T353.setTop (mkF m 23 #[.val (.ref ty), .val (.ref y), .val (.ref b), .val (.ref dq), .val (.ref ty), .unset, .unset, .unset] []))
  refine own_stE (fun _ kS => XS.aloadN X353.here hx rfl (hb hby own_d9_23) rfl rfl kS) ?_
  show OFinE p e below _ (T353.setTop (mkF m 24 #[.val (.ref ty), .val (.ref y), .val (.ref b), .val (.ref dq), .val (.ref ty), .unset, .unset, .unset] [(.ref dq)]))
  obtain ⟨v354, T354, L354, X354, hQ354, st354⟩ := own_faceUp X353 hx hZ (J := "java/util/Collection") (y := (⟨"java/util/Deque", "isEmpty", "()Z"⟩ : MethodName)) (z := (⟨"java/util/ArrayDeque", "isEmpty", "()Z"⟩ : MethodName)) (rm := ⟨0, 0, 0, 0⟩) (W := 0) (a := dq) (argsL := []) (rest := []) hown (own_w hw 115 rfl) (own_w hw 116 rfl) (own_mvI hZ (own_w hw 117 rfl)) (by decide) (by decide) (own_w hw 118 rfl) (own_w hw 119 rfl) (own_w hw 120 rfl) (own_w hw 121 rfl) (own_w hw 100 rfl) (own_w hw 83 rfl) (own_w hw 122 rfl) (rmDE1 l Z a0 hw dq T338.heap f345 f346) e353 f343 (g := (mkF m 24 #[.val (.ref ty), .val (.ref y), .val (.ref b), .val (.ref dq), .val (.ref ty), .unset, .unset, .unset] [(.ref dq)])) rfl (by rw [hml]; rfl) (lenOf own_pd4 rfl) rfl (by show 2 * 0 + _ ≤ _; exact Nat.le_of_eq rfl) (hb hby own_d9_24) (by decide) (by decide) (by decide) (by decide)
  obtain ⟨rfl, e354, rfl⟩ := hQ354
  rw [List.append_nil] at X354
  refine own_stE (st354) ?_
  clear st354 X353 e353
  show OFinE p e below _ (T354.setTop (mkF m 29 #[.val (.ref ty), .val (.ref y), .val (.ref b), .val (.ref dq), .val (.ref ty), .unset, .unset, .unset] [(.int (1 : Int32))]))
  refine own_stE (fun _ kS => XS.ifYes X354.here hx rfl (pc0 := 29) (pc' := 85) rfl (hb hby own_d9_29) rfl ((if0 _ _).trans (feq (by decide)).2) (by decide) (by decide) kS) ?_
  show OFinE p e below _ (T354.setTop (mkF m 85 #[.val (.ref ty), .val (.ref y), .val (.ref b), .val (.ref dq), .val (.ref ty), .unset, .unset, .unset] []))
  obtain ⟨T355, h355, X355, e355, E355, A355, D355, -, st355⟩ := newO X354 hx hZ hown (own_w hw 81 rfl) (own_w hw 82 rfl) (own_w hw 83 rfl) e354 (g := (mkF m 85 #[.val (.ref ty), .val (.ref y), .val (.ref b), .val (.ref dq), .val (.ref ty), .unset, .unset, .unset] [])) rfl (hb hby own_d9_85) (by decide) (by decide)
  obtain ⟨d2, g355⟩ : ∃ z, z = T338.heap.size := ⟨_, rfl⟩
  rw [← g355] at A355 D355 st355
  have ne_ar_d2 : ar ≠ d2 := Nat.ne_of_lt (Nat.lt_of_lt_of_le u352.lt (Nat.le_of_eq g355.symm))
  have ne_b_d2 : b ≠ d2 := Nat.ne_of_lt (Nat.lt_of_lt_of_le u348.lt (Nat.le_of_eq g355.symm))
  have ne_da_d2 : da ≠ d2 := Nat.ne_of_lt (Nat.lt_of_lt_of_le f347.lt (Nat.le_of_eq g355.symm))
  have ne_dq_d2 : dq ≠ d2 := Nat.ne_of_lt (Nat.lt_of_lt_of_le f343.lt (Nat.le_of_eq g355.symm))
  have g_d2 : n0 ≤ d2 := Nat.le_trans sz338 (Nat.le_of_eq g355.symm)
  have od355 := od338.ext E355
  clear od338
  have f356 := u348.ext E355
  clear u348
  have f357 := f343.ext E355
  clear f343
  have f358 := f344.ext E355
  clear f344
  have f359 := f345.ext E355
  clear f345
  have f360 := f346.ext E355
  clear f346
  have f361 := f347.ext E355
  clear f347
  have f362 := u349.ext E355
  clear u349
  have f363 := u350.ext E355
  clear u350
  have f364 := u351.ext E355
  clear u351
  have f365 := u352.ext E355
  clear u352
  have f366 : Fld Z h355 d2 "java/util/ArrayDeque" "elements" "[Ljava/lang/Object;" .null := D355 (Or.inl (own_w hw 92 rfl)) (ty := (.array (.object "java/lang/Object"))) (by decide)
  have f367 : Fld Z h355 d2 "java/util/ArrayDeque" "head" "I" (.int (0 : Int32)) := D355 (Or.inl (own_w hw 108 rfl)) (ty := .int) (by decide)
  have f368 : Fld Z h355 d2 "java/util/ArrayDeque" "tail" "I" (.int (0 : Int32)) := D355 (Or.inl (own_w hw 114 rfl)) (ty := .int) (by decide)
  have sz355 : n0 ≤ h355.size := Nat.le_trans sz338 E355.1
  clear sz338
  have kp355 := kp338.ext E355
  have kz_d2 := Nat.le_trans kp338.1 (Nat.le_of_eq g355.symm)
  clear kp338
  refine own_stE (st355) ?_
  clear st355 X354 e354 E355 D355 g355
  show OFinE p e below _ (T355.setTop (mkF m 88 #[.val (.ref ty), .val (.ref y), .val (.ref b), .val (.ref dq), .val (.ref ty), .unset, .unset, .unset] [(.ref d2)]))
  refine own_stE (fun _ kS => XS.dup X355.here hx rfl (hb hby own_d9_88) rfl rfl kS) ?_
  show OFinE p e below _ (T355.setTop (mkF m 89 #[.val (.ref ty), .val (.ref y), .val (.ref b), .val (.ref dq), .val (.ref ty), .unset, .unset, .unset] [(.ref d2), (.ref d2)]))
  obtain ⟨v369, T369, L369, X369, hQ369, st369⟩ := own_init X355 hx hZ (y := (⟨"java/util/ArrayDeque", "<init>", "()V"⟩ : MethodName)) (rm := ⟨2, 1, 17, 24⟩) (W := 1) (a := d2) (argsL := []) (rest := [(.ref d2)]) rfl hown (own_w hw 84 rfl) (own_w hw 85 rfl) (own_w hw 83 rfl) (own_w hw 86 rfl) (rmDI l Z a0 hw d2 h355 n0 sz355 A355 f366 f367 f368 g_d2) e355 (g := (mkF m 89 #[.val (.ref ty), .val (.ref y), .val (.ref b), .val (.ref dq), .val (.ref ty), .unset, .unset, .unset] [(.ref d2), (.ref d2)])) rfl (by rw [hml]; rfl) (lenOf own_pd8 rfl) rfl (by show 2 * 0 + _ ≤ _; exact Nat.le_of_eq rfl) (hb hby own_d9_89) (by decide) (by decide) (by decide) (by decide)
  obtain ⟨rfl, N369, K369, db, ge_db, B369_0⟩ := hQ369
  have ne_ar_db : ar ≠ db := Nat.ne_of_lt (Nat.lt_of_lt_of_le f365.lt ge_db)
  have ne_b_db : b ≠ db := Nat.ne_of_lt (Nat.lt_of_lt_of_le f356.lt ge_db)
  have ne_d2_db : d2 ≠ db := Nat.ne_of_lt (Nat.lt_of_lt_of_le A355.lt ge_db)
  have ne_da_db : da ≠ db := Nat.ne_of_lt (Nat.lt_of_lt_of_le f361.lt ge_db)
  have ne_dq_db : dq ≠ db := Nat.ne_of_lt (Nat.lt_of_lt_of_le f357.lt ge_db)
  have g_db : n0 ≤ db := Nat.le_trans sz355 ge_db
  have kz_db := Nat.le_trans kp355.1 ge_db
  have fr369 := Fr.app fr338 N369
  clear fr338 N369
  have kp369 := kp355.trans K369 (allS (Or.inr kz_d2) all0)
  clear kp355
  have od369 := od355.keep K369 (allS g_d2 all0)
  clear od355
  have f370 := f356.keep K369
  clear f356
  have f371 := f357.keep K369
  clear f357
  have f372 := f358.keep K369 (ninS ne_dq_d2 nin0)
  clear f358
  have f373 := f359.keep K369 (ninS ne_dq_d2 nin0)
  clear f359
  have f374 := f360.keep K369 (ninS ne_dq_d2 nin0)
  clear f360
  have f375 := f361.keep K369 (ninS ne_da_d2 nin0)
  clear f361
  have f376 := f362.keep K369 (ninS ne_b_d2 nin0)
  clear f362
  have f377 := f363.keep K369 (ninS ne_b_d2 nin0)
  clear f363
  have f378 := f364.keep K369 (ninS ne_b_d2 nin0)
  clear f364
  have f379 := f365.keep K369 (ninS ne_ar_d2 nin0)
  clear f365
  have f380 := A355.keep K369
  clear f366
  clear f367
  clear f368
  have sz369 : n0 ≤ T369.heap.size := Nat.le_trans sz355 K369.1
  clear sz355
  clear K369
  obtain ⟨u384, u385, u386, u387, u388⟩ := B369_0
  refine own_stE (st369) ?_
  clear st369 X355 e355
  show OFinE p e below _ (T369.setTop (mkF m 92 #[.val (.ref ty), .val (.ref y), .val (.ref b), .val (.ref dq), .val (.ref ty), .unset, .unset, .unset] [(.ref d2)]))
  refine own_stE (fun _ kS => XS.astore X369.here hx rfl (hb hby own_d9_92) rfl rfl (l' := #[.val (.ref ty), .val (.ref y), .val (.ref b), .val (.ref dq), .val (.ref d2), .unset, .unset, .unset]) rfl kS) ?_
  show OFinE p e below _ (T369.setTop (mkF m 94 #[.val (.ref ty), .val (.ref y), .val (.ref b), .val (.ref dq), .val (.ref d2), .unset, .unset, .unset] []))
  refine own_stE (fun _ kS => XS.aloadN X369.here hx rfl (hb hby own_d9_94) rfl rfl kS) ?_
  show OFinE p e below _ (T369.setTop (mkF m 95 #[.val (.ref ty), .val (.ref y), .val (.ref b), .val (.ref dq), .val (.ref d2), .unset, .unset, .unset] [(.ref b)]))
  obtain ⟨v389, T389, L389, X389, hQ389, st389⟩ := own_face X369 hx hZ (y := (⟨"java/util/List", "size", "()I"⟩ : MethodName)) (z := (⟨"java/util/ArrayList", "size", "()I"⟩ : MethodName)) (rm := ⟨0, 0, 0, 0⟩) (W := 0) (a := b) (argsL := []) (rest := []) hown (own_w hw 181 rfl) (own_w hw 182 rfl) (mvT hZ (own_w hw 183 rfl)) (own_w hw 184 rfl) (own_w hw 185 rfl) (own_w hw 186 rfl) (own_w hw 187 rfl) (own_w hw 155 rfl) (own_w hw 59 rfl) (own_w hw 188 rfl) (rmSz l Z a0 hw b T369.heap (1 : Int32) f378) rfl f370 (g := (mkF m 95 #[.val (.ref ty), .val (.ref y), .val (.ref b), .val (.ref dq), .val (.ref d2), .unset, .unset, .unset] [(.ref b)])) rfl (by rw [hml]; rfl) (lenOf own_pd0 rfl) rfl (by show 2 * 0 + _ ≤ _; exact Nat.le_of_eq rfl) (hb hby own_d9_95) (by decide) (by decide) (by decide) (by decide)
  obtain ⟨rfl, e389, rfl⟩ := hQ389
  rw [List.append_nil] at X389
  refine own_stE (st389) ?_
  clear st389 X369
  show OFinE p e below _ (T389.setTop (mkF m 100 #[.val (.ref ty), .val (.ref y), .val (.ref b), .val (.ref dq), .val (.ref d2), .unset, .unset, .unset] [(.int (1 : Int32))]))
  refine own_stE (fun _ kS => XS.iconst X389.here hx rfl (hb hby own_d9_100) kS) ?_
  show OFinE p e below _ (T389.setTop (mkF m 101 #[.val (.ref ty), .val (.ref y), .val (.ref b), .val (.ref dq), .val (.ref d2), .unset, .unset, .unset] [(.int (1 : Int32)), (.int (1 : Int32))]))
  refine own_stE (fun _ kS => XS.isub X389.here hx rfl (hb hby own_d9_101) rfl kS) ?_
  show OFinE p e below _ (T389.setTop (mkF m 102 #[.val (.ref ty), .val (.ref y), .val (.ref b), .val (.ref dq), .val (.ref d2), .unset, .unset, .unset] [(.int ((1 : Int32) - (1 : Int32)))]))
  rw [show ((1 : Int32) - (1 : Int32)) = (0 : Int32) from by decide]
  show OFinE p e below _ (T389.setTop (mkF m 102 #[.val (.ref ty), .val (.ref y), .val (.ref b), .val (.ref dq), .val (.ref d2), .unset, .unset, .unset] [(.int ((0 : Int32)))]))
  refine own_stE (fun _ kS => XS.istore X389.here hx rfl (hb hby own_d9_102) rfl (l' := #[.val (.ref ty), .val (.ref y), .val (.ref b), .val (.ref dq), .val (.ref d2), .val (.int (0 : Int32)), .unset, .unset]) rfl kS) ?_
  show OFinE p e below _ (T389.setTop (mkF m 104 #[.val (.ref ty), .val (.ref y), .val (.ref b), .val (.ref dq), .val (.ref d2), .val (.int (0 : Int32)), .unset, .unset] []))
  refine own_stE (fun _ kS => XS.iload X389.here hx rfl (hb hby own_d9_104) rfl kS) ?_
  show OFinE p e below _ (T389.setTop (mkF m 106 #[.val (.ref ty), .val (.ref y), .val (.ref b), .val (.ref dq), .val (.ref d2), .val (.int (0 : Int32)), .unset, .unset] [(.int (0 : Int32))]))
  refine own_stE (fun _ kS => XS.ifNo X389.here hx rfl (hb hby own_d9_106) rfl ((if0 _ _).trans (flt (by decide)).1) kS) ?_
  show OFinE p e below _ (T389.setTop (mkF m 109 #[.val (.ref ty), .val (.ref y), .val (.ref b), .val (.ref dq), .val (.ref d2), .val (.int (0 : Int32)), .unset, .unset] []))
  refine own_stE (fun _ kS => XS.aloadN X389.here hx rfl (hb hby own_d9_109) rfl rfl kS) ?_
  show OFinE p e below _ (T389.setTop (mkF m 110 #[.val (.ref ty), .val (.ref y), .val (.ref b), .val (.ref dq), .val (.ref d2), .val (.int (0 : Int32)), .unset, .unset] [(.ref b)]))
  refine own_stE (fun _ kS => XS.iload X389.here hx rfl (hb hby own_d9_110) rfl kS) ?_
  show OFinE p e below _ (T389.setTop (mkF m 112 #[.val (.ref ty), .val (.ref y), .val (.ref b), .val (.ref dq), .val (.ref d2), .val (.int (0 : Int32)), .unset, .unset] [(.int (0 : Int32)), (.ref b)]))
  obtain ⟨v390, T390, L390, X390, hQ390, st390⟩ := own_face X389 hx hZ (y := (⟨"java/util/List", "get", "(I)Ljava/lang/Object;"⟩ : MethodName)) (z := (⟨"java/util/ArrayList", "get", "(I)Ljava/lang/Object;"⟩ : MethodName)) (rm := ⟨2, 0, 0, 27⟩) (W := 0) (a := b) (argsL := [(.int (0 : Int32))]) (rest := []) hown (own_w hw 189 rfl) (own_w hw 190 rfl) (mvT hZ (own_w hw 191 rfl)) (own_w hw 192 rfl) (own_w hw 193 rfl) (own_w hw 194 rfl) (own_w hw 195 rfl) (own_w hw 155 rfl) (own_w hw 59 rfl) (own_w hw 196 rfl) (rmGet l Z a0 hw b _ T369.heap ar ty (1 : Int32) (1 : Int32) (fun i => if i = 0 then .ref ty else (fun _ => .null) i) 0 ⟨f370, f376, f377, f378, f379⟩ (by decide) (by decide) rfl (by decide) rfl) e389 f370 (g := (mkF m 112 #[.val (.ref ty), .val (.ref y), .val (.ref b), .val (.ref dq), .val (.ref d2), .val (.int (0 : Int32)), .unset, .unset] [(.int (0 : Int32)), (.ref b)])) rfl (by rw [hml]; rfl) (lenOf own_pd11 rfl) rfl (by show 2 * 0 + _ ≤ _; exact Nat.le_of_eq rfl) (hb hby own_d9_112) (by decide) (by decide) (by decide) (by decide)
  obtain ⟨rfl, e390, rfl⟩ := hQ390
  rw [List.append_nil] at X390
  refine own_stE (st390) ?_
  clear st390 X389 e389
  show OFinE p e below _ (T390.setTop (mkF m 117 #[.val (.ref ty), .val (.ref y), .val (.ref b), .val (.ref dq), .val (.ref d2), .val (.int (0 : Int32)), .unset, .unset] [(.ref ty)]))
  obtain ⟨T391, X391, e391, st391⟩ := castY X390 hx hZ hown (own_w hw 35 rfl) e390 (Ins.self (u270.keep kp369)) (g := (mkF m 117 #[.val (.ref ty), .val (.ref y), .val (.ref b), .val (.ref dq), .val (.ref d2), .val (.int (0 : Int32)), .unset, .unset] [(.ref ty)])) rfl rfl (hb hby own_d9_117)
  refine own_stE (st391) ?_
  clear st391 X390 e390
  show OFinE p e below _ (T391.setTop (mkF m 120 #[.val (.ref ty), .val (.ref y), .val (.ref b), .val (.ref dq), .val (.ref d2), .val (.int (0 : Int32)), .unset, .unset] [(.ref ty)]))
  refine own_stE (fun _ kS => XS.astore X391.here hx rfl (hb hby own_d9_120) rfl rfl (l' := #[.val (.ref ty), .val (.ref y), .val (.ref b), .val (.ref dq), .val (.ref d2), .val (.int (0 : Int32)), .val (.ref ty), .unset]) rfl kS) ?_
  show OFinE p e below _ (T391.setTop (mkF m 122 #[.val (.ref ty), .val (.ref y), .val (.ref b), .val (.ref dq), .val (.ref d2), .val (.int (0 : Int32)), .val (.ref ty), .unset] []))
  refine own_stE (fun _ kS => XS.aload X391.here hx rfl (hb hby own_d9_122) rfl rfl kS) ?_
  show OFinE p e below _ (T391.setTop (mkF m 124 #[.val (.ref ty), .val (.ref y), .val (.ref b), .val (.ref dq), .val (.ref d2), .val (.int (0 : Int32)), .val (.ref ty), .unset] [(.ref ty)]))
  obtain ⟨T392, X392, e392, st392⟩ := getF X391 hx hZ hown (host := "") (Or.inl (own_w hw 41 rfl)) Via.refl e391 (u271.keep kp369 nin0) (g := (mkF m 124 #[.val (.ref ty), .val (.ref y), .val (.ref b), .val (.ref dq), .val (.ref d2), .val (.int (0 : Int32)), .val (.ref ty), .unset] [(.ref ty)])) rfl rfl (hb hby own_d9_124)
  refine own_stE (st392) ?_
  clear st392 X391 e391
  show OFinE p e below _ (T392.setTop (mkF m 127 #[.val (.ref ty), .val (.ref y), .val (.ref b), .val (.ref dq), .val (.ref d2), .val (.int (0 : Int32)), .val (.ref ty), .unset] [(.ref x)]))
  refine own_stE (fun _ kS => XS.ifnonnullYes X392.here hx rfl (pc0 := 127) (pc' := 167) rfl (hb hby own_d9_127) rfl (by decide) (by decide) kS) ?_
  show OFinE p e below _ (T392.setTop (mkF m 167 #[.val (.ref ty), .val (.ref y), .val (.ref b), .val (.ref dq), .val (.ref d2), .val (.int (0 : Int32)), .val (.ref ty), .unset] []))
  refine own_stE (fun _ kS => XS.aload X392.here hx rfl (hb hby own_d9_167) rfl rfl kS) ?_
  show OFinE p e below _ (T392.setTop (mkF m 169 #[.val (.ref ty), .val (.ref y), .val (.ref b), .val (.ref dq), .val (.ref d2), .val (.int (0 : Int32)), .val (.ref ty), .unset] [(.ref ty)]))
  obtain ⟨T393, X393, e393, st393⟩ := getF X392 hx hZ hown (host := "") (Or.inl (own_w hw 43 rfl)) Via.refl e392 (u272.keep kp369 nin0) (g := (mkF m 169 #[.val (.ref ty), .val (.ref y), .val (.ref b), .val (.ref dq), .val (.ref d2), .val (.int (0 : Int32)), .val (.ref ty), .unset] [(.ref ty)])) rfl rfl (hb hby own_d9_169)
  refine own_stE (st393) ?_
  clear st393 X392 e392
  show OFinE p e below _ (T393.setTop (mkF m 172 #[.val (.ref ty), .val (.ref y), .val (.ref b), .val (.ref dq), .val (.ref d2), .val (.int (0 : Int32)), .val (.ref ty), .unset] [(.int (0 : Int32))]))
  refine own_stE (fun _ kS => XS.ifYes X393.here hx rfl (pc0 := 172) (pc' := 203) rfl (hb hby own_d9_172) rfl ((if0 _ _).trans (teq rfl).1) (by decide) (by decide) kS) ?_
  show OFinE p e below _ (T393.setTop (mkF m 203 #[.val (.ref ty), .val (.ref y), .val (.ref b), .val (.ref dq), .val (.ref d2), .val (.int (0 : Int32)), .val (.ref ty), .unset] []))
  refine own_stE (fun _ kS => XS.aload X393.here hx rfl (hb hby own_d9_203) rfl rfl kS) ?_
  show OFinE p e below _ (T393.setTop (mkF m 205 #[.val (.ref ty), .val (.ref y), .val (.ref b), .val (.ref dq), .val (.ref d2), .val (.int (0 : Int32)), .val (.ref ty), .unset] [(.ref d2)]))
  obtain ⟨T394, h394, X394, e394, E394, A394, D394, -, st394⟩ := newO X393 hx hZ hown (own_w hw 210 rfl) (own_w hw 211 rfl) (own_w hw 212 rfl) e393 (g := (mkF m 205 #[.val (.ref ty), .val (.ref y), .val (.ref b), .val (.ref dq), .val (.ref d2), .val (.int (0 : Int32)), .val (.ref ty), .unset] [(.ref d2)])) rfl (hb hby own_d9_205) (by decide) (by decide)
  obtain ⟨c0, g394⟩ : ∃ z, z = T369.heap.size := ⟨_, rfl⟩
  rw [← g394] at A394 D394 st394
  have ne_ar_c0 : ar ≠ c0 := Nat.ne_of_lt (Nat.lt_of_lt_of_le f379.lt (Nat.le_of_eq g394.symm))
  have ne_b_c0 : b ≠ c0 := Nat.ne_of_lt (Nat.lt_of_lt_of_le f370.lt (Nat.le_of_eq g394.symm))
  have ne_d2_c0 : d2 ≠ c0 := Nat.ne_of_lt (Nat.lt_of_lt_of_le u384.lt (Nat.le_of_eq g394.symm))
  have ne_da_c0 : da ≠ c0 := Nat.ne_of_lt (Nat.lt_of_lt_of_le f375.lt (Nat.le_of_eq g394.symm))
  have ne_db_c0 : db ≠ c0 := Nat.ne_of_lt (Nat.lt_of_lt_of_le u388.lt (Nat.le_of_eq g394.symm))
  have ne_dq_c0 : dq ≠ c0 := Nat.ne_of_lt (Nat.lt_of_lt_of_le f371.lt (Nat.le_of_eq g394.symm))
  have g_c0 : n0 ≤ c0 := Nat.le_trans sz369 (Nat.le_of_eq g394.symm)
  have od394 := od369.ext E394
  clear od369
  have f395 := f370.ext E394
  clear f370
  have f396 := f371.ext E394
  clear f371
  have f397 := f372.ext E394
  clear f372
  have f398 := f373.ext E394
  clear f373
  have f399 := f374.ext E394
  clear f374
  have f400 := f375.ext E394
  clear f375
  have f401 := f376.ext E394
  clear f376
  have f402 := f377.ext E394
  clear f377
  have f403 := f378.ext E394
  clear f378
  have f404 := f379.ext E394
  clear f379
  have f405 := u384.ext E394
  clear u384
  have f406 := u385.ext E394
  clear u385
  have f407 := u386.ext E394
  clear u386
  have f408 := u387.ext E394
  clear u387
  have f409 := u388.ext E394
  clear u388
  have f410 : Fld Z h394 c0 "com/example/unify_trace/unifytrace/term/Term" "name" "Ljava/lang/String;" .null := D394 (Or.inr (own_w hw 270 rfl)) (ty := (.object "java/lang/String")) (by decide)
  have f411 : Fld Z h394 c0 "com/example/unify_trace/unifytrace/term/Compound" "arguments" "[Lcom/example/unify_trace/unifytrace/term/Term;" .null := D394 (Or.inr (own_w hw 281 rfl)) (ty := (.array (.object "com/example/unify_trace/unifytrace/term/Term"))) (by decide)
  have sz394 : n0 ≤ h394.size := Nat.le_trans sz369 E394.1
  clear sz369
  have kp394 := kp369.ext E394
  have kz_c0 := Nat.le_trans kp369.1 (Nat.le_of_eq g394.symm)
  clear kp369
  refine own_stE (st394) ?_
  clear st394 X393 e393 E394 D394 g394
  show OFinE p e below _ (T394.setTop (mkF m 208 #[.val (.ref ty), .val (.ref y), .val (.ref b), .val (.ref dq), .val (.ref d2), .val (.int (0 : Int32)), .val (.ref ty), .unset] [(.ref c0), (.ref d2)]))
  refine own_stE (fun _ kS => XS.dup X394.here hx rfl (hb hby own_d9_208) rfl rfl kS) ?_
  show OFinE p e below _ (T394.setTop (mkF m 209 #[.val (.ref ty), .val (.ref y), .val (.ref b), .val (.ref dq), .val (.ref d2), .val (.int (0 : Int32)), .val (.ref ty), .unset] [(.ref c0), (.ref c0), (.ref d2)]))
  refine own_stE (fun _ kS => XS.aload X394.here hx rfl (hb hby own_d9_209) rfl rfl kS) ?_
  show OFinE p e below _ (T394.setTop (mkF m 211 #[.val (.ref ty), .val (.ref y), .val (.ref b), .val (.ref dq), .val (.ref d2), .val (.int (0 : Int32)), .val (.ref ty), .unset] [(.ref ty), (.ref c0), (.ref c0), (.ref d2)]))
  obtain ⟨T412, X412, e412, st412⟩ := getF X394 hx hZ hown (host := "") (Or.inl (own_w hw 41 rfl)) Via.refl e394 (u271.keep kp394 nin0) (g := (mkF m 211 #[.val (.ref ty), .val (.ref y), .val (.ref b), .val (.ref dq), .val (.ref d2), .val (.int (0 : Int32)), .val (.ref ty), .unset] [(.ref ty), (.ref c0), (.ref c0), (.ref d2)])) rfl rfl (hb hby own_d9_211)
  refine own_stE (st412) ?_
  clear st412 X394 e394
  show OFinE p e below _ (T412.setTop (mkF m 214 #[.val (.ref ty), .val (.ref y), .val (.ref b), .val (.ref dq), .val (.ref d2), .val (.int (0 : Int32)), .val (.ref ty), .unset] [(.ref x), (.ref c0), (.ref c0), (.ref d2)]))
  refine own_stE (fun _ kS => XS.iconst X412.here hx rfl (hb hby own_d9_214) kS) ?_
  show OFinE p e below _ (T412.setTop (mkF m 215 #[.val (.ref ty), .val (.ref y), .val (.ref b), .val (.ref dq), .val (.ref d2), .val (.int (0 : Int32)), .val (.ref ty), .unset] [(.int (0 : Int32)), (.ref x), (.ref c0), (.ref c0), (.ref d2)]))
  obtain ⟨T413, h413, k413, X413, e413, E413, A413, Ex413, O413, st413⟩ := newRE X412 hx hZ hown (own_w hw 213 rfl) (own_w hw 214 rfl) e412 (g := (mkF m 215 #[.val (.ref ty), .val (.ref y), .val (.ref b), .val (.ref dq), .val (.ref d2), .val (.int (0 : Int32)), .val (.ref ty), .unset] [(.int (0 : Int32)), (.ref x), (.ref c0), (.ref c0), (.ref d2)])) rfl (hb hby own_d9_215) rfl (by decide) (cap := 0) (by decide) (by decide) (by decide) (by decide) rfl
  obtain ⟨ar0, g413⟩ : ∃ z, z = h394.size := ⟨_, rfl⟩
  rw [← g413] at A413 st413 Ex413
  have ne_ar_ar0 : ar ≠ ar0 := Nat.ne_of_lt (Nat.lt_of_lt_of_le f404.lt (Nat.le_of_eq g413.symm))
  have ne_b_ar0 : b ≠ ar0 := Nat.ne_of_lt (Nat.lt_of_lt_of_le f395.lt (Nat.le_of_eq g413.symm))
  have ne_c0_ar0 : c0 ≠ ar0 := Nat.ne_of_lt (Nat.lt_of_lt_of_le A394.lt (Nat.le_of_eq g413.symm))
  have ne_d2_ar0 : d2 ≠ ar0 := Nat.ne_of_lt (Nat.lt_of_lt_of_le f405.lt (Nat.le_of_eq g413.symm))
  have ne_da_ar0 : da ≠ ar0 := Nat.ne_of_lt (Nat.lt_of_lt_of_le f400.lt (Nat.le_of_eq g413.symm))
  have ne_db_ar0 : db ≠ ar0 := Nat.ne_of_lt (Nat.lt_of_lt_of_le f409.lt (Nat.le_of_eq g413.symm))
  have ne_dq_ar0 : dq ≠ ar0 := Nat.ne_of_lt (Nat.lt_of_lt_of_le f396.lt (Nat.le_of_eq g413.symm))
  have g_ar0 : n0 ≤ ar0 := Nat.le_trans sz394 (Nat.le_of_eq g413.symm)
  have od413 := od394.ext E413
  clear od394
  have f414 := f395.ext E413
  clear f395
  have f415 := f396.ext E413
  clear f396
  have f416 := f397.ext E413
  clear f397
  have f417 := f398.ext E413
  clear f398
  have f418 := f399.ext E413
  clear f399
  have f419 := f400.ext E413
  clear f400
  have f420 := f401.ext E413
  clear f401
  have f421 := f402.ext E413
  clear f402
  have f422 := f403.ext E413
  clear f403
  have f423 := f404.ext E413
  clear f404
  have f424 := f405.ext E413
  clear f405
  have f425 := f406.ext E413
  clear f406
  have f426 := f407.ext E413
  clear f407
  have f427 := f408.ext E413
  clear f408
  have f428 := f409.ext E413
  clear f409
  have f429 := A394.ext E413
  have f430 := f410.ext E413
  clear f410
  have f431 := f411.ext E413
  clear f411
  have f432 : ORef Z h413 ar0 (.object "com/example/unify_trace/unifytrace/term/Term") "com/example/unify_trace/unifytrace/term/Term" 0 (fun _ => .null) := ORef.new A413 O413 rfl
  have sz413 : n0 ≤ h413.size := Nat.le_trans sz394 E413.1
  clear sz394
  have kp413 := kp394.ext E413
  have kz_ar0 := Nat.le_trans kp394.1 (Nat.le_of_eq g413.symm)
  clear kp394
  refine own_stE (st413) ?_
  clear st413 X412 e412 E413 g413
  show OFinE p e below _ (T413.setTop (mkF m 218 #[.val (.ref ty), .val (.ref y), .val (.ref b), .val (.ref dq), .val (.ref d2), .val (.int (0 : Int32)), .val (.ref ty), .unset] [(.ref ar0), (.ref x), (.ref c0), (.ref c0), (.ref d2)]))
  obtain ⟨v433, T433, L433, X433, SS433, hZ, hown, hQ433, st433⟩ := own_initW X413 hx hZ (y := (⟨"com/example/unify_trace/unifytrace/term/Compound", "<init>", "(Ljava/lang/String;[Lcom/example/unify_trace/unifytrace/term/Term;)V"⟩ : MethodName)) (rm := ⟨6, 3, 20, 82⟩) (W := 2) (a := c0) (argsL := [(.ref x), (.ref ar0)]) (rest := [(.ref c0), (.ref d2)]) rfl hown (own_w hw 215 rfl) (own_w hw 216 rfl) (own_w hw 212 rfl) (own_w hw 217 rfl) (rmCI l Z a0 hw c0 x ar0 h413 cs z fm n0 sz413 f429 f430 f431 g_c0 f432 Ex413 ne_c0_ar0 (O1.keep kp413) hn S_c hz S_f rf od413) (fun _ _ => trivial) e413 (g := (mkF m 218 #[.val (.ref ty), .val (.ref y), .val (.ref b), .val (.ref dq), .val (.ref d2), .val (.int (0 : Int32)), .val (.ref ty), .unset] [(.ref ar0), (.ref x), (.ref c0), (.ref c0), (.ref d2)])) rfl (by rw [hml]; rfl) (lenOf own_pd20 rfl) rfl (by show 2 * 0 + _ ≤ _; exact Nat.le_of_eq rfl) (hb hby own_d9_218) (by decide) (by decide) (by decide) (by decide)
  obtain ⟨rfl, N433, K433, br, ge_br, EC, FN, FA, RB⟩ := hQ433
  have ne_ar_br : ar ≠ br := Nat.ne_of_lt (Nat.lt_of_lt_of_le f423.lt ge_br)
  have ne_ar0_br : ar0 ≠ br := Nat.ne_of_lt (Nat.lt_of_lt_of_le f432.lt ge_br)
  have ne_b_br : b ≠ br := Nat.ne_of_lt (Nat.lt_of_lt_of_le f414.lt ge_br)
  have ne_c0_br : c0 ≠ br := Nat.ne_of_lt (Nat.lt_of_lt_of_le f429.lt ge_br)
  have ne_d2_br : d2 ≠ br := Nat.ne_of_lt (Nat.lt_of_lt_of_le f424.lt ge_br)
  have ne_da_br : da ≠ br := Nat.ne_of_lt (Nat.lt_of_lt_of_le f419.lt ge_br)
  have ne_db_br : db ≠ br := Nat.ne_of_lt (Nat.lt_of_lt_of_le f428.lt ge_br)
  have ne_dq_br : dq ≠ br := Nat.ne_of_lt (Nat.lt_of_lt_of_le f415.lt ge_br)
  have g_br : n0 ≤ br := Nat.le_trans sz413 ge_br
  have kz_br := Nat.le_trans kp413.1 ge_br
  refine own_stE (st433) ?_
  clear X413 e413
  refine own_narrow SS433 (Q' := (fun v h L => (∃ c0 br, v = some (.ref c0) ∧ Fr n0 L ∧ Keep h0 h [] ∧ Exa Z h c0 "com/example/unify_trace/unifytrace/term/Compound" ∧ Fld Z h c0 "com/example/unify_trace/unifytrace/term/Term" "name" "Ljava/lang/String;" (.ref x) ∧ Fld Z h c0 "com/example/unify_trace/unifytrace/term/Compound" "arguments" "[Lcom/example/unify_trace/unifytrace/term/Term;" (.ref br) ∧ ORef Z h br (.object "com/example/unify_trace/unifytrace/term/Term") "com/example/unify_trace/unifytrace/term/Term" 0 (fun _ => .null)) ∧ T433.heap.size ≤ h.size)) ?_ (fun v vm h L hW q => ⟨q.2, q.1⟩)
  show OFin p e below (s.setVm T433.vm) _ _ _ (T433.setTop (mkF m 221 #[.val (.ref ty), .val (.ref y), .val (.ref b), .val (.ref dq), .val (.ref d2), .val (.int (0 : Int32)), .val (.ref ty), .unset] [(.ref c0), (.ref d2)]))
  have fr433 := Fr.app fr369 N433
  clear fr369
  have kp433 := kp413.trans K433 (allS (Or.inr kz_c0) all0)
  clear kp413
  have od433 := od413.keep K433 (allS g_c0 all0)
  clear od413
  have f434 := f424.keep K433
  clear f424
  have f435 := f425.keep K433 (ninS ne_d2_c0 nin0)
  clear f425
  have f436 := f426.keep K433 (ninS ne_d2_c0 nin0)
  clear f426
  have f437 := f427.keep K433 (ninS ne_d2_c0 nin0)
  clear f427
  have f438 := f428.keep K433 (ninS ne_db_c0 nin0)
  clear f428
  have sz433 : n0 ≤ T433.heap.size := Nat.le_trans sz413 K433.1
  clear sz413
  obtain ⟨v439, T439, L439, X439, hQ439, st439⟩ := own_face X433 hx hZ (y := (⟨"java/util/Deque", "push", "(Ljava/lang/Object;)V"⟩ : MethodName)) (z := (⟨"java/util/ArrayDeque", "push", "(Ljava/lang/Object;)V"⟩ : MethodName)) (rm := ⟨2, 0, 0, 29⟩) (W := 0) (a := d2) (argsL := [(.ref c0)]) (rest := []) hown (own_w hw 93 rfl) (own_w hw 94 rfl) (mvT hZ (own_w hw 95 rfl)) (own_w hw 96 rfl) (own_w hw 97 rfl) (own_w hw 98 rfl) (own_w hw 99 rfl) (own_w hw 100 rfl) (own_w hw 83 rfl) (own_w hw 101 rfl) (rmPu l Z a0 hw d2 c0 T433.heap n0 db (fun _ => .null) ⟨f434, f435, f436, f437, f438⟩ ne_d2_db g_d2 g_db (Ins.of_exa EC (own_w hw 282 rfl))) rfl f434 (g := (mkF m 221 #[.val (.ref ty), .val (.ref y), .val (.ref b), .val (.ref dq), .val (.ref d2), .val (.int (0 : Int32)), .val (.ref ty), .unset] [(.ref c0), (.ref d2)])) rfl (by rw [hml]; rfl) (lenOf own_pd15 rfl) rfl (by show 2 * 0 + _ ≤ _; exact Nat.le_of_eq rfl) (hb hby own_d9_221) (by decide) (by decide) (by decide) (by decide)
  obtain ⟨rfl, N439, K439, B439_0⟩ := hQ439
  have fr439 := Fr.app fr433 N439
  clear fr433 N439
  have kp439 := kp433.trans K439 (allS (Or.inr kz_d2) (allS (Or.inr kz_db) all0))
  clear kp433
  have od439 := od433.keep K439 (allS g_d2 (allS g_db all0))
  clear od433
  have f440 := f434.keep K439
  clear f434
  clear f435
  clear f436
  clear f437
  clear f438
  have f445 := EC.keep K439
  have f446 := FN.keep K439 (ninS (Ne.symm ne_d2_c0) (ninS (Ne.symm ne_db_c0) nin0))
  have f447 := FA.keep K439 (ninS (Ne.symm ne_d2_c0) (ninS (Ne.symm ne_db_c0) nin0))
  have f448 := RB.keep K439 (ninS (Ne.symm ne_d2_br) (ninS (Ne.symm ne_db_br) nin0))
  have sz439 : n0 ≤ T439.heap.size := Nat.le_trans sz433 K439.1
  clear sz433
  have sy439 : T433.heap.size ≤ T439.heap.size := Nat.le_trans (Nat.le_refl _) K439.1
  clear K439
  obtain ⟨u449, u450, u451, u452, u453⟩ := B439_0
  refine own_st (st439) ?_
  clear st439 X433
  show OFin p e below (s.setVm T433.vm) _ _ _ (T439.setTop (mkF m 226 #[.val (.ref ty), .val (.ref y), .val (.ref b), .val (.ref dq), .val (.ref d2), .val (.int (0 : Int32)), .val (.ref ty), .unset] []))
  refine own_st (fun _ kS => XS.iinc X439.here hx rfl (hb hby own_d9_226) rfl (l' := #[.val (.ref ty), .val (.ref y), .val (.ref b), .val (.ref dq), .val (.ref d2), .val (.int ((0 : Int32) + (-1 : Int32))), .val (.ref ty), .unset]) rfl kS) ?_
  show OFin p e below (s.setVm T433.vm) _ _ _ (T439.setTop (mkF m 229 #[.val (.ref ty), .val (.ref y), .val (.ref b), .val (.ref dq), .val (.ref d2), .val (.int ((0 : Int32) + (-1 : Int32))), .val (.ref ty), .unset] []))
  refine own_st (fun _ kS => XS.goto X439.here hx rfl (pc0 := 229) (pc' := 104) rfl (hb hby own_d9_229) (by decide) (by decide) kS) ?_
  show OFin p e below (s.setVm T433.vm) _ _ _ (T439.setTop (mkF m 104 #[.val (.ref ty), .val (.ref y), .val (.ref b), .val (.ref dq), .val (.ref d2), .val (.int ((0 : Int32) + (-1 : Int32))), .val (.ref ty), .unset] []))
  refine own_st (fun _ kS => XS.iload X439.here hx rfl (hb hby own_d9_104) rfl kS) ?_
  show OFin p e below (s.setVm T433.vm) _ _ _ (T439.setTop (mkF m 106 #[.val (.ref ty), .val (.ref y), .val (.ref b), .val (.ref dq), .val (.ref d2), .val (.int ((0 : Int32) + (-1 : Int32))), .val (.ref ty), .unset] [(.int ((0 : Int32) + (-1 : Int32)))]))
  refine own_st (fun _ kS => XS.ifYes X439.here hx rfl (pc0 := 106) (pc' := 232) rfl (hb hby own_d9_106) rfl ((if0 _ _).trans (tlt (by decide)).1) (by decide) (by decide) kS) ?_
  show OFin p e below (s.setVm T433.vm) _ _ _ (T439.setTop (mkF m 232 #[.val (.ref ty), .val (.ref y), .val (.ref b), .val (.ref dq), .val (.ref d2), .val (.int ((0 : Int32) + (-1 : Int32))), .val (.ref ty), .unset] []))
  refine own_st (fun _ kS => XS.aload X439.here hx rfl (hb hby own_d9_232) rfl rfl kS) ?_
  show OFin p e below (s.setVm T433.vm) _ _ _ (T439.setTop (mkF m 234 #[.val (.ref ty), .val (.ref y), .val (.ref b), .val (.ref dq), .val (.ref d2), .val (.int ((0 : Int32) + (-1 : Int32))), .val (.ref ty), .unset] [(.ref d2)]))
  obtain ⟨v454, T454, L454, X454, hQ454, st454⟩ := own_face X439 hx hZ (y := (⟨"java/util/Deque", "pop", "()Ljava/lang/Object;"⟩ : MethodName)) (z := (⟨"java/util/ArrayDeque", "pop", "()Ljava/lang/Object;"⟩ : MethodName)) (rm := ⟨3, 0, 0, 42⟩) (W := 0) (a := d2) (argsL := []) (rest := []) hown (own_w hw 123 rfl) (own_w hw 124 rfl) (mvT hZ (own_w hw 125 rfl)) (own_w hw 126 rfl) (own_w hw 127 rfl) (own_w hw 128 rfl) (own_w hw 129 rfl) (own_w hw 100 rfl) (own_w hw 83 rfl) (own_w hw 130 rfl) (rmPo l Z a0 hw d2 T439.heap n0 db c0 (fun i => if i = 16 then .ref c0 else (fun _ => .null) i) ⟨u449, u450, u451, u452, u453⟩ ne_d2_db g_d2 g_db rfl) rfl u449 (g := (mkF m 234 #[.val (.ref ty), .val (.ref y), .val (.ref b), .val (.ref dq), .val (.ref d2), .val (.int ((0 : Int32) + (-1 : Int32))), .val (.ref ty), .unset] [(.ref d2)])) rfl (by rw [hml]; rfl) (lenOf own_pd17 rfl) rfl (by show 2 * 0 + _ ≤ _; exact Nat.le_of_eq rfl) (hb hby own_d9_234) (by decide) (by decide) (by decide) (by decide)
  obtain ⟨rfl, N454, K454, B454_0⟩ := hQ454
  have fr454 := Fr.app fr439 N454
  clear fr439 N454
  have kp454 := kp439.trans K454 (allS (Or.inr kz_d2) (allS (Or.inr kz_db) all0))
  clear kp439
  have od454 := od439.keep K454 (allS g_d2 (allS g_db all0))
  clear od439
  have f455 := u449.keep K454
  clear u449
  have f456 := f445.keep K454
  clear f445
  have f457 := f446.keep K454 (ninS (Ne.symm ne_d2_c0) (ninS (Ne.symm ne_db_c0) nin0))
  clear f446
  have f458 := f447.keep K454 (ninS (Ne.symm ne_d2_c0) (ninS (Ne.symm ne_db_c0) nin0))
  clear f447
  have f459 := f448.keep K454 (ninS (Ne.symm ne_d2_br) (ninS (Ne.symm ne_db_br) nin0))
  clear f448
  clear u450
  clear u451
  clear u452
  clear u453
  have sz454 : n0 ≤ T454.heap.size := Nat.le_trans sz439 K454.1
  clear sz439
  have sy454 : T433.heap.size ≤ T454.heap.size := Nat.le_trans sy439 K454.1
  clear K454
  obtain ⟨u464, u465, u466, u467, u468⟩ := B454_0
  refine own_st (st454) ?_
  clear st454 X439
  show OFin p e below (s.setVm T433.vm) _ _ _ (T454.setTop (mkF m 239 #[.val (.ref ty), .val (.ref y), .val (.ref b), .val (.ref dq), .val (.ref d2), .val (.int ((0 : Int32) + (-1 : Int32))), .val (.ref ty), .unset] [(.ref c0)]))
  obtain ⟨T469, X469, e469, st469⟩ := castY X454 hx hZ hown (own_w hw 213 rfl) rfl (Ins.of_exa f456 (own_w hw 283 rfl)) (g := (mkF m 239 #[.val (.ref ty), .val (.ref y), .val (.ref b), .val (.ref dq), .val (.ref d2), .val (.int ((0 : Int32) + (-1 : Int32))), .val (.ref ty), .unset] [(.ref c0)])) rfl rfl (hb hby own_d9_239)
  refine own_st (st469) ?_
  clear st469 X454
  show OFin p e below (s.setVm T433.vm) _ _ _ (T469.setTop (mkF m 242 #[.val (.ref ty), .val (.ref y), .val (.ref b), .val (.ref dq), .val (.ref d2), .val (.int ((0 : Int32) + (-1 : Int32))), .val (.ref ty), .unset] [(.ref c0)]))
  exact own_ret X469 hx (t := (.object "com/example/unify_trace/unifytrace/term/Term")) hret hlk rfl (Or.inr (Or.inr (Or.inr (Or.inr ⟨rfl, rfl, rfl⟩)))) (hb hby own_d9_242) (by decide) (by decide) (by show (∃ c0 br, _ ∧ _ ∧ Keep h0 T469.heap _ ∧ _) ∧ _ ≤ T469.heap.size; rw [e469]; exact ⟨⟨c0, br, rfl, fr454, kp454, f456, f457, f458, f459⟩, sy454⟩)
set_option maxRecDepth 65536 in
set_option maxHeartbeats 40000000 in
theorem rmNa (l : Launch) (Z : State) (a0 : Array Value) (hw : ∀ d ∈ tables_1, d.before a0 Z = true) (c0 : Addr) (h0 : Heap) (x : Addr) (F_n : Fld Z h0 c0 "com/example/unify_trace/unifytrace/term/Term" "name" "Ljava/lang/String;" (.ref x)) :
    OMet l Z (⟨"com/example/unify_trace/unifytrace/term/Term", "name", "()Ljava/lang/String;"⟩ : MethodName) prog_27_method_2_code 1 (some (.object "java/lang/String")) (⟨0, 0, 0, 0⟩ : Room) #[(.ref c0)] h0 (fun v h L => v = some (.ref x) ∧ h = h0 ∧ L = []) := by
  refine own_enter own_pn45 ?_
  intro p e s m below meth c T0 X0 hC e0
  obtain ⟨hx, hZ, hby, hml, hown, hret, hlk, hnm⟩ := hC
  have hown : s.vm.findClass "com/example/unify_trace/unifytrace/term/Term" = some m.cls := hown
  refine own_at (own_ef45_R m c0) ?_
  show OFin p e below s _ _ _ (T0.setTop (mkF m 0 #[.val (.ref c0)] []))
  refine own_st (fun _ kS => XS.aloadN X0.here hx rfl (hb hby own_d45_0) rfl rfl kS) ?_
  show OFin p e below s _ _ _ (T0.setTop (mkF m 1 #[.val (.ref c0)] [(.ref c0)]))
  obtain ⟨T470, X470, e470, st470⟩ := getF X0 hx hZ hown (host := "") (Or.inl (own_w hw 269 rfl)) Via.refl e0 F_n (g := (mkF m 1 #[.val (.ref c0)] [(.ref c0)])) rfl rfl (hb hby own_d45_1)
  refine own_st (st470) ?_
  clear st470 X0 e0
  show OFin p e below s _ _ _ (T470.setTop (mkF m 4 #[.val (.ref c0)] [(.ref x)]))
  exact own_ret X470 hx (t := (.object "java/lang/String")) hret hlk rfl (Or.inr (Or.inr (Or.inr (Or.inr ⟨rfl, rfl, rfl⟩)))) (hb hby own_d45_4) (by decide) (by decide) ⟨rfl, e470, rfl⟩
set_option maxRecDepth 65536 in
set_option maxHeartbeats 40000000 in
theorem rmEq (l : Launch) (Z : State) (a0 : Array Value) (hw : ∀ d ∈ tables_1, d.before a0 Z = true) (x : Addr) (x2 : Addr) (h0 : Heap) (hxx : x = x2) :
    OMet l Z (⟨"java/lang/String", "equals", "(Ljava/lang/Object;)Z"⟩ : MethodName) jdk_42_method_66_code 3 (some .boolean) (⟨0, 0, 0, 0⟩ : Room) #[(.ref x), (.ref x2)] h0 (fun v h L => v = some (.int (1 : Int32)) ∧ h = h0 ∧ L = []) := by
  refine own_enter own_pn46 ?_
  intro p e s m below meth c T0 X0 hC e0
  obtain ⟨hx, hZ, hby, hml, hown, hret, hlk, hnm⟩ := hC
  have hown : s.vm.findClass "java/lang/String" = some m.cls := hown
  refine own_at (own_ef46_RR m x x2) ?_
  show OFin p e below s _ _ _ (T0.setTop (mkF m 0 #[.val (.ref x), .val (.ref x2), .unset] []))
  refine own_st (fun _ kS => XS.aloadN X0.here hx rfl (hb hby own_d46_0) rfl rfl kS) ?_
  show OFin p e below s _ _ _ (T0.setTop (mkF m 1 #[.val (.ref x), .val (.ref x2), .unset] [(.ref x)]))
  refine own_st (fun _ kS => XS.aloadN X0.here hx rfl (hb hby own_d46_1) rfl rfl kS) ?_
  show OFin p e below s _ _ _ (T0.setTop (mkF m 2 #[.val (.ref x), .val (.ref x2), .unset] [(.ref x2), (.ref x)]))
  refine own_st (fun _ kS => Jvm.RoadKit.acmp (g := (mkF m 2 #[.val (.ref x), .val (.ref x2), .unset] [(.ref x2), (.ref x)])) X0 hx rfl rfl rfl (pc0 := 2) (pc' := 5) (same := true) rfl (hb hby own_d46_2) rfl (decide_eq_true (congrArg Value.ref hxx)) (by decide) (by decide) kS) ?_
  show OFin p e below s _ _ _ (T0.setTop (mkF m 5 #[.val (.ref x), .val (.ref x2), .unset] []))
  refine own_st (fun _ kS => XS.iconst X0.here hx rfl (hb hby own_d46_5) kS) ?_
  show OFin p e below s _ _ _ (T0.setTop (mkF m 6 #[.val (.ref x), .val (.ref x2), .unset] [(.int (1 : Int32))]))
  exact own_ret X0 hx (t := .boolean) hret hlk rfl (Or.inl ⟨rfl, by simp, _, rfl⟩) (hb hby own_d46_6) (by decide) (by decide) ⟨rfl, e0, rfl⟩
set_option maxRecDepth 65536 in
set_option maxHeartbeats 40000000 in
theorem rmAr (l : Launch) (Z : State) (a0 : Array Value) (hw : ∀ d ∈ tables_1, d.before a0 Z = true) (c0 : Addr) (h0 : Heap) (br : Addr) (F_a : Fld Z h0 c0 "com/example/unify_trace/unifytrace/term/Compound" "arguments" "[Lcom/example/unify_trace/unifytrace/term/Term;" (.ref br)) (R_b : ORef Z h0 br (.object "com/example/unify_trace/unifytrace/term/Term") "com/example/unify_trace/unifytrace/term/Term" 0 (fun _ => .null)) :
    OMet l Z (⟨"com/example/unify_trace/unifytrace/term/Compound", "arity", "()I"⟩ : MethodName) prog_25_method_4_code 1 (some .int) (⟨0, 0, 0, 0⟩ : Room) #[(.ref c0)] h0 (fun v h L => v = some (.int (0 : Int32)) ∧ h = h0 ∧ L = []) := by
  refine own_enter own_pn47 ?_
  intro p e s m below meth c T0 X0 hC e0
  obtain ⟨hx, hZ, hby, hml, hown, hret, hlk, hnm⟩ := hC
  have hown : s.vm.findClass "com/example/unify_trace/unifytrace/term/Compound" = some m.cls := hown
  refine own_at (own_ef47_R m c0) ?_
  show OFin p e below s _ _ _ (T0.setTop (mkF m 0 #[.val (.ref c0)] []))
  refine own_st (fun _ kS => XS.aloadN X0.here hx rfl (hb hby own_d47_0) rfl rfl kS) ?_
  show OFin p e below s _ _ _ (T0.setTop (mkF m 1 #[.val (.ref c0)] [(.ref c0)]))
  obtain ⟨T471, X471, e471, st471⟩ := getF X0 hx hZ hown (host := "") (Or.inl (own_w hw 280 rfl)) Via.refl e0 F_a (g := (mkF m 1 #[.val (.ref c0)] [(.ref c0)])) rfl rfl (hb hby own_d47_1)
  refine own_st (st471) ?_
  clear st471 X0 e0
  show OFin p e below s _ _ _ (T471.setTop (mkF m 4 #[.val (.ref c0)] [(.ref br)]))
  obtain ⟨cl472, Ar472, S472, B472, H472⟩ := id R_b
  have hl472 := own_len S472 (rfl : _ = (0 : Int32))
  refine own_st (X471.arraylength hx (by rw [e471]; exact Ar472.1) (State.isArrayOf_alike hZ.alike Ar472.2.1) (g := (mkF m 4 #[.val (.ref c0)] [(.ref br)])) rfl rfl (hb hby own_d47_4)) ?_
  rw [hl472]
  clear hl472 Ar472 S472 B472
  show OFin p e below s _ _ _ (T471.setTop (mkF m 5 #[.val (.ref c0)] [(.int (0 : Int32))]))
  exact own_ret X471 hx (t := .int) hret hlk rfl (Or.inl ⟨rfl, by simp, _, rfl⟩) (hb hby own_d47_5) (by decide) (by decide) ⟨rfl, e471, rfl⟩
set_option maxRecDepth 65536 in
set_option maxHeartbeats 40000000 in
theorem own_pV {l : Launch} {Z : State} {a0 : Array Value} (hw : ∀ d ∈ tables_1, d.before a0 Z = true) {p : Program} {e : Env} {s : State} {m : MethodId} {args : Array Value} {below : List Frame} {meth : Method} {c : Code} (hC : OCtx Z p s m meth c "com/example/unify_trace/unifytrace/program/TypeBasePinLaw" "law" code maxLocals ret) {T0 : State} {locs : List Loc} {cells slots : Nat} (X0 : Stand p l e room_1 s m args below meth c T0 locs cells slots) {h0 : Heap} (e0 : T0.heap = h0) (p1 p2 p3 p4 p5 k5 k6 : Int32) (cc x : Addr) (dc : Addr) (cs : List Int32) (z : Int32) (fm : Value) (n0 : Nat) (ty y : Addr) (Z0 : n0 ≤ h0.size) (N0 : Fr n0 locs) (O1 : OStr Z h0 x cs) (hn : own_name cs) (S_c : Sta Z Z.heap "java/lang/String" "COMPACT_STRINGS" "Z" (.int z)) (hz : ¬ z = 0) (S_f : Sta Z Z.heap "jdk/internal/util/Preconditions" "SIOOBE_FORMATTER" "Ljava/util/function/BiFunction;" fm) (rf : fm.isRef = true) (O : Old Z n0 h0) (S_dc : Sta Z Z.heap "java/util/ArrayList" "DEFAULTCAPACITY_EMPTY_ELEMENTDATA" "[Ljava/lang/Object;" (.ref dc)) (A_dc : OArr Z Z.heap dc (.object "java/lang/Object") 0 (fun _ => .null)) (B_t : BT Z h0 ty x) (hcs : cells ≤ 8) (hss : slots ≤ 40) :
    OFinE p e below (OEnd s room_1.cells room_1.slots (fun v vm h L => v = some (.int (1 : Int32)) ∧ Fr n0 L ∧ h0.size ≤ h.size)) (T0.setTop (mkF m 152 #[.val (.int p1), .val (.int p2), .val (.int p3), .val (.int p4), .val (.int p5), .val (.int k5), .val (.int k6), .val (.ref cc), .val (.ref x), .val (.ref ty), .unset] [(.ref y), (.ref ty)])) := by
  have hC0 := hC
  obtain ⟨hx, hZ, hby, hml, hown, hret, hlk, hnm⟩ := hC
  replace X0 := X0.mono hcs hss
  have E_t := B_t.1
  obtain ⟨v473, T473, L473, X473, SS473, hZ, hown, hQ473, st473⟩ := own_virtualW X0 hx hZ (y := (⟨"com/example/unify_trace/unifytrace/program/Type", "term", "(Ljava/lang/String;)Lcom/example/unify_trace/unifytrace/term/Term;"⟩ : MethodName)) (z := (⟨"com/example/unify_trace/unifytrace/program/Type", "term", "(Ljava/lang/String;)Lcom/example/unify_trace/unifytrace/term/Term;"⟩ : MethodName)) (rm := ⟨7, 11, 75, 102⟩) (W := 0) (a := ty) (argsL := [(.ref y)]) (rest := []) hown (own_w hw 52 rfl) (own_w hw 53 rfl) (notFace_of_selects (args := #[]) (mvT hZ (own_w hw 55 rfl))) (own_w hw 55 rfl) (own_w hw 54 rfl) (own_w hw 33 rfl) (own_w hw 56 rfl) (rmTe l Z a0 hw ty y h0 x dc cs z fm n0 Z0 B_t O1 hn S_c hz S_f rf O S_dc A_dc) (fun _ _ => trivial) e0 E_t (g := (mkF m 152 #[.val (.int p1), .val (.int p2), .val (.int p3), .val (.int p4), .val (.int p5), .val (.int k5), .val (.int k6), .val (.ref cc), .val (.ref x), .val (.ref ty), .unset] [(.ref y), (.ref ty)])) rfl (by rw [hml]; rfl) (lenOf own_pd21 rfl) rfl (by show 2 * 0 + _ ≤ _; exact Nat.le_of_eq rfl) (hb hby at_152) (by decide) (by decide) (by decide) (by decide)
  obtain ⟨c0, br, rfl, N473, K473, EC, FN, FA, RB⟩ := hQ473
  refine own_stE (st473) ?_
  clear X0 e0
  refine own_narrow SS473 (Q' := (fun v h L => (v = some (.int (1 : Int32)) ∧ Fr n0 L) ∧ T473.heap.size ≤ h.size)) ?_ (fun v vm h L hW q => ⟨q.2, q.1.1, q.1.2, Nat.le_trans K473.1 q.2⟩)
  show OFin p e below (s.setVm T473.vm) _ _ _ (T473.setTop (mkF m 155 #[.val (.int p1), .val (.int p2), .val (.int p3), .val (.int p4), .val (.int p5), .val (.int k5), .val (.int k6), .val (.ref cc), .val (.ref x), .val (.ref ty), .unset] [(.ref c0)]))
  have fr473 := Fr.app N0 N473
  have E_x := (O1.keep K473).1
  refine own_st (fun _ kS => XS.astore X473.here hx rfl (hb hby at_155) rfl rfl (l' := #[.val (.int p1), .val (.int p2), .val (.int p3), .val (.int p4), .val (.int p5), .val (.int k5), .val (.int k6), .val (.ref cc), .val (.ref x), .val (.ref ty), .val (.ref c0)]) rfl kS) ?_
  show OFin p e below (s.setVm T473.vm) _ _ _ (T473.setTop (mkF m 157 #[.val (.int p1), .val (.int p2), .val (.int p3), .val (.int p4), .val (.int p5), .val (.int k5), .val (.int k6), .val (.ref cc), .val (.ref x), .val (.ref ty), .val (.ref c0)] []))
  refine own_st (fun _ kS => XS.aload X473.here hx rfl (hb hby at_157) rfl rfl kS) ?_
  show OFin p e below (s.setVm T473.vm) _ _ _ (T473.setTop (mkF m 159 #[.val (.int p1), .val (.int p2), .val (.int p3), .val (.int p4), .val (.int p5), .val (.int k5), .val (.int k6), .val (.ref cc), .val (.ref x), .val (.ref ty), .val (.ref c0)] [(.ref c0)]))
  obtain ⟨T474, X474, e474, st474⟩ := instY X473 hx hZ hown (own_w hw 284 rfl) rfl (Ins.self EC) (g := (mkF m 159 #[.val (.int p1), .val (.int p2), .val (.int p3), .val (.int p4), .val (.int p5), .val (.int k5), .val (.int k6), .val (.ref cc), .val (.ref x), .val (.ref ty), .val (.ref c0)] [(.ref c0)])) rfl rfl (hb hby at_159)
  refine own_st (st474) ?_
  clear st474 X473
  show OFin p e below (s.setVm T473.vm) _ _ _ (T474.setTop (mkF m 162 #[.val (.int p1), .val (.int p2), .val (.int p3), .val (.int p4), .val (.int p5), .val (.int k5), .val (.int k6), .val (.ref cc), .val (.ref x), .val (.ref ty), .val (.ref c0)] [(.int (1 : Int32))]))
  refine own_st (fun _ kS => XS.ifNo X474.here hx rfl (hb hby at_162) rfl ((if0 _ _).trans (feq (by decide)).1) kS) ?_
  show OFin p e below (s.setVm T473.vm) _ _ _ (T474.setTop (mkF m 165 #[.val (.int p1), .val (.int p2), .val (.int p3), .val (.int p4), .val (.int p5), .val (.int k5), .val (.int k6), .val (.ref cc), .val (.ref x), .val (.ref ty), .val (.ref c0)] []))
  refine own_st (fun _ kS => XS.aload X474.here hx rfl (hb hby at_165) rfl rfl kS) ?_
  show OFin p e below (s.setVm T473.vm) _ _ _ (T474.setTop (mkF m 167 #[.val (.int p1), .val (.int p2), .val (.int p3), .val (.int p4), .val (.int p5), .val (.int k5), .val (.int k6), .val (.ref cc), .val (.ref x), .val (.ref ty), .val (.ref c0)] [(.ref c0)]))
  obtain ⟨v475, T475, L475, X475, hQ475, st475⟩ := own_virtual X474 hx hZ (y := (⟨"com/example/unify_trace/unifytrace/term/Term", "name", "()Ljava/lang/String;"⟩ : MethodName)) (z := (⟨"com/example/unify_trace/unifytrace/term/Term", "name", "()Ljava/lang/String;"⟩ : MethodName)) (rm := ⟨0, 0, 0, 0⟩) (W := 0) (a := c0) (argsL := []) (rest := []) hown (own_w hw 286 rfl) (own_w hw 287 rfl) (notFace_of_selects (args := #[]) (mvT hZ (own_w hw 289 rfl))) (own_w hw 289 rfl) (own_w hw 288 rfl) (own_w hw 252 rfl) (own_w hw 290 rfl) (rmNa l Z a0 hw c0 T473.heap x FN) e474 EC (g := (mkF m 167 #[.val (.int p1), .val (.int p2), .val (.int p3), .val (.int p4), .val (.int p5), .val (.int k5), .val (.int k6), .val (.ref cc), .val (.ref x), .val (.ref ty), .val (.ref c0)] [(.ref c0)])) rfl (by rw [hml]; rfl) (lenOf own_pd22 rfl) rfl (by show 2 * 0 + _ ≤ _; exact Nat.le_of_eq rfl) (hb hby at_167) (by decide) (by decide) (by decide) (by decide)
  obtain ⟨rfl, e475, rfl⟩ := hQ475
  rw [List.append_nil] at X475
  refine own_st (st475) ?_
  clear st475 X474 e474
  show OFin p e below (s.setVm T473.vm) _ _ _ (T475.setTop (mkF m 170 #[.val (.int p1), .val (.int p2), .val (.int p3), .val (.int p4), .val (.int p5), .val (.int k5), .val (.int k6), .val (.ref cc), .val (.ref x), .val (.ref ty), .val (.ref c0)] [(.ref x)]))
  refine own_st (fun _ kS => XS.aload X475.here hx rfl (hb hby at_170) rfl rfl kS) ?_
  show OFin p e below (s.setVm T473.vm) _ _ _ (T475.setTop (mkF m 172 #[.val (.int p1), .val (.int p2), .val (.int p3), .val (.int p4), .val (.int p5), .val (.int k5), .val (.int k6), .val (.ref cc), .val (.ref x), .val (.ref ty), .val (.ref c0)] [(.ref x), (.ref x)]))
  obtain ⟨v476, T476, L476, X476, hQ476, st476⟩ := own_virtual X475 hx hZ (y := (⟨"java/lang/String", "equals", "(Ljava/lang/Object;)Z"⟩ : MethodName)) (z := (⟨"java/lang/String", "equals", "(Ljava/lang/Object;)Z"⟩ : MethodName)) (rm := ⟨0, 0, 0, 0⟩) (W := 0) (a := x) (argsL := [(.ref x)]) (rest := []) hown (own_w hw 291 rfl) (own_w hw 292 rfl) (notFace_of_selects (args := #[]) (mvT hZ (own_w hw 294 rfl))) (own_w hw 294 rfl) (own_w hw 293 rfl) (own_w hw 4 rfl) (own_w hw 295 rfl) (rmEq l Z a0 hw x x T473.heap rfl) e475 E_x (g := (mkF m 172 #[.val (.int p1), .val (.int p2), .val (.int p3), .val (.int p4), .val (.int p5), .val (.int k5), .val (.int k6), .val (.ref cc), .val (.ref x), .val (.ref ty), .val (.ref c0)] [(.ref x), (.ref x)])) rfl (by rw [hml]; rfl) (lenOf own_pd19 rfl) rfl (by show 2 * 0 + _ ≤ _; exact Nat.le_of_eq rfl) (hb hby at_172) (by decide) (by decide) (by decide) (by decide)
  obtain ⟨rfl, e476, rfl⟩ := hQ476
  rw [List.append_nil] at X476
  refine own_st (st476) ?_
  clear st476 X475 e475
  show OFin p e below (s.setVm T473.vm) _ _ _ (T476.setTop (mkF m 175 #[.val (.int p1), .val (.int p2), .val (.int p3), .val (.int p4), .val (.int p5), .val (.int k5), .val (.int k6), .val (.ref cc), .val (.ref x), .val (.ref ty), .val (.ref c0)] [(.int (1 : Int32))]))
  refine own_st (fun _ kS => XS.ifNo X476.here hx rfl (hb hby at_175) rfl ((if0 _ _).trans (feq (by decide)).1) kS) ?_
  show OFin p e below (s.setVm T473.vm) _ _ _ (T476.setTop (mkF m 178 #[.val (.int p1), .val (.int p2), .val (.int p3), .val (.int p4), .val (.int p5), .val (.int k5), .val (.int k6), .val (.ref cc), .val (.ref x), .val (.ref ty), .val (.ref c0)] []))
  refine own_st (fun _ kS => XS.aload X476.here hx rfl (hb hby at_178) rfl rfl kS) ?_
  show OFin p e below (s.setVm T473.vm) _ _ _ (T476.setTop (mkF m 180 #[.val (.int p1), .val (.int p2), .val (.int p3), .val (.int p4), .val (.int p5), .val (.int k5), .val (.int k6), .val (.ref cc), .val (.ref x), .val (.ref ty), .val (.ref c0)] [(.ref c0)]))
  obtain ⟨v477, T477, L477, X477, hQ477, st477⟩ := own_virtual X476 hx hZ (y := (⟨"com/example/unify_trace/unifytrace/term/Term", "arity", "()I"⟩ : MethodName)) (z := (⟨"com/example/unify_trace/unifytrace/term/Compound", "arity", "()I"⟩ : MethodName)) (rm := ⟨0, 0, 0, 0⟩) (W := 0) (a := c0) (argsL := []) (rest := []) hown (own_w hw 296 rfl) (own_w hw 297 rfl) (own_nf (args := #[]) (mvT hZ (own_w hw 289 rfl)) rfl) (own_w hw 298 rfl) (own_w hw 299 rfl) (own_w hw 212 rfl) (own_w hw 300 rfl) (rmAr l Z a0 hw c0 T473.heap br FA RB) e476 EC (g := (mkF m 180 #[.val (.int p1), .val (.int p2), .val (.int p3), .val (.int p4), .val (.int p5), .val (.int k5), .val (.int k6), .val (.ref cc), .val (.ref x), .val (.ref ty), .val (.ref c0)] [(.ref c0)])) rfl (by rw [hml]; rfl) (lenOf own_pd0 rfl) rfl (by show 2 * 0 + _ ≤ _; exact Nat.le_of_eq rfl) (hb hby at_180) (by decide) (by decide) (by decide) (by decide)
  obtain ⟨rfl, e477, rfl⟩ := hQ477
  rw [List.append_nil] at X477
  refine own_st (st477) ?_
  clear st477 X476 e476
  show OFin p e below (s.setVm T473.vm) _ _ _ (T477.setTop (mkF m 183 #[.val (.int p1), .val (.int p2), .val (.int p3), .val (.int p4), .val (.int p5), .val (.int k5), .val (.int k6), .val (.ref cc), .val (.ref x), .val (.ref ty), .val (.ref c0)] [(.int (0 : Int32))]))
  refine own_st (fun _ kS => XS.ifNo X477.here hx rfl (hb hby at_183) rfl ((if0 _ _).trans (teq rfl).2) kS) ?_
  show OFin p e below (s.setVm T473.vm) _ _ _ (T477.setTop (mkF m 186 #[.val (.int p1), .val (.int p2), .val (.int p3), .val (.int p4), .val (.int p5), .val (.int k5), .val (.int k6), .val (.ref cc), .val (.ref x), .val (.ref ty), .val (.ref c0)] []))
  refine own_st (fun _ kS => XS.iconst X477.here hx rfl (hb hby at_186) kS) ?_
  show OFin p e below (s.setVm T473.vm) _ _ _ (T477.setTop (mkF m 187 #[.val (.int p1), .val (.int p2), .val (.int p3), .val (.int p4), .val (.int p5), .val (.int k5), .val (.int k6), .val (.ref cc), .val (.ref x), .val (.ref ty), .val (.ref c0)] [(.int (1 : Int32))]))
  refine own_st (fun _ kS => XS.goto X477.here hx rfl (pc0 := 187) (pc' := 191) rfl (hb hby at_187) (by decide) (by decide) kS) ?_
  show OFin p e below (s.setVm T473.vm) _ _ _ (T477.setTop (mkF m 191 #[.val (.int p1), .val (.int p2), .val (.int p3), .val (.int p4), .val (.int p5), .val (.int k5), .val (.int k6), .val (.ref cc), .val (.ref x), .val (.ref ty), .val (.ref c0)] [(.int (1 : Int32))]))
  exact own_ret X477 hx (t := .boolean) hret hlk rfl (Or.inl ⟨rfl, by simp, _, rfl⟩) (hb hby at_191) (by decide) (by decide) ⟨⟨rfl, fr473⟩, by rw [e477]; exact Nat.le_refl _⟩
set_option maxRecDepth 65536 in
set_option maxHeartbeats 40000000 in
theorem own_pS {l : Launch} {Z : State} {a0 : Array Value} (hw : ∀ d ∈ tables_1, d.before a0 Z = true) {p : Program} {e : Env} {s : State} {m : MethodId} {args : Array Value} {below : List Frame} {meth : Method} {c : Code} (hC : OCtx Z p s m meth c "com/example/unify_trace/unifytrace/program/TypeBasePinLaw" "law" code maxLocals ret) {T0 : State} {locs : List Loc} {cells slots : Nat} (X0 : Stand p l e room_1 s m args below meth c T0 locs cells slots) {h0 : Heap} (e0 : T0.heap = h0) (p1 p2 p3 p4 p5 k5 k6 : Int32) (cc x : Addr) (dc : Addr) (cs : List Int32) (z : Int32) (fm : Value) (n0 : Nat) (Z0 : n0 ≤ h0.size) (N0 : Fr n0 locs) (O1 : OStr Z h0 x cs) (hn : own_name cs) (S_c : Sta Z Z.heap "java/lang/String" "COMPACT_STRINGS" "Z" (.int z)) (hz : ¬ z = 0) (S_f : Sta Z Z.heap "jdk/internal/util/Preconditions" "SIOOBE_FORMATTER" "Ljava/util/function/BiFunction;" fm) (rf : fm.isRef = true) (O : Old Z n0 h0) (S_dc : Sta Z Z.heap "java/util/ArrayList" "DEFAULTCAPACITY_EMPTY_ELEMENTDATA" "[Ljava/lang/Object;" (.ref dc)) (A_dc : OArr Z Z.heap dc (.object "java/lang/Object") 0 (fun _ => .null)) (hcs : cells ≤ 3) (hss : slots ≤ 12) :
    OFinE p e below (OEnd s room_1.cells room_1.slots (fun v vm h L => v = some (.int (1 : Int32)) ∧ Fr n0 L)) (T0.setTop (mkF m 139 #[.val (.int p1), .val (.int p2), .val (.int p3), .val (.int p4), .val (.int p5), .val (.int k5), .val (.int k6), .val (.ref cc), .unset, .unset, .unset] [(.ref x)])) := by
  have hC0 := hC
  obtain ⟨hx, hZ, hby, hml, hown, hret, hlk, hnm⟩ := hC
  replace X0 := X0.mono hcs hss
  have kp0 := Keep.refl h0 []
  refine own_stE (fun _ kS => XS.astore X0.here hx rfl (hb hby at_139) rfl rfl (l' := #[.val (.int p1), .val (.int p2), .val (.int p3), .val (.int p4), .val (.int p5), .val (.int k5), .val (.int k6), .val (.ref cc), .val (.ref x), .unset, .unset]) rfl kS) ?_
  show OFinE p e below _ (T0.setTop (mkF m 141 #[.val (.int p1), .val (.int p2), .val (.int p3), .val (.int p4), .val (.int p5), .val (.int k5), .val (.int k6), .val (.ref cc), .val (.ref x), .unset, .unset] []))
  refine own_stE (fun _ kS => XS.aload X0.here hx rfl (hb hby at_141) rfl rfl kS) ?_
  show OFinE p e below _ (T0.setTop (mkF m 143 #[.val (.int p1), .val (.int p2), .val (.int p3), .val (.int p4), .val (.int p5), .val (.int k5), .val (.int k6), .val (.ref cc), .val (.ref x), .unset, .unset] [(.ref x)]))
  obtain ⟨v478, T478, L478, X478, hQ478, st478⟩ := own_static X0 hx hZ (y := (⟨"com/example/unify_trace/unifytrace/program/Type", "base", "(Ljava/lang/String;)Lcom/example/unify_trace/unifytrace/program/Type;"⟩ : MethodName)) (rm := ⟨2, 1, 4, 29⟩) (W := 0) (argsL := [(.ref x)]) (rest := []) hown (own_w hw 31 rfl) (own_w hw 32 rfl) (own_w hw 33 rfl) (own_w hw 34 rfl) (rmBa l Z a0 hw x h0 n0 Z0) e0 (g := (mkF m 143 #[.val (.int p1), .val (.int p2), .val (.int p3), .val (.int p4), .val (.int p5), .val (.int k5), .val (.int k6), .val (.ref cc), .val (.ref x), .unset, .unset] [(.ref x)])) rfl (by rw [hml]; rfl) (lenOf own_pd23 rfl) rfl (by show 2 * 0 + _ ≤ _; exact Nat.le_of_eq rfl) (hb hby at_143) (by decide) (by decide) (by decide) (by decide)
  obtain ⟨ty, rfl, N478, K478, ge_ty, BB⟩ := hQ478
  have fr478 := Fr.app N0 N478
  clear N0
  have kp478 := kp0.trans K478 all0
  clear kp0
  have od478 := O.keep K478 all0
  have sz478 : n0 ≤ T478.heap.size := Nat.le_trans Z0 K478.1
  refine own_stE (st478) ?_
  clear st478 X0 e0
  show OFinE p e below _ (T478.setTop (mkF m 146 #[.val (.int p1), .val (.int p2), .val (.int p3), .val (.int p4), .val (.int p5), .val (.int k5), .val (.int k6), .val (.ref cc), .val (.ref x), .unset, .unset] [(.ref ty)]))
  refine own_stE (fun _ kS => XS.astore X478.here hx rfl (hb hby at_146) rfl rfl (l' := #[.val (.int p1), .val (.int p2), .val (.int p3), .val (.int p4), .val (.int p5), .val (.int k5), .val (.int k6), .val (.ref cc), .val (.ref x), .val (.ref ty), .unset]) rfl kS) ?_
  show OFinE p e below _ (T478.setTop (mkF m 148 #[.val (.int p1), .val (.int p2), .val (.int p3), .val (.int p4), .val (.int p5), .val (.int k5), .val (.int k6), .val (.ref cc), .val (.ref x), .val (.ref ty), .unset] []))
  refine own_stE (fun _ kS => XS.aload X478.here hx rfl (hb hby at_148) rfl rfl kS) ?_
  show OFinE p e below _ (T478.setTop (mkF m 150 #[.val (.int p1), .val (.int p2), .val (.int p3), .val (.int p4), .val (.int p5), .val (.int k5), .val (.int k6), .val (.ref cc), .val (.ref x), .val (.ref ty), .unset] [(.ref ty)]))
  have wS : ∀ a ∈ Bundle.stringAtoms, a.before a0 Z = true := fun d hd => hw d ((by decide +kernel : ∀ d ∈ Bundle.stringAtoms, d ∈ tables_1) d hd)
  obtain ⟨y, T479, h479, kk479, X479, e479, E479, SS479, hk479, hZ, hown, st479⟩ := own_ldcO X478 hx hZ hown (own_w hw 49 rfl) wS rfl (g := (mkF m 150 #[.val (.int p1), .val (.int p2), .val (.int p3), .val (.int p4), .val (.int p5), .val (.int k5), .val (.int k6), .val (.ref cc), .val (.ref x), .val (.ref ty), .unset] [(.ref ty)])) rfl (hb hby at_150) (n := 4) (by decide) (by decide) (by decide) (by decide)
  refine own_stE (st479) ?_
  show OFinE p e below _ (T479.setTop (mkF m 152 #[.val (.int p1), .val (.int p2), .val (.int p3), .val (.int p4), .val (.int p5), .val (.int k5), .val (.int k6), .val (.ref cc), .val (.ref x), .val (.ref ty), .unset] [(.ref y), (.ref ty)]))
  have kE := (Keep.refl T478.heap []).ext E479
  have kF := kp478.ext E479
  exact own_rebase SS479 (own_pV hw ⟨hx, hZ, hby, hml, hown, hret, hlk, hnm⟩ X479 e479 p1 p2 p3 p4 p5 k5 k6 cc x dc cs z fm n0 ty y (Nat.le_trans Z0 kF.1) fr478 (O1.keep kF) hn S_c hz S_f rf (O.keep kF all0) S_dc A_dc (BB.keep kE nin0) (by decide) (by decide)) (fun v vm h L q => ⟨Nat.le_trans hk479 q.2.2, q.1, q.2.1⟩)
set_option maxRecDepth 65536 in
set_option maxHeartbeats 40000000 in
theorem rm0 (l : Launch) (Z : State) (a0 : Array Value) (hw : ∀ d ∈ tables_1, d.before a0 Z = true) (p1 : Int32) (p2 : Int32) (p3 : Int32) (p4 : Int32) (p5 : Int32) (h0 : Heap) (n0 : Nat) (Z0 : n0 ≤ h0.size) (dc : Addr) (z : Int32) (fm : Value) (S_c : Sta Z Z.heap "java/lang/String" "COMPACT_STRINGS" "Z" (.int z)) (hz : ¬ z = 0) (S_f : Sta Z Z.heap "jdk/internal/util/Preconditions" "SIOOBE_FORMATTER" "Ljava/util/function/BiFunction;" fm) (rf : fm.isRef = true) (O : Old Z n0 h0) (S_dc : Sta Z Z.heap "java/util/ArrayList" "DEFAULTCAPACITY_EMPTY_ELEMENTDATA" "[Ljava/lang/Object;" (.ref dc)) (A_dc : OArr Z Z.heap dc (.object "java/lang/Object") 0 (fun _ => .null)) :
    OMetW l Z (fun _ => True) x code maxLocals ret room_1 #[(.int p1), (.int p2), (.int p3), (.int p4), (.int p5)] h0 (fun v vm h L => v = some (.int (1 : Int32)) ∧ Fr n0 L) := by
  refine own_enterW own_pn0 ?_
  intro p e s m below meth c T0 X0 hC e0 eS hPv
  have hC0 := hC
  obtain ⟨hx, hZ, hby, hml, hown, hret, hlk, hnm⟩ := hC
  have hown : s.vm.findClass "com/example/unify_trace/unifytrace/program/TypeBasePinLaw" = some m.cls := hown
  refine own_atE (own_ef0_IIIII m p1 p2 p3 p4 p5) ?_
  show OFinE p e below _ (T0.setTop (mkF m 0 #[.val (.int p1), .val (.int p2), .val (.int p3), .val (.int p4), .val (.int p5), .unset, .unset, .unset, .unset, .unset, .unset] []))
  have N0 := Fr.nil n0
  refine own_stE (fun _ kS => XS.bipush X0.here hx rfl (hb hby at_0) kS) ?_
  show OFinE p e below _ (T0.setTop (mkF m 2 #[.val (.int p1), .val (.int p2), .val (.int p3), .val (.int p4), .val (.int p5), .unset, .unset, .unset, .unset, .unset, .unset] [(.int (97 : Int32))]))
  refine own_stE (fun _ kS => XS.iloadN X0.here hx rfl (hb hby at_2) rfl kS) ?_
  show OFinE p e below _ (T0.setTop (mkF m 3 #[.val (.int p1), .val (.int p2), .val (.int p3), .val (.int p4), .val (.int p5), .unset, .unset, .unset, .unset, .unset, .unset] [(.int p1), (.int (97 : Int32))]))
  refine own_stE (X0.ldcInt hx hown (mvT hZ (own_w hw 0 rfl)) (g := (mkF m 3 #[.val (.int p1), .val (.int p2), .val (.int p3), .val (.int p4), .val (.int p5), .unset, .unset, .unset, .unset, .unset, .unset] [(.int p1), (.int (97 : Int32))])) rfl (hb hby at_3)) ?_
  show OFinE p e below _ (T0.setTop (mkF m 5 #[.val (.int p1), .val (.int p2), .val (.int p3), .val (.int p4), .val (.int p5), .unset, .unset, .unset, .unset, .unset, .unset] [(.int (2147483647 : Int32)), (.int p1), (.int (97 : Int32))]))
  refine own_stE (fun _ kS => XS.iand X0.here hx rfl (hb hby at_5) rfl kS) ?_
  show OFinE p e below _ (T0.setTop (mkF m 6 #[.val (.int p1), .val (.int p2), .val (.int p3), .val (.int p4), .val (.int p5), .unset, .unset, .unset, .unset, .unset, .unset] [(.int (p1 &&& (2147483647 : Int32))), (.int (97 : Int32))]))
  refine own_stE (fun _ kS => XS.bipush X0.here hx rfl (hb hby at_6) kS) ?_
  show OFinE p e below _ (T0.setTop (mkF m 8 #[.val (.int p1), .val (.int p2), .val (.int p3), .val (.int p4), .val (.int p5), .unset, .unset, .unset, .unset, .unset, .unset] [(.int (26 : Int32)), (.int (p1 &&& (2147483647 : Int32))), (.int (97 : Int32))]))
  refine own_stE (fun _ kS => iremM (g := (mkF m 8 #[.val (.int p1), .val (.int p2), .val (.int p3), .val (.int p4), .val (.int p5), .unset, .unset, .unset, .unset, .unset, .unset] [(.int (26 : Int32)), (.int (p1 &&& (2147483647 : Int32))), (.int (97 : Int32))])) X0 hx rfl (hb hby at_8) rfl (by decide) kS) ?_
  show OFinE p e below _ (T0.setTop (mkF m 9 #[.val (.int p1), .val (.int p2), .val (.int p3), .val (.int p4), .val (.int p5), .unset, .unset, .unset, .unset, .unset, .unset] [(.int ((p1 &&& (2147483647 : Int32)) % (26 : Int32))), (.int (97 : Int32))]))
  refine own_stE (fun _ kS => XS.iadd X0.here hx rfl (hb hby at_9) rfl kS) ?_
  show OFinE p e below _ (T0.setTop (mkF m 10 #[.val (.int p1), .val (.int p2), .val (.int p3), .val (.int p4), .val (.int p5), .unset, .unset, .unset, .unset, .unset, .unset] [(.int ((97 : Int32) + ((p1 &&& (2147483647 : Int32)) % (26 : Int32))))]))
  refine own_stE (fun _ kS => XS.i2c X0.here hx rfl (hb hby at_10) rfl kS) ?_
  show OFinE p e below _ (T0.setTop (mkF m 11 #[.val (.int p1), .val (.int p2), .val (.int p3), .val (.int p4), .val (.int p5), .unset, .unset, .unset, .unset, .unset, .unset] [(.int (((97 : Int32) + ((p1 &&& (2147483647 : Int32)) % (26 : Int32))).toUInt32.toUInt16.toUInt32.toInt32))]))
  refine own_stE (fun _ kS => XS.istore X0.here hx rfl (hb hby at_11) rfl (l' := #[.val (.int p1), .val (.int p2), .val (.int p3), .val (.int p4), .val (.int p5), .val (.int (((97 : Int32) + ((p1 &&& (2147483647 : Int32)) % (26 : Int32))).toUInt32.toUInt16.toUInt32.toInt32)), .unset, .unset, .unset, .unset, .unset]) rfl kS) ?_
  show OFinE p e below _ (T0.setTop (mkF m 13 #[.val (.int p1), .val (.int p2), .val (.int p3), .val (.int p4), .val (.int p5), .val (.int (((97 : Int32) + ((p1 &&& (2147483647 : Int32)) % (26 : Int32))).toUInt32.toUInt16.toUInt32.toInt32)), .unset, .unset, .unset, .unset, .unset] []))
  have hc := own_c0 p1
  generalize (((97 : Int32) + ((p1 &&& (2147483647 : Int32)) % (26 : Int32))).toUInt32.toUInt16.toUInt32.toInt32) = k5 at hc ⊢
  show OFinE p e below _ (T0.setTop (mkF m 13 #[.val (.int p1), .val (.int p2), .val (.int p3), .val (.int p4), .val (.int p5), .val (.int k5), .unset, .unset, .unset, .unset, .unset] []))
  refine own_stE (fun _ kS => XS.iconst X0.here hx rfl (hb hby at_13) kS) ?_
  show OFinE p e below _ (T0.setTop (mkF m 14 #[.val (.int p1), .val (.int p2), .val (.int p3), .val (.int p4), .val (.int p5), .val (.int k5), .unset, .unset, .unset, .unset, .unset] [(.int (1 : Int32))]))
  refine own_stE (fun _ kS => XS.iload X0.here hx rfl (hb hby at_14) rfl kS) ?_
  show OFinE p e below _ (T0.setTop (mkF m 16 #[.val (.int p1), .val (.int p2), .val (.int p3), .val (.int p4), .val (.int p5), .val (.int k5), .unset, .unset, .unset, .unset, .unset] [(.int p5), (.int (1 : Int32))]))
  refine own_stE (fun _ kS => XS.iconst X0.here hx rfl (hb hby at_16) kS) ?_
  show OFinE p e below _ (T0.setTop (mkF m 17 #[.val (.int p1), .val (.int p2), .val (.int p3), .val (.int p4), .val (.int p5), .val (.int k5), .unset, .unset, .unset, .unset, .unset] [(.int (3 : Int32)), (.int p5), (.int (1 : Int32))]))
  refine own_stE (fun _ kS => XS.iand X0.here hx rfl (hb hby at_17) rfl kS) ?_
  show OFinE p e below _ (T0.setTop (mkF m 18 #[.val (.int p1), .val (.int p2), .val (.int p3), .val (.int p4), .val (.int p5), .val (.int k5), .unset, .unset, .unset, .unset, .unset] [(.int (p5 &&& (3 : Int32))), (.int (1 : Int32))]))
  refine own_stE (fun _ kS => XS.iadd X0.here hx rfl (hb hby at_18) rfl kS) ?_
  show OFinE p e below _ (T0.setTop (mkF m 19 #[.val (.int p1), .val (.int p2), .val (.int p3), .val (.int p4), .val (.int p5), .val (.int k5), .unset, .unset, .unset, .unset, .unset] [(.int ((1 : Int32) + (p5 &&& (3 : Int32))))]))
  refine own_stE (fun _ kS => XS.istore X0.here hx rfl (hb hby at_19) rfl (l' := #[.val (.int p1), .val (.int p2), .val (.int p3), .val (.int p4), .val (.int p5), .val (.int k5), .val (.int ((1 : Int32) + (p5 &&& (3 : Int32)))), .unset, .unset, .unset, .unset]) rfl kS) ?_
  show OFinE p e below _ (T0.setTop (mkF m 21 #[.val (.int p1), .val (.int p2), .val (.int p3), .val (.int p4), .val (.int p5), .val (.int k5), .val (.int ((1 : Int32) + (p5 &&& (3 : Int32)))), .unset, .unset, .unset, .unset] []))
  generalize hk6 : ((1 : Int32) + (p5 &&& (3 : Int32))) = k6
  show OFinE p e below _ (T0.setTop (mkF m 21 #[.val (.int p1), .val (.int p2), .val (.int p3), .val (.int p4), .val (.int p5), .val (.int k5), .val (.int k6), .unset, .unset, .unset, .unset] []))
  refine own_stE (fun _ kS => XS.iload X0.here hx rfl (hb hby at_21) rfl kS) ?_
  show OFinE p e below _ (T0.setTop (mkF m 23 #[.val (.int p1), .val (.int p2), .val (.int p3), .val (.int p4), .val (.int p5), .val (.int k5), .val (.int k6), .unset, .unset, .unset, .unset] [(.int k6)]))
  refine own_stE (fun _ kS => XS.iconst X0.here hx rfl (hb hby at_23) kS) ?_
  show OFinE p e below _ (T0.setTop (mkF m 24 #[.val (.int p1), .val (.int p2), .val (.int p3), .val (.int p4), .val (.int p5), .val (.int k5), .val (.int k6), .unset, .unset, .unset, .unset] [(.int (1 : Int32)), (.int k6)]))
  by_cases e1 : k6 = (1 : Int32)
  · refine own_stE (fun _ kS => XS.icmpNo X0.here hx rfl (hb hby at_24) rfl (teq e1).2 kS) ?_
    show OFinE p e below _ (T0.setTop (mkF m 27 #[.val (.int p1), .val (.int p2), .val (.int p3), .val (.int p4), .val (.int p5), .val (.int k5), .val (.int k6), .unset, .unset, .unset, .unset] []))
    refine own_stE (fun _ kS => XS.iconst X0.here hx rfl (hb hby at_27) kS) ?_
    show OFinE p e below _ (T0.setTop (mkF m 28 #[.val (.int p1), .val (.int p2), .val (.int p3), .val (.int p4), .val (.int p5), .val (.int k5), .val (.int k6), .unset, .unset, .unset, .unset] [(.int (1 : Int32))]))
    obtain ⟨T480, h480, k480, X480, e480, E480, A480, st480⟩ := newP X0 hx hZ (own_w hw 1 rfl) e0 (g := (mkF m 28 #[.val (.int p1), .val (.int p2), .val (.int p3), .val (.int p4), .val (.int p5), .val (.int k5), .val (.int k6), .unset, .unset, .unset, .unset] [(.int (1 : Int32))])) rfl (hb hby at_28) rfl (by decide) (cap := 1) (by decide) (by decide) (by decide) (by decide)
    obtain ⟨cc, g480⟩ : ∃ z, z = h0.size := ⟨_, rfl⟩
    rw [← g480] at A480 st480
    have g_cc : n0 ≤ cc := Nat.le_trans Z0 (Nat.le_of_eq g480.symm)
    have od480 := O.ext E480
    have f481 : Arv Z h480 cc k480 .char (1 : Int32) [(.int (0 : Int32))] (.int (0 : Int32)) := (Arv.new A480 (by decide)).pad (pad_rep [] (.int (0 : Int32)) 1)
    have sz480 : n0 ≤ h480.size := Nat.le_trans Z0 E480.1
    refine own_stE (st480) ?_
    clear st480 X0 e0 E480 g480
    show OFinE p e below _ (T480.setTop (mkF m 30 #[.val (.int p1), .val (.int p2), .val (.int p3), .val (.int p4), .val (.int p5), .val (.int k5), .val (.int k6), .unset, .unset, .unset, .unset] [(.ref cc)]))
    refine own_stE (fun _ kS => XS.dup X480.here hx rfl (hb hby at_30) rfl rfl kS) ?_
    show OFinE p e below _ (T480.setTop (mkF m 31 #[.val (.int p1), .val (.int p2), .val (.int p3), .val (.int p4), .val (.int p5), .val (.int k5), .val (.int k6), .unset, .unset, .unset, .unset] [(.ref cc), (.ref cc)]))
    refine own_stE (fun _ kS => XS.iconst X480.here hx rfl (hb hby at_31) kS) ?_
    show OFinE p e below _ (T480.setTop (mkF m 32 #[.val (.int p1), .val (.int p2), .val (.int p3), .val (.int p4), .val (.int p5), .val (.int k5), .val (.int k6), .unset, .unset, .unset, .unset] [(.int (0 : Int32)), (.ref cc), (.ref cc)]))
    refine own_stE (fun _ kS => XS.iload X480.here hx rfl (hb hby at_32) rfl kS) ?_
    show OFinE p e below _ (T480.setTop (mkF m 34 #[.val (.int p1), .val (.int p2), .val (.int p3), .val (.int p4), .val (.int p5), .val (.int k5), .val (.int k6), .unset, .unset, .unset, .unset] [(.int k5), (.int (0 : Int32)), (.ref cc), (.ref cc)]))
    obtain ⟨cl482, Ar482, q482, S482, N482, H482, G482⟩ := id f481
    have hin482 : ¬ ((0 : Int32) < 0 ∨ cl482.slots.size ≤ ((0 : Int32)).toNatClampNeg) := inb_of S482 ⟨by decide, by decide⟩
    obtain ⟨T482, h482, X482, e482, W482, st482⟩ := stC X480 hx hZ e480 Ar482 (j := (0 : Int32)) hin482 (g := (mkF m 34 #[.val (.int p1), .val (.int p2), .val (.int p3), .val (.int p4), .val (.int p5), .val (.int k5), .val (.int k6), .unset, .unset, .unset, .unset] [(.int k5), (.int (0 : Int32)), (.ref cc), (.ref cc)])) rfl rfl (hb hby at_34)
    have f483 := Arv.set Ar482 q482 S482 N482 H482 G482 (fits_nar_char _) W482 0 rfl (Nat.le_of_ble_eq_true rfl)
    have od482 := od480.wr W482 g_cc
    clear od480
    have sz482 : n0 ≤ h482.size := by rw [W482.size]; exact sz480
    clear sz480
    have fr482 := Fr.snoc X482 N0 g_cc
    clear N0
    refine own_stE (st482) ?_
    clear st482 X480 e480 W482 Ar482 q482 S482 N482 H482 G482 hin482 f481
    show OFinE p e below _ (T482.setTop (mkF m 35 #[.val (.int p1), .val (.int p2), .val (.int p3), .val (.int p4), .val (.int p5), .val (.int k5), .val (.int k6), .unset, .unset, .unset, .unset] [(.ref cc)]))
    refine own_stE (fun _ kS => XS.astore X482.here hx rfl (hb hby at_35) rfl rfl (l' := #[.val (.int p1), .val (.int p2), .val (.int p3), .val (.int p4), .val (.int p5), .val (.int k5), .val (.int k6), .val (.ref cc), .unset, .unset, .unset]) rfl kS) ?_
    show OFinE p e below _ (T482.setTop (mkF m 37 #[.val (.int p1), .val (.int p2), .val (.int p3), .val (.int p4), .val (.int p5), .val (.int k5), .val (.int k6), .val (.ref cc), .unset, .unset, .unset] []))
    refine own_stE (fun _ kS => XS.goto X482.here hx rfl (pc0 := 37) (pc' := 130) rfl (hb hby at_37) (by decide) (by decide) kS) ?_
    show OFinE p e below _ (T482.setTop (mkF m 130 #[.val (.int p1), .val (.int p2), .val (.int p3), .val (.int p4), .val (.int p5), .val (.int k5), .val (.int k6), .val (.ref cc), .unset, .unset, .unset] []))
    obtain ⟨T485, h485, X485, e485, E485, A485, D485, -, st485⟩ := newO X482 hx hZ hown (own_w hw 2 rfl) (own_w hw 3 rfl) (own_w hw 4 rfl) e482 (g := (mkF m 130 #[.val (.int p1), .val (.int p2), .val (.int p3), .val (.int p4), .val (.int p5), .val (.int k5), .val (.int k6), .val (.ref cc), .unset, .unset, .unset] [])) rfl (hb hby at_130) (by decide) (by decide)
    obtain ⟨sx, g485⟩ : ∃ z, z = h482.size := ⟨_, rfl⟩
    rw [← g485] at A485 D485 st485
    have ne_cc_sx : cc ≠ sx := Nat.ne_of_lt (Nat.lt_of_lt_of_le f483.lt (Nat.le_of_eq g485.symm))
    have g_sx : n0 ≤ sx := Nat.le_trans sz482 (Nat.le_of_eq g485.symm)
    have od485 := od482.ext E485
    clear od482
    have f486 := f483.ext E485
    clear f483
    have f487 : Fld Z h485 sx "java/lang/String" "coder" "B" (.int (0 : Int32)) := D485 (Or.inr (own_w hw 28 rfl)) (ty := .byte) (by decide)
    have f488 : Fld Z h485 sx "java/lang/String" "value" "[B" .null := D485 (Or.inr (own_w hw 30 rfl)) (ty := (.array .byte)) (by decide)
    have sz485 : n0 ≤ h485.size := Nat.le_trans sz482 E485.1
    clear sz482
    refine own_stE (st485) ?_
    clear st485 X482 e482 E485 D485 g485
    show OFinE p e below _ (T485.setTop (mkF m 133 #[.val (.int p1), .val (.int p2), .val (.int p3), .val (.int p4), .val (.int p5), .val (.int k5), .val (.int k6), .val (.ref cc), .unset, .unset, .unset] [(.ref sx)]))
    refine own_stE (fun _ kS => XS.dup X485.here hx rfl (hb hby at_133) rfl rfl kS) ?_
    show OFinE p e below _ (T485.setTop (mkF m 134 #[.val (.int p1), .val (.int p2), .val (.int p3), .val (.int p4), .val (.int p5), .val (.int k5), .val (.int k6), .val (.ref cc), .unset, .unset, .unset] [(.ref sx), (.ref sx)]))
    refine own_stE (fun _ kS => XS.aload X485.here hx rfl (hb hby at_134) rfl rfl kS) ?_
    show OFinE p e below _ (T485.setTop (mkF m 136 #[.val (.int p1), .val (.int p2), .val (.int p3), .val (.int p4), .val (.int p5), .val (.int k5), .val (.int k6), .val (.ref cc), .unset, .unset, .unset] [(.ref cc), (.ref sx), (.ref sx)]))
    have hws : ∀ d ∈ StrChars.Road.words, d.before a0 Z = true := fun d hd => hw d ((by decide +kernel : ∀ d ∈ StrChars.Road.words, d ∈ tables_1) d hd)
    have hnn : own_name [k5] := own_nameC hc (by simp) (by intro b hb; cases hb)
    have hcs : ([nar .char k5] : List Int32) = [k5] := by rw [own_ncE ⟨by omega, by omega⟩]
    have hn : own_name [nar .char k5] := by rw [hcs]; exact hnn
    obtain ⟨v489, T489, L489, X489, hQ489, st489⟩ := own_initB (StrChars.Road.QV Z sx (1 : Int32) (([nar .char k5] : List Int32).map (fun c => c.toInt8.toInt32)) h485 n0) 1 1 X485 hx hZ (y := (⟨"java/lang/String", "<init>", "([C)V"⟩ : MethodName)) (W := 1) (a := sx) (argsL := [(.ref cc)]) (rest := [(.ref sx)]) rfl hown (own_w hw 5 rfl) (own_w hw 6 rfl) (own_w hw 7 rfl) (StrChars.Road.backV (R := room_1) (W := 1) hZ hws (kI := 4) (own_w hw 3 rfl) (cs := [nar .char k5]) (bs := ([nar .char k5] : List Int32).map (fun c => c.toInt8.toInt32)) (n := 1) (n0 := n0) g_sx sz485 A485 f488 f487 f486 (Sta.ext od485.2 S_c) hz rfl rfl (by decide) (by decide) hn.2.2.2.2 rfl (by decide) (by decide)) e485 (g := (mkF m 136 #[.val (.int p1), .val (.int p2), .val (.int p3), .val (.int p4), .val (.int p5), .val (.int k5), .val (.int k6), .val (.ref cc), .unset, .unset, .unset] [(.ref cc), (.ref sx), (.ref sx)])) rfl (by rw [hml]; rfl) (lenOf own_pd24 rfl) rfl (by show 2 * 0 + _ ≤ _; exact Nat.le_of_eq rfl) (hb hby at_136) (by decide) (by decide)
    obtain ⟨rfl, N489, K489, EE, FC, t, kb, gt, gt2, gt3, FV, VT⟩ := hQ489
    have fr489 := Fr.app fr482 N489
    have od489 := od485.keep K489 (allS g_sx all0)
    have sz489 := Nat.le_trans sz485 K489.1
    refine own_stE (st489) ?_
    clear st489 X485 e485
    show OFinE p e below _ (T489.setTop (mkF m 139 #[.val (.int p1), .val (.int p2), .val (.int p3), .val (.int p4), .val (.int p5), .val (.int k5), .val (.int k6), .val (.ref cc), .unset, .unset, .unset] [(.ref sx)]))
    exact own_pS hw ⟨hx, hZ, hby, hml, hown, hret, hlk, hnm⟩ X489 rfl p1 p2 p3 p4 p5 k5 k6 cc sx dc [nar .char k5] z fm n0 sz489 fr489 ⟨EE, FC, t, kb, _, _, FV, VT, StrChars.Road.codOf (cs := [nar .char k5]) (n := 1) rfl (fun c hc => (hn.2.2.2.2 c hc).2)⟩ hn S_c hz S_f rf od489 S_dc A_dc (by decide) (by decide)
  · refine own_stE (fun _ kS => XS.icmpYes X0.here hx rfl (pc0 := 24) (pc' := 40) rfl (hb hby at_24) rfl (feq e1).2 (by decide) (by decide) kS) ?_
    show OFinE p e below _ (T0.setTop (mkF m 40 #[.val (.int p1), .val (.int p2), .val (.int p3), .val (.int p4), .val (.int p5), .val (.int k5), .val (.int k6), .unset, .unset, .unset, .unset] []))
    refine own_stE (fun _ kS => XS.iload X0.here hx rfl (hb hby at_40) rfl kS) ?_
    show OFinE p e below _ (T0.setTop (mkF m 42 #[.val (.int p1), .val (.int p2), .val (.int p3), .val (.int p4), .val (.int p5), .val (.int k5), .val (.int k6), .unset, .unset, .unset, .unset] [(.int k6)]))
    refine own_stE (fun _ kS => XS.iconst X0.here hx rfl (hb hby at_42) kS) ?_
    show OFinE p e below _ (T0.setTop (mkF m 43 #[.val (.int p1), .val (.int p2), .val (.int p3), .val (.int p4), .val (.int p5), .val (.int k5), .val (.int k6), .unset, .unset, .unset, .unset] [(.int (2 : Int32)), (.int k6)]))
    by_cases e2 : k6 = (2 : Int32)
    · refine own_stE (fun _ kS => XS.icmpNo X0.here hx rfl (hb hby at_43) rfl (teq e2).2 kS) ?_
      show OFinE p e below _ (T0.setTop (mkF m 46 #[.val (.int p1), .val (.int p2), .val (.int p3), .val (.int p4), .val (.int p5), .val (.int k5), .val (.int k6), .unset, .unset, .unset, .unset] []))
      refine own_stE (fun _ kS => XS.iconst X0.here hx rfl (hb hby at_46) kS) ?_
      show OFinE p e below _ (T0.setTop (mkF m 47 #[.val (.int p1), .val (.int p2), .val (.int p3), .val (.int p4), .val (.int p5), .val (.int k5), .val (.int k6), .unset, .unset, .unset, .unset] [(.int (2 : Int32))]))
      obtain ⟨T490, h490, k490, X490, e490, E490, A490, st490⟩ := newP X0 hx hZ (own_w hw 1 rfl) e0 (g := (mkF m 47 #[.val (.int p1), .val (.int p2), .val (.int p3), .val (.int p4), .val (.int p5), .val (.int k5), .val (.int k6), .unset, .unset, .unset, .unset] [(.int (2 : Int32))])) rfl (hb hby at_47) rfl (by decide) (cap := 2) (by decide) (by decide) (by decide) (by decide)
      obtain ⟨cc, g490⟩ : ∃ z, z = h0.size := ⟨_, rfl⟩
      rw [← g490] at A490 st490
      have g_cc : n0 ≤ cc := Nat.le_trans Z0 (Nat.le_of_eq g490.symm)
      have od490 := O.ext E490
      have f491 : Arv Z h490 cc k490 .char (2 : Int32) [(.int (0 : Int32)), (.int (0 : Int32))] (.int (0 : Int32)) := (Arv.new A490 (by decide)).pad (pad_rep [] (.int (0 : Int32)) 2)
      have sz490 : n0 ≤ h490.size := Nat.le_trans Z0 E490.1
      refine own_stE (st490) ?_
      clear st490 X0 e0 E490 g490
      show OFinE p e below _ (T490.setTop (mkF m 49 #[.val (.int p1), .val (.int p2), .val (.int p3), .val (.int p4), .val (.int p5), .val (.int k5), .val (.int k6), .unset, .unset, .unset, .unset] [(.ref cc)]))
      refine own_stE (fun _ kS => XS.dup X490.here hx rfl (hb hby at_49) rfl rfl kS) ?_
      show OFinE p e below _ (T490.setTop (mkF m 50 #[.val (.int p1), .val (.int p2), .val (.int p3), .val (.int p4), .val (.int p5), .val (.int k5), .val (.int k6), .unset, .unset, .unset, .unset] [(.ref cc), (.ref cc)]))
      refine own_stE (fun _ kS => XS.iconst X490.here hx rfl (hb hby at_50) kS) ?_
      show OFinE p e below _ (T490.setTop (mkF m 51 #[.val (.int p1), .val (.int p2), .val (.int p3), .val (.int p4), .val (.int p5), .val (.int k5), .val (.int k6), .unset, .unset, .unset, .unset] [(.int (0 : Int32)), (.ref cc), (.ref cc)]))
      refine own_stE (fun _ kS => XS.iload X490.here hx rfl (hb hby at_51) rfl kS) ?_
      show OFinE p e below _ (T490.setTop (mkF m 53 #[.val (.int p1), .val (.int p2), .val (.int p3), .val (.int p4), .val (.int p5), .val (.int k5), .val (.int k6), .unset, .unset, .unset, .unset] [(.int k5), (.int (0 : Int32)), (.ref cc), (.ref cc)]))
      obtain ⟨cl492, Ar492, q492, S492, N492, H492, G492⟩ := id f491
      have hin492 : ¬ ((0 : Int32) < 0 ∨ cl492.slots.size ≤ ((0 : Int32)).toNatClampNeg) := inb_of S492 ⟨by decide, by decide⟩
      obtain ⟨T492, h492, X492, e492, W492, st492⟩ := stC X490 hx hZ e490 Ar492 (j := (0 : Int32)) hin492 (g := (mkF m 53 #[.val (.int p1), .val (.int p2), .val (.int p3), .val (.int p4), .val (.int p5), .val (.int k5), .val (.int k6), .unset, .unset, .unset, .unset] [(.int k5), (.int (0 : Int32)), (.ref cc), (.ref cc)])) rfl rfl (hb hby at_53)
      have f493 := Arv.set Ar492 q492 S492 N492 H492 G492 (fits_nar_char _) W492 0 rfl (Nat.le_of_ble_eq_true rfl)
      have od492 := od490.wr W492 g_cc
      clear od490
      have sz492 : n0 ≤ h492.size := by rw [W492.size]; exact sz490
      clear sz490
      have fr492 := Fr.snoc X492 N0 g_cc
      clear N0
      refine own_stE (st492) ?_
      clear st492 X490 e490 W492 Ar492 q492 S492 N492 H492 G492 hin492 f491
      show OFinE p e below _ (T492.setTop (mkF m 54 #[.val (.int p1), .val (.int p2), .val (.int p3), .val (.int p4), .val (.int p5), .val (.int k5), .val (.int k6), .unset, .unset, .unset, .unset] [(.ref cc)]))
      refine own_stE (fun _ kS => XS.dup X492.here hx rfl (hb hby at_54) rfl rfl kS) ?_
      show OFinE p e below _ (T492.setTop (mkF m 55 #[.val (.int p1), .val (.int p2), .val (.int p3), .val (.int p4), .val (.int p5), .val (.int k5), .val (.int k6), .unset, .unset, .unset, .unset] [(.ref cc), (.ref cc)]))
      refine own_stE (fun _ kS => XS.iconst X492.here hx rfl (hb hby at_55) kS) ?_
      show OFinE p e below _ (T492.setTop (mkF m 56 #[.val (.int p1), .val (.int p2), .val (.int p3), .val (.int p4), .val (.int p5), .val (.int k5), .val (.int k6), .unset, .unset, .unset, .unset] [(.int (1 : Int32)), (.ref cc), (.ref cc)]))
      refine own_stE (fun _ kS => XS.iloadN X492.here hx rfl (hb hby at_56) rfl kS) ?_
      show OFinE p e below _ (T492.setTop (mkF m 57 #[.val (.int p1), .val (.int p2), .val (.int p3), .val (.int p4), .val (.int p5), .val (.int k5), .val (.int k6), .unset, .unset, .unset, .unset] [(.int p2), (.int (1 : Int32)), (.ref cc), (.ref cc)]))
      obtain ⟨v495, T495, L495, X495, hQ495, st495⟩ := own_static X492 hx hZ (y := (⟨"com/example/unify_trace/unifytrace/program/TypeBasePinLaw", "rest", "(I)C"⟩ : MethodName)) (rm := ⟨0, 0, 0, 0⟩) (W := 3) (argsL := [(.int p2)]) (rest := [(.int (1 : Int32)), (.ref cc), (.ref cc)]) hown (own_w hw 301 rfl) (own_w hw 302 rfl) (own_w hw 303 rfl) (own_w hw 304 rfl) (rmRe l Z a0 hw p2 h492) e492 (g := (mkF m 57 #[.val (.int p1), .val (.int p2), .val (.int p3), .val (.int p4), .val (.int p5), .val (.int k5), .val (.int k6), .unset, .unset, .unset, .unset] [(.int p2), (.int (1 : Int32)), (.ref cc), (.ref cc)])) rfl (by rw [hml]; rfl) (lenOf own_pd1 rfl) rfl (by show 2 * 0 + _ ≤ _; exact Nat.le_of_eq rfl) (hb hby at_57) (by decide) (by decide) (by decide) (by decide)
      obtain ⟨r1, rfl, ok1, e495, rfl⟩ := hQ495
      rw [List.append_nil] at X495
      refine own_stE (st495) ?_
      clear st495 X492 e492
      show OFinE p e below _ (T495.setTop (mkF m 60 #[.val (.int p1), .val (.int p2), .val (.int p3), .val (.int p4), .val (.int p5), .val (.int k5), .val (.int k6), .unset, .unset, .unset, .unset] [(.int r1), (.int (1 : Int32)), (.ref cc), (.ref cc)]))
      obtain ⟨cl496, Ar496, q496, S496, N496, H496, G496⟩ := id f493
      have hin496 : ¬ ((1 : Int32) < 0 ∨ cl496.slots.size ≤ ((1 : Int32)).toNatClampNeg) := inb_of S496 ⟨by decide, by decide⟩
      obtain ⟨T496, h496, X496, e496, W496, st496⟩ := stC X495 hx hZ e495 Ar496 (j := (1 : Int32)) hin496 (g := (mkF m 60 #[.val (.int p1), .val (.int p2), .val (.int p3), .val (.int p4), .val (.int p5), .val (.int k5), .val (.int k6), .unset, .unset, .unset, .unset] [(.int r1), (.int (1 : Int32)), (.ref cc), (.ref cc)])) rfl rfl (hb hby at_60)
      have f497 := Arv.set Ar496 q496 S496 N496 H496 G496 (fits_nar_char _) W496 1 rfl (Nat.le_of_ble_eq_true rfl)
      have od496 := od492.wr W496 g_cc
      clear od492
      have sz496 : n0 ≤ h496.size := by rw [W496.size]; exact sz492
      clear sz492
      have fr496 := Fr.snoc X496 fr492 g_cc
      clear fr492
      refine own_stE (st496) ?_
      clear st496 X495 e495 W496 Ar496 q496 S496 N496 H496 G496 hin496 f493
      show OFinE p e below _ (T496.setTop (mkF m 61 #[.val (.int p1), .val (.int p2), .val (.int p3), .val (.int p4), .val (.int p5), .val (.int k5), .val (.int k6), .unset, .unset, .unset, .unset] [(.ref cc)]))
      refine own_stE (fun _ kS => XS.astore X496.here hx rfl (hb hby at_61) rfl rfl (l' := #[.val (.int p1), .val (.int p2), .val (.int p3), .val (.int p4), .val (.int p5), .val (.int k5), .val (.int k6), .val (.ref cc), .unset, .unset, .unset]) rfl kS) ?_
      show OFinE p e below _ (T496.setTop (mkF m 63 #[.val (.int p1), .val (.int p2), .val (.int p3), .val (.int p4), .val (.int p5), .val (.int k5), .val (.int k6), .val (.ref cc), .unset, .unset, .unset] []))
      refine own_stE (fun _ kS => XS.goto X496.here hx rfl (pc0 := 63) (pc' := 130) rfl (hb hby at_63) (by decide) (by decide) kS) ?_
      show OFinE p e below _ (T496.setTop (mkF m 130 #[.val (.int p1), .val (.int p2), .val (.int p3), .val (.int p4), .val (.int p5), .val (.int k5), .val (.int k6), .val (.ref cc), .unset, .unset, .unset] []))
      obtain ⟨T499, h499, X499, e499, E499, A499, D499, -, st499⟩ := newO X496 hx hZ hown (own_w hw 2 rfl) (own_w hw 3 rfl) (own_w hw 4 rfl) e496 (g := (mkF m 130 #[.val (.int p1), .val (.int p2), .val (.int p3), .val (.int p4), .val (.int p5), .val (.int k5), .val (.int k6), .val (.ref cc), .unset, .unset, .unset] [])) rfl (hb hby at_130) (by decide) (by decide)
      obtain ⟨sx, g499⟩ : ∃ z, z = h496.size := ⟨_, rfl⟩
      rw [← g499] at A499 D499 st499
      have ne_cc_sx : cc ≠ sx := Nat.ne_of_lt (Nat.lt_of_lt_of_le f497.lt (Nat.le_of_eq g499.symm))
      have g_sx : n0 ≤ sx := Nat.le_trans sz496 (Nat.le_of_eq g499.symm)
      have od499 := od496.ext E499
      clear od496
      have f500 := f497.ext E499
      clear f497
      have f501 : Fld Z h499 sx "java/lang/String" "coder" "B" (.int (0 : Int32)) := D499 (Or.inr (own_w hw 28 rfl)) (ty := .byte) (by decide)
      have f502 : Fld Z h499 sx "java/lang/String" "value" "[B" .null := D499 (Or.inr (own_w hw 30 rfl)) (ty := (.array .byte)) (by decide)
      have sz499 : n0 ≤ h499.size := Nat.le_trans sz496 E499.1
      clear sz496
      refine own_stE (st499) ?_
      clear st499 X496 e496 E499 D499 g499
      show OFinE p e below _ (T499.setTop (mkF m 133 #[.val (.int p1), .val (.int p2), .val (.int p3), .val (.int p4), .val (.int p5), .val (.int k5), .val (.int k6), .val (.ref cc), .unset, .unset, .unset] [(.ref sx)]))
      refine own_stE (fun _ kS => XS.dup X499.here hx rfl (hb hby at_133) rfl rfl kS) ?_
      show OFinE p e below _ (T499.setTop (mkF m 134 #[.val (.int p1), .val (.int p2), .val (.int p3), .val (.int p4), .val (.int p5), .val (.int k5), .val (.int k6), .val (.ref cc), .unset, .unset, .unset] [(.ref sx), (.ref sx)]))
      refine own_stE (fun _ kS => XS.aload X499.here hx rfl (hb hby at_134) rfl rfl kS) ?_
      show OFinE p e below _ (T499.setTop (mkF m 136 #[.val (.int p1), .val (.int p2), .val (.int p3), .val (.int p4), .val (.int p5), .val (.int k5), .val (.int k6), .val (.ref cc), .unset, .unset, .unset] [(.ref cc), (.ref sx), (.ref sx)]))
      have hws : ∀ d ∈ StrChars.Road.words, d.before a0 Z = true := fun d hd => hw d ((by decide +kernel : ∀ d ∈ StrChars.Road.words, d ∈ tables_1) d hd)
      have hnn : own_name [k5, r1] := own_nameC hc (by simp) (by intro b hb; simp only [List.mem_cons, List.not_mem_nil, or_false] at hb; rcases hb with rfl <;> assumption)
      have hcs : ([nar .char k5, nar .char r1] : List Int32) = [k5, r1] := by rw [own_ncE ⟨by omega, by omega⟩, own_ncE ok1.2]
      have hn : own_name [nar .char k5, nar .char r1] := by rw [hcs]; exact hnn
      obtain ⟨v503, T503, L503, X503, hQ503, st503⟩ := own_initB (StrChars.Road.QV Z sx (2 : Int32) (([nar .char k5, nar .char r1] : List Int32).map (fun c => c.toInt8.toInt32)) h499 n0) 1 2 X499 hx hZ (y := (⟨"java/lang/String", "<init>", "([C)V"⟩ : MethodName)) (W := 1) (a := sx) (argsL := [(.ref cc)]) (rest := [(.ref sx)]) rfl hown (own_w hw 5 rfl) (own_w hw 6 rfl) (own_w hw 7 rfl) (StrChars.Road.backV (R := room_1) (W := 1) hZ hws (kI := 4) (own_w hw 3 rfl) (cs := [nar .char k5, nar .char r1]) (bs := ([nar .char k5, nar .char r1] : List Int32).map (fun c => c.toInt8.toInt32)) (n := 2) (n0 := n0) g_sx sz499 A499 f502 f501 f500 (Sta.ext od499.2 S_c) hz rfl rfl (by decide) (by decide) hn.2.2.2.2 rfl (by decide) (by decide)) e499 (g := (mkF m 136 #[.val (.int p1), .val (.int p2), .val (.int p3), .val (.int p4), .val (.int p5), .val (.int k5), .val (.int k6), .val (.ref cc), .unset, .unset, .unset] [(.ref cc), (.ref sx), (.ref sx)])) rfl (by rw [hml]; rfl) (lenOf own_pd24 rfl) rfl (by show 2 * 0 + _ ≤ _; exact Nat.le_of_eq rfl) (hb hby at_136) (by decide) (by decide)
      obtain ⟨rfl, N503, K503, EE, FC, t, kb, gt, gt2, gt3, FV, VT⟩ := hQ503
      have fr503 := Fr.app fr496 N503
      have od503 := od499.keep K503 (allS g_sx all0)
      have sz503 := Nat.le_trans sz499 K503.1
      refine own_stE (st503) ?_
      clear st503 X499 e499
      show OFinE p e below _ (T503.setTop (mkF m 139 #[.val (.int p1), .val (.int p2), .val (.int p3), .val (.int p4), .val (.int p5), .val (.int k5), .val (.int k6), .val (.ref cc), .unset, .unset, .unset] [(.ref sx)]))
      exact own_pS hw ⟨hx, hZ, hby, hml, hown, hret, hlk, hnm⟩ X503 rfl p1 p2 p3 p4 p5 k5 k6 cc sx dc [nar .char k5, nar .char r1] z fm n0 sz503 fr503 ⟨EE, FC, t, kb, _, _, FV, VT, StrChars.Road.codOf (cs := [nar .char k5, nar .char r1]) (n := 2) rfl (fun c hc => (hn.2.2.2.2 c hc).2)⟩ hn S_c hz S_f rf od503 S_dc A_dc (by decide) (by decide)
    · refine own_stE (fun _ kS => XS.icmpYes X0.here hx rfl (pc0 := 43) (pc' := 66) rfl (hb hby at_43) rfl (feq e2).2 (by decide) (by decide) kS) ?_
      show OFinE p e below _ (T0.setTop (mkF m 66 #[.val (.int p1), .val (.int p2), .val (.int p3), .val (.int p4), .val (.int p5), .val (.int k5), .val (.int k6), .unset, .unset, .unset, .unset] []))
      refine own_stE (fun _ kS => XS.iload X0.here hx rfl (hb hby at_66) rfl kS) ?_
      show OFinE p e below _ (T0.setTop (mkF m 68 #[.val (.int p1), .val (.int p2), .val (.int p3), .val (.int p4), .val (.int p5), .val (.int k5), .val (.int k6), .unset, .unset, .unset, .unset] [(.int k6)]))
      refine own_stE (fun _ kS => XS.iconst X0.here hx rfl (hb hby at_68) kS) ?_
      show OFinE p e below _ (T0.setTop (mkF m 69 #[.val (.int p1), .val (.int p2), .val (.int p3), .val (.int p4), .val (.int p5), .val (.int k5), .val (.int k6), .unset, .unset, .unset, .unset] [(.int (3 : Int32)), (.int k6)]))
      by_cases e3 : k6 = (3 : Int32)
      · refine own_stE (fun _ kS => XS.icmpNo X0.here hx rfl (hb hby at_69) rfl (teq e3).2 kS) ?_
        show OFinE p e below _ (T0.setTop (mkF m 72 #[.val (.int p1), .val (.int p2), .val (.int p3), .val (.int p4), .val (.int p5), .val (.int k5), .val (.int k6), .unset, .unset, .unset, .unset] []))
        refine own_stE (fun _ kS => XS.iconst X0.here hx rfl (hb hby at_72) kS) ?_
        show OFinE p e below _ (T0.setTop (mkF m 73 #[.val (.int p1), .val (.int p2), .val (.int p3), .val (.int p4), .val (.int p5), .val (.int k5), .val (.int k6), .unset, .unset, .unset, .unset] [(.int (3 : Int32))]))
        obtain ⟨T504, h504, k504, X504, e504, E504, A504, st504⟩ := newP X0 hx hZ (own_w hw 1 rfl) e0 (g := (mkF m 73 #[.val (.int p1), .val (.int p2), .val (.int p3), .val (.int p4), .val (.int p5), .val (.int k5), .val (.int k6), .unset, .unset, .unset, .unset] [(.int (3 : Int32))])) rfl (hb hby at_73) rfl (by decide) (cap := 3) (by decide) (by decide) (by decide) (by decide)
        obtain ⟨cc, g504⟩ : ∃ z, z = h0.size := ⟨_, rfl⟩
        rw [← g504] at A504 st504
        have g_cc : n0 ≤ cc := Nat.le_trans Z0 (Nat.le_of_eq g504.symm)
        have od504 := O.ext E504
        have f505 : Arv Z h504 cc k504 .char (3 : Int32) [(.int (0 : Int32)), (.int (0 : Int32)), (.int (0 : Int32))] (.int (0 : Int32)) := (Arv.new A504 (by decide)).pad (pad_rep [] (.int (0 : Int32)) 3)
        have sz504 : n0 ≤ h504.size := Nat.le_trans Z0 E504.1
        refine own_stE (st504) ?_
        clear st504 X0 e0 E504 g504
        show OFinE p e below _ (T504.setTop (mkF m 75 #[.val (.int p1), .val (.int p2), .val (.int p3), .val (.int p4), .val (.int p5), .val (.int k5), .val (.int k6), .unset, .unset, .unset, .unset] [(.ref cc)]))
        refine own_stE (fun _ kS => XS.dup X504.here hx rfl (hb hby at_75) rfl rfl kS) ?_
        show OFinE p e below _ (T504.setTop (mkF m 76 #[.val (.int p1), .val (.int p2), .val (.int p3), .val (.int p4), .val (.int p5), .val (.int k5), .val (.int k6), .unset, .unset, .unset, .unset] [(.ref cc), (.ref cc)]))
        refine own_stE (fun _ kS => XS.iconst X504.here hx rfl (hb hby at_76) kS) ?_
        show OFinE p e below _ (T504.setTop (mkF m 77 #[.val (.int p1), .val (.int p2), .val (.int p3), .val (.int p4), .val (.int p5), .val (.int k5), .val (.int k6), .unset, .unset, .unset, .unset] [(.int (0 : Int32)), (.ref cc), (.ref cc)]))
        refine own_stE (fun _ kS => XS.iload X504.here hx rfl (hb hby at_77) rfl kS) ?_
        show OFinE p e below _ (T504.setTop (mkF m 79 #[.val (.int p1), .val (.int p2), .val (.int p3), .val (.int p4), .val (.int p5), .val (.int k5), .val (.int k6), .unset, .unset, .unset, .unset] [(.int k5), (.int (0 : Int32)), (.ref cc), (.ref cc)]))
        obtain ⟨cl506, Ar506, q506, S506, N506, H506, G506⟩ := id f505
        have hin506 : ¬ ((0 : Int32) < 0 ∨ cl506.slots.size ≤ ((0 : Int32)).toNatClampNeg) := inb_of S506 ⟨by decide, by decide⟩
        obtain ⟨T506, h506, X506, e506, W506, st506⟩ := stC X504 hx hZ e504 Ar506 (j := (0 : Int32)) hin506 (g := (mkF m 79 #[.val (.int p1), .val (.int p2), .val (.int p3), .val (.int p4), .val (.int p5), .val (.int k5), .val (.int k6), .unset, .unset, .unset, .unset] [(.int k5), (.int (0 : Int32)), (.ref cc), (.ref cc)])) rfl rfl (hb hby at_79)
        have f507 := Arv.set Ar506 q506 S506 N506 H506 G506 (fits_nar_char _) W506 0 rfl (Nat.le_of_ble_eq_true rfl)
        have od506 := od504.wr W506 g_cc
        clear od504
        have sz506 : n0 ≤ h506.size := by rw [W506.size]; exact sz504
        clear sz504
        have fr506 := Fr.snoc X506 N0 g_cc
        clear N0
        refine own_stE (st506) ?_
        clear st506 X504 e504 W506 Ar506 q506 S506 N506 H506 G506 hin506 f505
        show OFinE p e below _ (T506.setTop (mkF m 80 #[.val (.int p1), .val (.int p2), .val (.int p3), .val (.int p4), .val (.int p5), .val (.int k5), .val (.int k6), .unset, .unset, .unset, .unset] [(.ref cc)]))
        refine own_stE (fun _ kS => XS.dup X506.here hx rfl (hb hby at_80) rfl rfl kS) ?_
        show OFinE p e below _ (T506.setTop (mkF m 81 #[.val (.int p1), .val (.int p2), .val (.int p3), .val (.int p4), .val (.int p5), .val (.int k5), .val (.int k6), .unset, .unset, .unset, .unset] [(.ref cc), (.ref cc)]))
        refine own_stE (fun _ kS => XS.iconst X506.here hx rfl (hb hby at_81) kS) ?_
        show OFinE p e below _ (T506.setTop (mkF m 82 #[.val (.int p1), .val (.int p2), .val (.int p3), .val (.int p4), .val (.int p5), .val (.int k5), .val (.int k6), .unset, .unset, .unset, .unset] [(.int (1 : Int32)), (.ref cc), (.ref cc)]))
        refine own_stE (fun _ kS => XS.iloadN X506.here hx rfl (hb hby at_82) rfl kS) ?_
        show OFinE p e below _ (T506.setTop (mkF m 83 #[.val (.int p1), .val (.int p2), .val (.int p3), .val (.int p4), .val (.int p5), .val (.int k5), .val (.int k6), .unset, .unset, .unset, .unset] [(.int p2), (.int (1 : Int32)), (.ref cc), (.ref cc)]))
        obtain ⟨v509, T509, L509, X509, hQ509, st509⟩ := own_static X506 hx hZ (y := (⟨"com/example/unify_trace/unifytrace/program/TypeBasePinLaw", "rest", "(I)C"⟩ : MethodName)) (rm := ⟨0, 0, 0, 0⟩) (W := 3) (argsL := [(.int p2)]) (rest := [(.int (1 : Int32)), (.ref cc), (.ref cc)]) hown (own_w hw 301 rfl) (own_w hw 302 rfl) (own_w hw 303 rfl) (own_w hw 304 rfl) (rmRe l Z a0 hw p2 h506) e506 (g := (mkF m 83 #[.val (.int p1), .val (.int p2), .val (.int p3), .val (.int p4), .val (.int p5), .val (.int k5), .val (.int k6), .unset, .unset, .unset, .unset] [(.int p2), (.int (1 : Int32)), (.ref cc), (.ref cc)])) rfl (by rw [hml]; rfl) (lenOf own_pd1 rfl) rfl (by show 2 * 0 + _ ≤ _; exact Nat.le_of_eq rfl) (hb hby at_83) (by decide) (by decide) (by decide) (by decide)
        obtain ⟨r1, rfl, ok1, e509, rfl⟩ := hQ509
        rw [List.append_nil] at X509
        refine own_stE (st509) ?_
        clear st509 X506 e506
        show OFinE p e below _ (T509.setTop (mkF m 86 #[.val (.int p1), .val (.int p2), .val (.int p3), .val (.int p4), .val (.int p5), .val (.int k5), .val (.int k6), .unset, .unset, .unset, .unset] [(.int r1), (.int (1 : Int32)), (.ref cc), (.ref cc)]))
        obtain ⟨cl510, Ar510, q510, S510, N510, H510, G510⟩ := id f507
        have hin510 : ¬ ((1 : Int32) < 0 ∨ cl510.slots.size ≤ ((1 : Int32)).toNatClampNeg) := inb_of S510 ⟨by decide, by decide⟩
        obtain ⟨T510, h510, X510, e510, W510, st510⟩ := stC X509 hx hZ e509 Ar510 (j := (1 : Int32)) hin510 (g := (mkF m 86 #[.val (.int p1), .val (.int p2), .val (.int p3), .val (.int p4), .val (.int p5), .val (.int k5), .val (.int k6), .unset, .unset, .unset, .unset] [(.int r1), (.int (1 : Int32)), (.ref cc), (.ref cc)])) rfl rfl (hb hby at_86)
        have f511 := Arv.set Ar510 q510 S510 N510 H510 G510 (fits_nar_char _) W510 1 rfl (Nat.le_of_ble_eq_true rfl)
        have od510 := od506.wr W510 g_cc
        clear od506
        have sz510 : n0 ≤ h510.size := by rw [W510.size]; exact sz506
        clear sz506
        have fr510 := Fr.snoc X510 fr506 g_cc
        clear fr506
        refine own_stE (st510) ?_
        clear st510 X509 e509 W510 Ar510 q510 S510 N510 H510 G510 hin510 f507
        show OFinE p e below _ (T510.setTop (mkF m 87 #[.val (.int p1), .val (.int p2), .val (.int p3), .val (.int p4), .val (.int p5), .val (.int k5), .val (.int k6), .unset, .unset, .unset, .unset] [(.ref cc)]))
        refine own_stE (fun _ kS => XS.dup X510.here hx rfl (hb hby at_87) rfl rfl kS) ?_
        show OFinE p e below _ (T510.setTop (mkF m 88 #[.val (.int p1), .val (.int p2), .val (.int p3), .val (.int p4), .val (.int p5), .val (.int k5), .val (.int k6), .unset, .unset, .unset, .unset] [(.ref cc), (.ref cc)]))
        refine own_stE (fun _ kS => XS.iconst X510.here hx rfl (hb hby at_88) kS) ?_
        show OFinE p e below _ (T510.setTop (mkF m 89 #[.val (.int p1), .val (.int p2), .val (.int p3), .val (.int p4), .val (.int p5), .val (.int k5), .val (.int k6), .unset, .unset, .unset, .unset] [(.int (2 : Int32)), (.ref cc), (.ref cc)]))
        refine own_stE (fun _ kS => XS.iloadN X510.here hx rfl (hb hby at_89) rfl kS) ?_
        show OFinE p e below _ (T510.setTop (mkF m 90 #[.val (.int p1), .val (.int p2), .val (.int p3), .val (.int p4), .val (.int p5), .val (.int k5), .val (.int k6), .unset, .unset, .unset, .unset] [(.int p3), (.int (2 : Int32)), (.ref cc), (.ref cc)]))
        obtain ⟨v513, T513, L513, X513, hQ513, st513⟩ := own_static X510 hx hZ (y := (⟨"com/example/unify_trace/unifytrace/program/TypeBasePinLaw", "rest", "(I)C"⟩ : MethodName)) (rm := ⟨0, 0, 0, 0⟩) (W := 3) (argsL := [(.int p3)]) (rest := [(.int (2 : Int32)), (.ref cc), (.ref cc)]) hown (own_w hw 301 rfl) (own_w hw 302 rfl) (own_w hw 303 rfl) (own_w hw 304 rfl) (rmRe l Z a0 hw p3 h510) e510 (g := (mkF m 90 #[.val (.int p1), .val (.int p2), .val (.int p3), .val (.int p4), .val (.int p5), .val (.int k5), .val (.int k6), .unset, .unset, .unset, .unset] [(.int p3), (.int (2 : Int32)), (.ref cc), (.ref cc)])) rfl (by rw [hml]; rfl) (lenOf own_pd1 rfl) rfl (by show 2 * 0 + _ ≤ _; exact Nat.le_of_eq rfl) (hb hby at_90) (by decide) (by decide) (by decide) (by decide)
        obtain ⟨r2, rfl, ok2, e513, rfl⟩ := hQ513
        rw [List.append_nil] at X513
        refine own_stE (st513) ?_
        clear st513 X510 e510
        show OFinE p e below _ (T513.setTop (mkF m 93 #[.val (.int p1), .val (.int p2), .val (.int p3), .val (.int p4), .val (.int p5), .val (.int k5), .val (.int k6), .unset, .unset, .unset, .unset] [(.int r2), (.int (2 : Int32)), (.ref cc), (.ref cc)]))
        obtain ⟨cl514, Ar514, q514, S514, N514, H514, G514⟩ := id f511
        have hin514 : ¬ ((2 : Int32) < 0 ∨ cl514.slots.size ≤ ((2 : Int32)).toNatClampNeg) := inb_of S514 ⟨by decide, by decide⟩
        obtain ⟨T514, h514, X514, e514, W514, st514⟩ := stC X513 hx hZ e513 Ar514 (j := (2 : Int32)) hin514 (g := (mkF m 93 #[.val (.int p1), .val (.int p2), .val (.int p3), .val (.int p4), .val (.int p5), .val (.int k5), .val (.int k6), .unset, .unset, .unset, .unset] [(.int r2), (.int (2 : Int32)), (.ref cc), (.ref cc)])) rfl rfl (hb hby at_93)
        have f515 := Arv.set Ar514 q514 S514 N514 H514 G514 (fits_nar_char _) W514 2 rfl (Nat.le_of_ble_eq_true rfl)
        have od514 := od510.wr W514 g_cc
        clear od510
        have sz514 : n0 ≤ h514.size := by rw [W514.size]; exact sz510
        clear sz510
        have fr514 := Fr.snoc X514 fr510 g_cc
        clear fr510
        refine own_stE (st514) ?_
        clear st514 X513 e513 W514 Ar514 q514 S514 N514 H514 G514 hin514 f511
        show OFinE p e below _ (T514.setTop (mkF m 94 #[.val (.int p1), .val (.int p2), .val (.int p3), .val (.int p4), .val (.int p5), .val (.int k5), .val (.int k6), .unset, .unset, .unset, .unset] [(.ref cc)]))
        refine own_stE (fun _ kS => XS.astore X514.here hx rfl (hb hby at_94) rfl rfl (l' := #[.val (.int p1), .val (.int p2), .val (.int p3), .val (.int p4), .val (.int p5), .val (.int k5), .val (.int k6), .val (.ref cc), .unset, .unset, .unset]) rfl kS) ?_
        show OFinE p e below _ (T514.setTop (mkF m 96 #[.val (.int p1), .val (.int p2), .val (.int p3), .val (.int p4), .val (.int p5), .val (.int k5), .val (.int k6), .val (.ref cc), .unset, .unset, .unset] []))
        refine own_stE (fun _ kS => XS.goto X514.here hx rfl (pc0 := 96) (pc' := 130) rfl (hb hby at_96) (by decide) (by decide) kS) ?_
        show OFinE p e below _ (T514.setTop (mkF m 130 #[.val (.int p1), .val (.int p2), .val (.int p3), .val (.int p4), .val (.int p5), .val (.int k5), .val (.int k6), .val (.ref cc), .unset, .unset, .unset] []))
        obtain ⟨T517, h517, X517, e517, E517, A517, D517, -, st517⟩ := newO X514 hx hZ hown (own_w hw 2 rfl) (own_w hw 3 rfl) (own_w hw 4 rfl) e514 (g := (mkF m 130 #[.val (.int p1), .val (.int p2), .val (.int p3), .val (.int p4), .val (.int p5), .val (.int k5), .val (.int k6), .val (.ref cc), .unset, .unset, .unset] [])) rfl (hb hby at_130) (by decide) (by decide)
        obtain ⟨sx, g517⟩ : ∃ z, z = h514.size := ⟨_, rfl⟩
        rw [← g517] at A517 D517 st517
        have ne_cc_sx : cc ≠ sx := Nat.ne_of_lt (Nat.lt_of_lt_of_le f515.lt (Nat.le_of_eq g517.symm))
        have g_sx : n0 ≤ sx := Nat.le_trans sz514 (Nat.le_of_eq g517.symm)
        have od517 := od514.ext E517
        clear od514
        have f518 := f515.ext E517
        clear f515
        have f519 : Fld Z h517 sx "java/lang/String" "coder" "B" (.int (0 : Int32)) := D517 (Or.inr (own_w hw 28 rfl)) (ty := .byte) (by decide)
        have f520 : Fld Z h517 sx "java/lang/String" "value" "[B" .null := D517 (Or.inr (own_w hw 30 rfl)) (ty := (.array .byte)) (by decide)
        have sz517 : n0 ≤ h517.size := Nat.le_trans sz514 E517.1
        clear sz514
        refine own_stE (st517) ?_
        clear st517 X514 e514 E517 D517 g517
        show OFinE p e below _ (T517.setTop (mkF m 133 #[.val (.int p1), .val (.int p2), .val (.int p3), .val (.int p4), .val (.int p5), .val (.int k5), .val (.int k6), .val (.ref cc), .unset, .unset, .unset] [(.ref sx)]))
        refine own_stE (fun _ kS => XS.dup X517.here hx rfl (hb hby at_133) rfl rfl kS) ?_
        show OFinE p e below _ (T517.setTop (mkF m 134 #[.val (.int p1), .val (.int p2), .val (.int p3), .val (.int p4), .val (.int p5), .val (.int k5), .val (.int k6), .val (.ref cc), .unset, .unset, .unset] [(.ref sx), (.ref sx)]))
        refine own_stE (fun _ kS => XS.aload X517.here hx rfl (hb hby at_134) rfl rfl kS) ?_
        show OFinE p e below _ (T517.setTop (mkF m 136 #[.val (.int p1), .val (.int p2), .val (.int p3), .val (.int p4), .val (.int p5), .val (.int k5), .val (.int k6), .val (.ref cc), .unset, .unset, .unset] [(.ref cc), (.ref sx), (.ref sx)]))
        have hws : ∀ d ∈ StrChars.Road.words, d.before a0 Z = true := fun d hd => hw d ((by decide +kernel : ∀ d ∈ StrChars.Road.words, d ∈ tables_1) d hd)
        have hnn : own_name [k5, r1, r2] := own_nameC hc (by simp) (by intro b hb; simp only [List.mem_cons, List.not_mem_nil, or_false] at hb; rcases hb with rfl | rfl <;> assumption)
        have hcs : ([nar .char k5, nar .char r1, nar .char r2] : List Int32) = [k5, r1, r2] := by rw [own_ncE ⟨by omega, by omega⟩, own_ncE ok1.2, own_ncE ok2.2]
        have hn : own_name [nar .char k5, nar .char r1, nar .char r2] := by rw [hcs]; exact hnn
        obtain ⟨v521, T521, L521, X521, hQ521, st521⟩ := own_initB (StrChars.Road.QV Z sx (3 : Int32) (([nar .char k5, nar .char r1, nar .char r2] : List Int32).map (fun c => c.toInt8.toInt32)) h517 n0) 1 3 X517 hx hZ (y := (⟨"java/lang/String", "<init>", "([C)V"⟩ : MethodName)) (W := 1) (a := sx) (argsL := [(.ref cc)]) (rest := [(.ref sx)]) rfl hown (own_w hw 5 rfl) (own_w hw 6 rfl) (own_w hw 7 rfl) (StrChars.Road.backV (R := room_1) (W := 1) hZ hws (kI := 4) (own_w hw 3 rfl) (cs := [nar .char k5, nar .char r1, nar .char r2]) (bs := ([nar .char k5, nar .char r1, nar .char r2] : List Int32).map (fun c => c.toInt8.toInt32)) (n := 3) (n0 := n0) g_sx sz517 A517 f520 f519 f518 (Sta.ext od517.2 S_c) hz rfl rfl (by decide) (by decide) hn.2.2.2.2 rfl (by decide) (by decide)) e517 (g := (mkF m 136 #[.val (.int p1), .val (.int p2), .val (.int p3), .val (.int p4), .val (.int p5), .val (.int k5), .val (.int k6), .val (.ref cc), .unset, .unset, .unset] [(.ref cc), (.ref sx), (.ref sx)])) rfl (by rw [hml]; rfl) (lenOf own_pd24 rfl) rfl (by show 2 * 0 + _ ≤ _; exact Nat.le_of_eq rfl) (hb hby at_136) (by decide) (by decide)
        obtain ⟨rfl, N521, K521, EE, FC, t, kb, gt, gt2, gt3, FV, VT⟩ := hQ521
        have fr521 := Fr.app fr514 N521
        have od521 := od517.keep K521 (allS g_sx all0)
        have sz521 := Nat.le_trans sz517 K521.1
        refine own_stE (st521) ?_
        clear st521 X517 e517
        show OFinE p e below _ (T521.setTop (mkF m 139 #[.val (.int p1), .val (.int p2), .val (.int p3), .val (.int p4), .val (.int p5), .val (.int k5), .val (.int k6), .val (.ref cc), .unset, .unset, .unset] [(.ref sx)]))
        exact own_pS hw ⟨hx, hZ, hby, hml, hown, hret, hlk, hnm⟩ X521 rfl p1 p2 p3 p4 p5 k5 k6 cc sx dc [nar .char k5, nar .char r1, nar .char r2] z fm n0 sz521 fr521 ⟨EE, FC, t, kb, _, _, FV, VT, StrChars.Road.codOf (cs := [nar .char k5, nar .char r1, nar .char r2]) (n := 3) rfl (fun c hc => (hn.2.2.2.2 c hc).2)⟩ hn S_c hz S_f rf od521 S_dc A_dc (by decide) (by decide)
      · refine own_stE (fun _ kS => XS.icmpYes X0.here hx rfl (pc0 := 69) (pc' := 99) rfl (hb hby at_69) rfl (feq e3).2 (by decide) (by decide) kS) ?_
        show OFinE p e below _ (T0.setTop (mkF m 99 #[.val (.int p1), .val (.int p2), .val (.int p3), .val (.int p4), .val (.int p5), .val (.int k5), .val (.int k6), .unset, .unset, .unset, .unset] []))
        refine own_stE (fun _ kS => XS.iconst X0.here hx rfl (hb hby at_99) kS) ?_
        show OFinE p e below _ (T0.setTop (mkF m 100 #[.val (.int p1), .val (.int p2), .val (.int p3), .val (.int p4), .val (.int p5), .val (.int k5), .val (.int k6), .unset, .unset, .unset, .unset] [(.int (4 : Int32))]))
        obtain ⟨T522, h522, k522, X522, e522, E522, A522, st522⟩ := newP X0 hx hZ (own_w hw 1 rfl) e0 (g := (mkF m 100 #[.val (.int p1), .val (.int p2), .val (.int p3), .val (.int p4), .val (.int p5), .val (.int k5), .val (.int k6), .unset, .unset, .unset, .unset] [(.int (4 : Int32))])) rfl (hb hby at_100) rfl (by decide) (cap := 4) (by decide) (by decide) (by decide) (by decide)
        obtain ⟨cc, g522⟩ : ∃ z, z = h0.size := ⟨_, rfl⟩
        rw [← g522] at A522 st522
        have g_cc : n0 ≤ cc := Nat.le_trans Z0 (Nat.le_of_eq g522.symm)
        have od522 := O.ext E522
        have f523 : Arv Z h522 cc k522 .char (4 : Int32) [(.int (0 : Int32)), (.int (0 : Int32)), (.int (0 : Int32)), (.int (0 : Int32))] (.int (0 : Int32)) := (Arv.new A522 (by decide)).pad (pad_rep [] (.int (0 : Int32)) 4)
        have sz522 : n0 ≤ h522.size := Nat.le_trans Z0 E522.1
        refine own_stE (st522) ?_
        clear st522 X0 e0 E522 g522
        show OFinE p e below _ (T522.setTop (mkF m 102 #[.val (.int p1), .val (.int p2), .val (.int p3), .val (.int p4), .val (.int p5), .val (.int k5), .val (.int k6), .unset, .unset, .unset, .unset] [(.ref cc)]))
        refine own_stE (fun _ kS => XS.dup X522.here hx rfl (hb hby at_102) rfl rfl kS) ?_
        show OFinE p e below _ (T522.setTop (mkF m 103 #[.val (.int p1), .val (.int p2), .val (.int p3), .val (.int p4), .val (.int p5), .val (.int k5), .val (.int k6), .unset, .unset, .unset, .unset] [(.ref cc), (.ref cc)]))
        refine own_stE (fun _ kS => XS.iconst X522.here hx rfl (hb hby at_103) kS) ?_
        show OFinE p e below _ (T522.setTop (mkF m 104 #[.val (.int p1), .val (.int p2), .val (.int p3), .val (.int p4), .val (.int p5), .val (.int k5), .val (.int k6), .unset, .unset, .unset, .unset] [(.int (0 : Int32)), (.ref cc), (.ref cc)]))
        refine own_stE (fun _ kS => XS.iload X522.here hx rfl (hb hby at_104) rfl kS) ?_
        show OFinE p e below _ (T522.setTop (mkF m 106 #[.val (.int p1), .val (.int p2), .val (.int p3), .val (.int p4), .val (.int p5), .val (.int k5), .val (.int k6), .unset, .unset, .unset, .unset] [(.int k5), (.int (0 : Int32)), (.ref cc), (.ref cc)]))
        obtain ⟨cl524, Ar524, q524, S524, N524, H524, G524⟩ := id f523
        have hin524 : ¬ ((0 : Int32) < 0 ∨ cl524.slots.size ≤ ((0 : Int32)).toNatClampNeg) := inb_of S524 ⟨by decide, by decide⟩
        obtain ⟨T524, h524, X524, e524, W524, st524⟩ := stC X522 hx hZ e522 Ar524 (j := (0 : Int32)) hin524 (g := (mkF m 106 #[.val (.int p1), .val (.int p2), .val (.int p3), .val (.int p4), .val (.int p5), .val (.int k5), .val (.int k6), .unset, .unset, .unset, .unset] [(.int k5), (.int (0 : Int32)), (.ref cc), (.ref cc)])) rfl rfl (hb hby at_106)
        have f525 := Arv.set Ar524 q524 S524 N524 H524 G524 (fits_nar_char _) W524 0 rfl (Nat.le_of_ble_eq_true rfl)
        have od524 := od522.wr W524 g_cc
        clear od522
        have sz524 : n0 ≤ h524.size := by rw [W524.size]; exact sz522
        clear sz522
        have fr524 := Fr.snoc X524 N0 g_cc
        clear N0
        refine own_stE (st524) ?_
        clear st524 X522 e522 W524 Ar524 q524 S524 N524 H524 G524 hin524 f523
        show OFinE p e below _ (T524.setTop (mkF m 107 #[.val (.int p1), .val (.int p2), .val (.int p3), .val (.int p4), .val (.int p5), .val (.int k5), .val (.int k6), .unset, .unset, .unset, .unset] [(.ref cc)]))
        refine own_stE (fun _ kS => XS.dup X524.here hx rfl (hb hby at_107) rfl rfl kS) ?_
        show OFinE p e below _ (T524.setTop (mkF m 108 #[.val (.int p1), .val (.int p2), .val (.int p3), .val (.int p4), .val (.int p5), .val (.int k5), .val (.int k6), .unset, .unset, .unset, .unset] [(.ref cc), (.ref cc)]))
        refine own_stE (fun _ kS => XS.iconst X524.here hx rfl (hb hby at_108) kS) ?_
        show OFinE p e below _ (T524.setTop (mkF m 109 #[.val (.int p1), .val (.int p2), .val (.int p3), .val (.int p4), .val (.int p5), .val (.int k5), .val (.int k6), .unset, .unset, .unset, .unset] [(.int (1 : Int32)), (.ref cc), (.ref cc)]))
        refine own_stE (fun _ kS => XS.iloadN X524.here hx rfl (hb hby at_109) rfl kS) ?_
        show OFinE p e below _ (T524.setTop (mkF m 110 #[.val (.int p1), .val (.int p2), .val (.int p3), .val (.int p4), .val (.int p5), .val (.int k5), .val (.int k6), .unset, .unset, .unset, .unset] [(.int p2), (.int (1 : Int32)), (.ref cc), (.ref cc)]))
        obtain ⟨v527, T527, L527, X527, hQ527, st527⟩ := own_static X524 hx hZ (y := (⟨"com/example/unify_trace/unifytrace/program/TypeBasePinLaw", "rest", "(I)C"⟩ : MethodName)) (rm := ⟨0, 0, 0, 0⟩) (W := 3) (argsL := [(.int p2)]) (rest := [(.int (1 : Int32)), (.ref cc), (.ref cc)]) hown (own_w hw 301 rfl) (own_w hw 302 rfl) (own_w hw 303 rfl) (own_w hw 304 rfl) (rmRe l Z a0 hw p2 h524) e524 (g := (mkF m 110 #[.val (.int p1), .val (.int p2), .val (.int p3), .val (.int p4), .val (.int p5), .val (.int k5), .val (.int k6), .unset, .unset, .unset, .unset] [(.int p2), (.int (1 : Int32)), (.ref cc), (.ref cc)])) rfl (by rw [hml]; rfl) (lenOf own_pd1 rfl) rfl (by show 2 * 0 + _ ≤ _; exact Nat.le_of_eq rfl) (hb hby at_110) (by decide) (by decide) (by decide) (by decide)
        obtain ⟨r1, rfl, ok1, e527, rfl⟩ := hQ527
        rw [List.append_nil] at X527
        refine own_stE (st527) ?_
        clear st527 X524 e524
        show OFinE p e below _ (T527.setTop (mkF m 113 #[.val (.int p1), .val (.int p2), .val (.int p3), .val (.int p4), .val (.int p5), .val (.int k5), .val (.int k6), .unset, .unset, .unset, .unset] [(.int r1), (.int (1 : Int32)), (.ref cc), (.ref cc)]))
        obtain ⟨cl528, Ar528, q528, S528, N528, H528, G528⟩ := id f525
        have hin528 : ¬ ((1 : Int32) < 0 ∨ cl528.slots.size ≤ ((1 : Int32)).toNatClampNeg) := inb_of S528 ⟨by decide, by decide⟩
        obtain ⟨T528, h528, X528, e528, W528, st528⟩ := stC X527 hx hZ e527 Ar528 (j := (1 : Int32)) hin528 (g := (mkF m 113 #[.val (.int p1), .val (.int p2), .val (.int p3), .val (.int p4), .val (.int p5), .val (.int k5), .val (.int k6), .unset, .unset, .unset, .unset] [(.int r1), (.int (1 : Int32)), (.ref cc), (.ref cc)])) rfl rfl (hb hby at_113)
        have f529 := Arv.set Ar528 q528 S528 N528 H528 G528 (fits_nar_char _) W528 1 rfl (Nat.le_of_ble_eq_true rfl)
        have od528 := od524.wr W528 g_cc
        clear od524
        have sz528 : n0 ≤ h528.size := by rw [W528.size]; exact sz524
        clear sz524
        have fr528 := Fr.snoc X528 fr524 g_cc
        clear fr524
        refine own_stE (st528) ?_
        clear st528 X527 e527 W528 Ar528 q528 S528 N528 H528 G528 hin528 f525
        show OFinE p e below _ (T528.setTop (mkF m 114 #[.val (.int p1), .val (.int p2), .val (.int p3), .val (.int p4), .val (.int p5), .val (.int k5), .val (.int k6), .unset, .unset, .unset, .unset] [(.ref cc)]))
        refine own_stE (fun _ kS => XS.dup X528.here hx rfl (hb hby at_114) rfl rfl kS) ?_
        show OFinE p e below _ (T528.setTop (mkF m 115 #[.val (.int p1), .val (.int p2), .val (.int p3), .val (.int p4), .val (.int p5), .val (.int k5), .val (.int k6), .unset, .unset, .unset, .unset] [(.ref cc), (.ref cc)]))
        refine own_stE (fun _ kS => XS.iconst X528.here hx rfl (hb hby at_115) kS) ?_
        show OFinE p e below _ (T528.setTop (mkF m 116 #[.val (.int p1), .val (.int p2), .val (.int p3), .val (.int p4), .val (.int p5), .val (.int k5), .val (.int k6), .unset, .unset, .unset, .unset] [(.int (2 : Int32)), (.ref cc), (.ref cc)]))
        refine own_stE (fun _ kS => XS.iloadN X528.here hx rfl (hb hby at_116) rfl kS) ?_
        show OFinE p e below _ (T528.setTop (mkF m 117 #[.val (.int p1), .val (.int p2), .val (.int p3), .val (.int p4), .val (.int p5), .val (.int k5), .val (.int k6), .unset, .unset, .unset, .unset] [(.int p3), (.int (2 : Int32)), (.ref cc), (.ref cc)]))
        obtain ⟨v531, T531, L531, X531, hQ531, st531⟩ := own_static X528 hx hZ (y := (⟨"com/example/unify_trace/unifytrace/program/TypeBasePinLaw", "rest", "(I)C"⟩ : MethodName)) (rm := ⟨0, 0, 0, 0⟩) (W := 3) (argsL := [(.int p3)]) (rest := [(.int (2 : Int32)), (.ref cc), (.ref cc)]) hown (own_w hw 301 rfl) (own_w hw 302 rfl) (own_w hw 303 rfl) (own_w hw 304 rfl) (rmRe l Z a0 hw p3 h528) e528 (g := (mkF m 117 #[.val (.int p1), .val (.int p2), .val (.int p3), .val (.int p4), .val (.int p5), .val (.int k5), .val (.int k6), .unset, .unset, .unset, .unset] [(.int p3), (.int (2 : Int32)), (.ref cc), (.ref cc)])) rfl (by rw [hml]; rfl) (lenOf own_pd1 rfl) rfl (by show 2 * 0 + _ ≤ _; exact Nat.le_of_eq rfl) (hb hby at_117) (by decide) (by decide) (by decide) (by decide)
        obtain ⟨r2, rfl, ok2, e531, rfl⟩ := hQ531
        rw [List.append_nil] at X531
        refine own_stE (st531) ?_
        clear st531 X528 e528
        show OFinE p e below _ (T531.setTop (mkF m 120 #[.val (.int p1), .val (.int p2), .val (.int p3), .val (.int p4), .val (.int p5), .val (.int k5), .val (.int k6), .unset, .unset, .unset, .unset] [(.int r2), (.int (2 : Int32)), (.ref cc), (.ref cc)]))
        obtain ⟨cl532, Ar532, q532, S532, N532, H532, G532⟩ := id f529
        have hin532 : ¬ ((2 : Int32) < 0 ∨ cl532.slots.size ≤ ((2 : Int32)).toNatClampNeg) := inb_of S532 ⟨by decide, by decide⟩
        obtain ⟨T532, h532, X532, e532, W532, st532⟩ := stC X531 hx hZ e531 Ar532 (j := (2 : Int32)) hin532 (g := (mkF m 120 #[.val (.int p1), .val (.int p2), .val (.int p3), .val (.int p4), .val (.int p5), .val (.int k5), .val (.int k6), .unset, .unset, .unset, .unset] [(.int r2), (.int (2 : Int32)), (.ref cc), (.ref cc)])) rfl rfl (hb hby at_120)
        have f533 := Arv.set Ar532 q532 S532 N532 H532 G532 (fits_nar_char _) W532 2 rfl (Nat.le_of_ble_eq_true rfl)
        have od532 := od528.wr W532 g_cc
        clear od528
        have sz532 : n0 ≤ h532.size := by rw [W532.size]; exact sz528
        clear sz528
        have fr532 := Fr.snoc X532 fr528 g_cc
        clear fr528
        refine own_stE (st532) ?_
        clear st532 X531 e531 W532 Ar532 q532 S532 N532 H532 G532 hin532 f529
        show OFinE p e below _ (T532.setTop (mkF m 121 #[.val (.int p1), .val (.int p2), .val (.int p3), .val (.int p4), .val (.int p5), .val (.int k5), .val (.int k6), .unset, .unset, .unset, .unset] [(.ref cc)]))
        refine own_stE (fun _ kS => XS.dup X532.here hx rfl (hb hby at_121) rfl rfl kS) ?_
        show OFinE p e below _ (T532.setTop (mkF m 122 #[.val (.int p1), .val (.int p2), .val (.int p3), .val (.int p4), .val (.int p5), .val (.int k5), .val (.int k6), .unset, .unset, .unset, .unset] [(.ref cc), (.ref cc)]))
        refine own_stE (fun _ kS => XS.iconst X532.here hx rfl (hb hby at_122) kS) ?_
        show OFinE p e below _ (T532.setTop (mkF m 123 #[.val (.int p1), .val (.int p2), .val (.int p3), .val (.int p4), .val (.int p5), .val (.int k5), .val (.int k6), .unset, .unset, .unset, .unset] [(.int (3 : Int32)), (.ref cc), (.ref cc)]))
        refine own_stE (fun _ kS => XS.iloadN X532.here hx rfl (hb hby at_123) rfl kS) ?_
        show OFinE p e below _ (T532.setTop (mkF m 124 #[.val (.int p1), .val (.int p2), .val (.int p3), .val (.int p4), .val (.int p5), .val (.int k5), .val (.int k6), .unset, .unset, .unset, .unset] [(.int p4), (.int (3 : Int32)), (.ref cc), (.ref cc)]))
        obtain ⟨v535, T535, L535, X535, hQ535, st535⟩ := own_static X532 hx hZ (y := (⟨"com/example/unify_trace/unifytrace/program/TypeBasePinLaw", "rest", "(I)C"⟩ : MethodName)) (rm := ⟨0, 0, 0, 0⟩) (W := 3) (argsL := [(.int p4)]) (rest := [(.int (3 : Int32)), (.ref cc), (.ref cc)]) hown (own_w hw 301 rfl) (own_w hw 302 rfl) (own_w hw 303 rfl) (own_w hw 304 rfl) (rmRe l Z a0 hw p4 h532) e532 (g := (mkF m 124 #[.val (.int p1), .val (.int p2), .val (.int p3), .val (.int p4), .val (.int p5), .val (.int k5), .val (.int k6), .unset, .unset, .unset, .unset] [(.int p4), (.int (3 : Int32)), (.ref cc), (.ref cc)])) rfl (by rw [hml]; rfl) (lenOf own_pd1 rfl) rfl (by show 2 * 0 + _ ≤ _; exact Nat.le_of_eq rfl) (hb hby at_124) (by decide) (by decide) (by decide) (by decide)
        obtain ⟨r3, rfl, ok3, e535, rfl⟩ := hQ535
        rw [List.append_nil] at X535
        refine own_stE (st535) ?_
        clear st535 X532 e532
        show OFinE p e below _ (T535.setTop (mkF m 127 #[.val (.int p1), .val (.int p2), .val (.int p3), .val (.int p4), .val (.int p5), .val (.int k5), .val (.int k6), .unset, .unset, .unset, .unset] [(.int r3), (.int (3 : Int32)), (.ref cc), (.ref cc)]))
        obtain ⟨cl536, Ar536, q536, S536, N536, H536, G536⟩ := id f533
        have hin536 : ¬ ((3 : Int32) < 0 ∨ cl536.slots.size ≤ ((3 : Int32)).toNatClampNeg) := inb_of S536 ⟨by decide, by decide⟩
        obtain ⟨T536, h536, X536, e536, W536, st536⟩ := stC X535 hx hZ e535 Ar536 (j := (3 : Int32)) hin536 (g := (mkF m 127 #[.val (.int p1), .val (.int p2), .val (.int p3), .val (.int p4), .val (.int p5), .val (.int k5), .val (.int k6), .unset, .unset, .unset, .unset] [(.int r3), (.int (3 : Int32)), (.ref cc), (.ref cc)])) rfl rfl (hb hby at_127)
        have f537 := Arv.set Ar536 q536 S536 N536 H536 G536 (fits_nar_char _) W536 3 rfl (Nat.le_of_ble_eq_true rfl)
        have od536 := od532.wr W536 g_cc
        clear od532
        have sz536 : n0 ≤ h536.size := by rw [W536.size]; exact sz532
        clear sz532
        have fr536 := Fr.snoc X536 fr532 g_cc
        clear fr532
        refine own_stE (st536) ?_
        clear st536 X535 e535 W536 Ar536 q536 S536 N536 H536 G536 hin536 f533
        show OFinE p e below _ (T536.setTop (mkF m 128 #[.val (.int p1), .val (.int p2), .val (.int p3), .val (.int p4), .val (.int p5), .val (.int k5), .val (.int k6), .unset, .unset, .unset, .unset] [(.ref cc)]))
        refine own_stE (fun _ kS => XS.astore X536.here hx rfl (hb hby at_128) rfl rfl (l' := #[.val (.int p1), .val (.int p2), .val (.int p3), .val (.int p4), .val (.int p5), .val (.int k5), .val (.int k6), .val (.ref cc), .unset, .unset, .unset]) rfl kS) ?_
        show OFinE p e below _ (T536.setTop (mkF m 130 #[.val (.int p1), .val (.int p2), .val (.int p3), .val (.int p4), .val (.int p5), .val (.int k5), .val (.int k6), .val (.ref cc), .unset, .unset, .unset] []))
        obtain ⟨T539, h539, X539, e539, E539, A539, D539, -, st539⟩ := newO X536 hx hZ hown (own_w hw 2 rfl) (own_w hw 3 rfl) (own_w hw 4 rfl) e536 (g := (mkF m 130 #[.val (.int p1), .val (.int p2), .val (.int p3), .val (.int p4), .val (.int p5), .val (.int k5), .val (.int k6), .val (.ref cc), .unset, .unset, .unset] [])) rfl (hb hby at_130) (by decide) (by decide)
        obtain ⟨sx, g539⟩ : ∃ z, z = h536.size := ⟨_, rfl⟩
        rw [← g539] at A539 D539 st539
        have ne_cc_sx : cc ≠ sx := Nat.ne_of_lt (Nat.lt_of_lt_of_le f537.lt (Nat.le_of_eq g539.symm))
        have g_sx : n0 ≤ sx := Nat.le_trans sz536 (Nat.le_of_eq g539.symm)
        have od539 := od536.ext E539
        clear od536
        have f540 := f537.ext E539
        clear f537
        have f541 : Fld Z h539 sx "java/lang/String" "coder" "B" (.int (0 : Int32)) := D539 (Or.inr (own_w hw 28 rfl)) (ty := .byte) (by decide)
        have f542 : Fld Z h539 sx "java/lang/String" "value" "[B" .null := D539 (Or.inr (own_w hw 30 rfl)) (ty := (.array .byte)) (by decide)
        have sz539 : n0 ≤ h539.size := Nat.le_trans sz536 E539.1
        clear sz536
        refine own_stE (st539) ?_
        clear st539 X536 e536 E539 D539 g539
        show OFinE p e below _ (T539.setTop (mkF m 133 #[.val (.int p1), .val (.int p2), .val (.int p3), .val (.int p4), .val (.int p5), .val (.int k5), .val (.int k6), .val (.ref cc), .unset, .unset, .unset] [(.ref sx)]))
        refine own_stE (fun _ kS => XS.dup X539.here hx rfl (hb hby at_133) rfl rfl kS) ?_
        show OFinE p e below _ (T539.setTop (mkF m 134 #[.val (.int p1), .val (.int p2), .val (.int p3), .val (.int p4), .val (.int p5), .val (.int k5), .val (.int k6), .val (.ref cc), .unset, .unset, .unset] [(.ref sx), (.ref sx)]))
        refine own_stE (fun _ kS => XS.aload X539.here hx rfl (hb hby at_134) rfl rfl kS) ?_
        show OFinE p e below _ (T539.setTop (mkF m 136 #[.val (.int p1), .val (.int p2), .val (.int p3), .val (.int p4), .val (.int p5), .val (.int k5), .val (.int k6), .val (.ref cc), .unset, .unset, .unset] [(.ref cc), (.ref sx), (.ref sx)]))
        have hws : ∀ d ∈ StrChars.Road.words, d.before a0 Z = true := fun d hd => hw d ((by decide +kernel : ∀ d ∈ StrChars.Road.words, d ∈ tables_1) d hd)
        have hnn : own_name [k5, r1, r2, r3] := own_nameC hc (by simp) (by intro b hb; simp only [List.mem_cons, List.not_mem_nil, or_false] at hb; rcases hb with rfl | rfl | rfl <;> assumption)
        have hcs : ([nar .char k5, nar .char r1, nar .char r2, nar .char r3] : List Int32) = [k5, r1, r2, r3] := by rw [own_ncE ⟨by omega, by omega⟩, own_ncE ok1.2, own_ncE ok2.2, own_ncE ok3.2]
        have hn : own_name [nar .char k5, nar .char r1, nar .char r2, nar .char r3] := by rw [hcs]; exact hnn
        obtain ⟨v543, T543, L543, X543, hQ543, st543⟩ := own_initB (StrChars.Road.QV Z sx (4 : Int32) (([nar .char k5, nar .char r1, nar .char r2, nar .char r3] : List Int32).map (fun c => c.toInt8.toInt32)) h539 n0) 1 4 X539 hx hZ (y := (⟨"java/lang/String", "<init>", "([C)V"⟩ : MethodName)) (W := 1) (a := sx) (argsL := [(.ref cc)]) (rest := [(.ref sx)]) rfl hown (own_w hw 5 rfl) (own_w hw 6 rfl) (own_w hw 7 rfl) (StrChars.Road.backV (R := room_1) (W := 1) hZ hws (kI := 4) (own_w hw 3 rfl) (cs := [nar .char k5, nar .char r1, nar .char r2, nar .char r3]) (bs := ([nar .char k5, nar .char r1, nar .char r2, nar .char r3] : List Int32).map (fun c => c.toInt8.toInt32)) (n := 4) (n0 := n0) g_sx sz539 A539 f542 f541 f540 (Sta.ext od539.2 S_c) hz rfl rfl (by decide) (by decide) hn.2.2.2.2 rfl (by decide) (by decide)) e539 (g := (mkF m 136 #[.val (.int p1), .val (.int p2), .val (.int p3), .val (.int p4), .val (.int p5), .val (.int k5), .val (.int k6), .val (.ref cc), .unset, .unset, .unset] [(.ref cc), (.ref sx), (.ref sx)])) rfl (by rw [hml]; rfl) (lenOf own_pd24 rfl) rfl (by show 2 * 0 + _ ≤ _; exact Nat.le_of_eq rfl) (hb hby at_136) (by decide) (by decide)
        obtain ⟨rfl, N543, K543, EE, FC, t, kb, gt, gt2, gt3, FV, VT⟩ := hQ543
        have fr543 := Fr.app fr536 N543
        have od543 := od539.keep K543 (allS g_sx all0)
        have sz543 := Nat.le_trans sz539 K543.1
        refine own_stE (st543) ?_
        clear st543 X539 e539
        show OFinE p e below _ (T543.setTop (mkF m 139 #[.val (.int p1), .val (.int p2), .val (.int p3), .val (.int p4), .val (.int p5), .val (.int k5), .val (.int k6), .val (.ref cc), .unset, .unset, .unset] [(.ref sx)]))
        exact own_pS hw ⟨hx, hZ, hby, hml, hown, hret, hlk, hnm⟩ X543 rfl p1 p2 p3 p4 p5 k5 k6 cc sx dc [nar .char k5, nar .char r1, nar .char r2, nar .char r3] z fm n0 sz543 fr543 ⟨EE, FC, t, kb, _, _, FV, VT, StrChars.Road.codOf (cs := [nar .char k5, nar .char r1, nar .char r2, nar .char r3]) (n := 4) rfl (fun c hc => (hn.2.2.2.2 c hc).2)⟩ hn S_c hz S_f rf od543 S_dc A_dc (by decide) (by decide)
set_option maxRecDepth 65536 in
set_option maxHeartbeats 40000000 in
theorem comes_1 {Post : Tables → Env → Array Value → State → Outcome → State → Prop} (hpost : ∀ tb e args s v u, (limb_1_1.after args s (.returned v) u = true ∧ limb_1_2.after args s (.returned v) u = true ∧ True) → ReturnedEndW s (.returned v) u (Jvm.fieldLocs frame_1_writes args s ++ Jvm.arrayLocs frame_1_arrays args s ++ Jvm.staticLocs frame_1_statics s) 40 2304 → Post tb e args s (.returned v) u) :
    ArmFor flags0 classFile x code maxLocals ret World_1 tables_1 room_1 Calls_1 rest_1 Pre_1 Post := by
  intro l hfl _ _ p e ha hc hk s m args below hf hA hF happ hP
  obtain ⟨hcalls, hrest, hpre⟩ := hP
  obtain ⟨-, -, -, hnamed, -, -, -, hat⟩ := (Spec.applies_iff hf).mp happ
  obtain ⟨hg, hn⟩ := and_e (Cond.before_iff.mp (show (Jvm.Cond.and given_1 narrow_1).before args s = true from hpre))
  obtain ⟨gc, hg0⟩ := and_e hg
  obtain ⟨ga0, hg1⟩ := and_e hg0
  obtain ⟨ga1, hg2⟩ := and_e hg1
  obtain ⟨ga2, hg3⟩ := and_e hg2
  obtain ⟨ga3, hg4⟩ := and_e hg3
  obtain ⟨w0, w1, w2, w3, w4, rfl⟩ : ∃ w0 w1 w2 w3 w4 : Value, args = #[w0, w1, w2, w3, w4] := by
    have hs : args.size = 5 := by simpa [Cond.value, given_1] using gc
    obtain ⟨L⟩ := args
    match L, hs with
    | [w0, w1, w2, w3, w4], _ => exact ⟨w0, w1, w2, w3, w4, rfl⟩
  have hw := fun d (hd : d ∈ tables_1) => atoms_spec (ws := Jvm.Cond.code x code maxLocals ret :: tables_1) hat d (List.mem_cons_of_mem _ hd)
  have hfit : Fit s := fun {y c} hc i hi => by
    obtain ⟨ha, rfl⟩ := Array.getElem?_eq_some_iff.mp hc
    have q := List.all_eq_true.mp ((Array.all_eq_true_iff_forall_mem.mp hF) _ (Array.getElem_mem ha)) i (List.mem_range.mpr hi)
    simpa [Array.getElem?_eq_getElem hi] using q
  obtain ⟨i0, ei0⟩ := is_v ga0
  obtain rfl : w0 = (.int i0) := Option.some.inj ei0
  obtain ⟨i1, ei1⟩ := is_v ga1
  obtain rfl : w1 = (.int i1) := Option.some.inj ei1
  obtain ⟨i2, ei2⟩ := is_v ga2
  obtain rfl : w2 = (.int i2) := Option.some.inj ei2
  obtain ⟨i3, ei3⟩ := is_v ga3
  obtain rfl : w3 = (.int i3) := Option.some.inj ei3
  obtain ⟨i4, ei4⟩ := is_v hg4
  obtain rfl : w4 = (.int i4) := Option.some.inj ei4
  obtain ⟨hsets, hown0⟩ := atoms_of _ (rest_1_c_eq ▸ (show rest_1_c.before _ s = true from hrest))
  have hS := fun i {d} (q : jdkStatics_1[i]? = some d) => hsets d (List.mem_of_getElem? q)
  have n5 := not_v (Cond.before_iff.mp (hS 2 rfl))
  obtain ⟨zz, e10⟩ := is_v (Cond.before_iff.mp (hS 1 rfl))
  have S12 : Sta s s.heap "java/lang/String" "COMPACT_STRINGS" "Z" (.int zz) := Sta.start e10 (Or.inl (hS 0 rfl))
  obtain ⟨v13, e14, r15⟩ := isR_v (Cond.before_iff.mp (hS 8 rfl))
  have S16 : Sta s s.heap "jdk/internal/util/Preconditions" "SIOOBE_FORMATTER" "Ljava/util/function/BiFunction;" v13 := Sta.start e14 (Or.inl (hS 7 rfl))
  have c17 : ¬ (zz = (0 : Int32)) := gotF (Cond.eq_ints e10 (Term.int_eval (0))) n5
  obtain ⟨dc, ev_d, A_dc⟩ := own_zero (hS 15 rfl) (hS 17 rfl)
  have S_dc : Sta s s.heap "java/util/ArrayList" "DEFAULTCAPACITY_EMPTY_ELEMENTDATA" "[Ljava/lang/Object;" (.ref dc) := Sta.start ev_d (Or.inr ⟨own_w hw 59 rfl, hS 11 rfl⟩)
  obtain ⟨n, o, h1, h2, h3, _, L, rfl, ⟨rfl, N⟩, hq⟩ := rm0 l s _ hw i0 i1 i2 i3 i4 s.heap s.heap.size (Nat.le_refl _) dc zz v13 S12 c17 S16 r15 (Old.start s) S_dc A_dc tables_1 p e ha hc hk s m _ below hf ((Spec.applies_iff_loose hf).mp happ).1 ⟨rfl, State.Warmed39.refl s, rfl, trivial⟩ trivial
  refine ⟨n, _, h1, h2, h3, hpost _ _ _ _ _ _ ⟨Cond.after_iff.mpr rfl, Cond.after_iff.mpr (eq_i res_at (Term.int_eval (1)) rfl), trivial⟩ ⟨hq.1, hq.2.1, hq.2.2.1, (hq.2.2.2.sift fun y hy => Or.inr (N y hy)).mono (by decide) (by decide)⟩⟩
theorem main_1_1 : Claimed_1_1 := comes_1 fun _ _ _ _ _ _ h hF => ⟨h.1, hF⟩
theorem main_1_2 : Claimed_1_2 := comes_1 fun _ _ _ _ _ _ h hF => ⟨h.2.1, hF⟩
end Jvm.Pilot.@@N@@
namespace Jvm.Pilot.@@N@@
open Jvm Jvm.ClassFile Sem Op Lib Jvm.Free Jvm.Stand Jvm.Pilot.@@N@@.Jvm.D
/-! MADE BY PROGRAM (witnessworld.py) out of the Statement's table words and the real class files: 37 classes; the members and pool entries that the words name. The judged class is class 1, her method 2. -/
namespace start1
open Jvm.ClassFile
def u (s : String) : CpInfo := .utf8 (stringToUtf16 s)
/-- a pool by its gaps: so many unusable entries, then the entry; so many at the end -/
def gap : Nat → List CpInfo → List CpInfo
  | 0, r => r
  | n + 1, r => .unusable :: gap n r
def poolList (es : List (Nat × CpInfo)) (last : Nat) : List CpInfo := es.foldr (fun e r => gap e.1 (e.2 :: r)) (gap last [])
def pool (es : List (Nat × CpInfo)) (last : Nat) : Array CpInfo := ⟨poolList es last⟩
def fileOf (pool : Array CpInfo) (this : Nat) (attrs : Array Attribute := #[]) (ms : Array MethodInfo := #[]) (fl : Nat := 33) (sup : Nat := 0) (ifs : Array Nat := #[]) (fds : Array FieldInfo := #[]) : ClassFile where
  minorVersion := 0
  majorVersion := 65
  constantPool := pool
  accessFlags := fl
  thisClass := this
  superClass := sup
  interfaces := ifs
  fields := fds
  methods := ms
  attributes := attrs
def plain (name : String) (sup : Option ClassId) : Class where
  name := name
  kind := .ordinary
  loader := none
  accessFlags := 33
  super := sup
  interfaces := #[]
  cf := none
  fields := #[]
  methods := #[]
  instanceTypes := #[]
  staticTypes := #[]
  resolved := #[]
  callSites := []
  init := .initialized
  statics := none
  mirror := none

def pool0 : Array CpInfo := pool [(5, u "<init>"), (0, u "()V"), (1, .class_ 10), (1, u "java/lang/Object"), (85, u "clone"), (0, u "()Ljava/lang/Object;")] 26

def k0c0 : Code := { maxStack := 0, maxLocals := 1, code := object_method_1_code, exceptionTable := #[], attributes := #[] }
def k0m0 : Method := { name := "<init>", desc := "()V", sig := { parameters := [], returnType := none }, accessFlags := 1, code := some k0c0 }
def k0m1 : Method := { name := "clone", desc := "()Ljava/lang/Object;", sig := { parameters := [], returnType := some (.object "java/lang/Object") }, accessFlags := 260, code := none }
/-- java/lang/Object -/
def k0 : Class := { plain "java/lang/Object" none with
  accessFlags := 33
  interfaces := #[]
  cf := some (fileOf pool0 8 #[] #[{ accessFlags := 1, nameIndex := 5, descriptorIndex := 6, attributes := #[] }, { accessFlags := 260, nameIndex := 96, descriptorIndex := 97, attributes := #[] }] 33 0 #[] #[])
  fields := #[]
  methods := #[k0m0, k0m1]
  instanceTypes := #[]
  staticTypes := #[]
  resolved := Array.replicate 124 none
  statics := none }

def pool1 : Array CpInfo := pool [(2, .class_ 4), (1, u "java/lang/Object"), (0, u "<init>"), (0, u "()V"), (0, .integer 2147483647), (0, .methodref 9 10), (0, .class_ 11), (0, .nameAndType 12 13), (0, u "com/example/unify_trace/unifytrace/program/TypeBasePinLaw"), (0, u "rest"), (0, u "(I)C"), (0, .class_ 15), (0, u "java/lang/String"), (0, .methodref 14 17), (0, .nameAndType 5 18), (0, u "([C)V"), (0, .methodref 20 21), (0, .class_ 22), (0, .nameAndType 23 24), (0, u "com/example/unify_trace/unifytrace/program/Type"), (0, u "base"), (0, u "(Ljava/lang/String;)Lcom/example/unify_trace/unifytrace/program/Type;"), (0, .string 26), (0, u "V"), (0, .methodref 20 28), (0, .nameAndType 29 30), (0, u "term"), (0, u "(Ljava/lang/String;)Lcom/example/unify_trace/unifytrace/term/Term;"), (0, .class_ 32), (0, u "com/example/unify_trace/unifytrace/term/Compound"), (0, .methodref 34 35), (0, .class_ 36), (0, .nameAndType 37 38), (0, u "com/example/unify_trace/unifytrace/term/Term"), (0, u "name"), (0, u "()Ljava/lang/String;"), (0, .methodref 14 40), (0, .nameAndType 41 42), (0, u "equals"), (0, u "(Ljava/lang/Object;)Z"), (0, .methodref 34 44), (0, .nameAndType 45 46), (0, u "arity"), (0, u "()I"), (3, u "law"), (0, u "(IIIII)Z")] 4

def k1m0 : Method := { name := "<init>", desc := "()V", sig := { parameters := [], returnType := none }, accessFlags := 1, code := none }
def k1c1 : Code := { maxStack := 3, maxLocals := 2, code := method_2_code, exceptionTable := #[], attributes := #[] }
def k1m1 : Method := { name := "rest", desc := "(I)C", sig := { parameters := [.int], returnType := some .char }, accessFlags := 10, code := some k1c1 }
def k1c2 : Code := { maxStack := 4, maxLocals := 11, code := code, exceptionTable := #[], attributes := #[] }
def k1m2 : Method := { name := "law", desc := "(IIIII)Z", sig := { parameters := [.int, .int, .int, .int, .int], returnType := some .boolean }, accessFlags := 9, code := some k1c2 }
/-- com/example/unify_trace/unifytrace/program/TypeBasePinLaw -/
def k1 : Class := { plain "com/example/unify_trace/unifytrace/program/TypeBasePinLaw" (some 0) with
  accessFlags := 49
  interfaces := #[]
  cf := some (fileOf pool1 9 #[] #[{ accessFlags := 1, nameIndex := 5, descriptorIndex := 6, attributes := #[] }, { accessFlags := 10, nameIndex := 12, descriptorIndex := 13, attributes := #[] }, { accessFlags := 9, nameIndex := 50, descriptorIndex := 51, attributes := #[] }] 49 2 #[] #[])
  fields := #[]
  methods := #[k1m0, k1m1, k1m2]
  instanceTypes := #[]
  staticTypes := #[]
  resolved := Array.replicate 56 none
  statics := none }

def pool2 : Array CpInfo := pool [(1, .class_ 2), (0, u "java/io/Serializable"), (0, .class_ 4), (0, u "java/lang/Object")] 2

/-- java/io/Serializable -/
def k2 : Class := { plain "java/io/Serializable" (some 0) with
  accessFlags := 1537
  interfaces := #[]
  cf := some (fileOf pool2 1 #[] #[] 1537 3 #[] #[])
  fields := #[]
  methods := #[]
  instanceTypes := #[]
  staticTypes := #[]
  resolved := Array.replicate 7 none
  statics := none }

def pool3 : Array CpInfo := pool [(1, .class_ 2), (0, u "java/lang/Comparable"), (0, .class_ 4), (0, u "java/lang/Object")] 7

/-- java/lang/Comparable -/
def k3 : Class := { plain "java/lang/Comparable" (some 0) with
  accessFlags := 1537
  interfaces := #[]
  cf := some (fileOf pool3 1 #[] #[] 1537 3 #[] #[])
  fields := #[]
  methods := #[]
  instanceTypes := #[]
  staticTypes := #[]
  resolved := Array.replicate 12 none
  statics := none }

def pool4 : Array CpInfo := pool [(2, .class_ 4), (1, u "java/lang/CharSequence"), (42, .class_ 48), (0, u "java/lang/CharSequence$1CodePointIterator"), (10, .class_ 60), (0, u "java/lang/CharSequence$1CharIterator"), (5, .class_ 67), (0, u "java/lang/Object")] 63

/-- java/lang/CharSequence -/
def k4 : Class := { plain "java/lang/CharSequence" (some 0) with
  accessFlags := 1537
  interfaces := #[]
  cf := some (fileOf pool4 2 #[.nestMembers #[47, 59]] #[] 1537 66 #[] #[])
  fields := #[]
  methods := #[]
  instanceTypes := #[]
  staticTypes := #[]
  resolved := Array.replicate 131 none
  statics := none }

def pool5 : Array CpInfo := pool [(1, .class_ 2), (0, u "java/lang/constant/Constable"), (0, .class_ 4), (0, u "java/lang/Object")] 6

/-- java/lang/constant/Constable -/
def k5 : Class := { plain "java/lang/constant/Constable" (some 0) with
  accessFlags := 1537
  interfaces := #[]
  cf := some (fileOf pool5 1 #[] #[] 1537 3 #[] #[])
  fields := #[]
  methods := #[]
  instanceTypes := #[]
  staticTypes := #[]
  resolved := Array.replicate 11 none
  statics := none }

def pool6 : Array CpInfo := pool [(1, .class_ 2), (0, u "java/lang/constant/ConstantDesc"), (0, .class_ 4), (0, u "java/lang/Object")] 32

/-- java/lang/constant/ConstantDesc -/
def k6 : Class := { plain "java/lang/constant/ConstantDesc" (some 0) with
  accessFlags := 1537
  interfaces := #[]
  cf := some (fileOf pool6 1 #[] #[] 1537 3 #[] #[])
  fields := #[]
  methods := #[]
  instanceTypes := #[]
  staticTypes := #[]
  resolved := Array.replicate 37 none
  statics := none }

def pool7 : Array CpInfo := pool [(1, .methodref 2 3), (0, .class_ 4), (0, .nameAndType 5 6), (0, u "java/lang/Object"), (0, u "<init>"), (0, u "()V"), (2, .fieldref 10 11), (0, .class_ 12), (0, .nameAndType 13 14), (0, u "java/lang/String"), (0, u "value"), (0, u "[B"), (0, .fieldref 10 16), (0, .nameAndType 17 18), (0, u "coder"), (0, u "B"), (2, u "hash"), (0, u "I"), (2, u "hashIsZero"), (0, u "Z"), (0, .methodref 10 28), (0, .nameAndType 5 29), (0, u "([CIILjava/lang/Void;)V"), (8, .fieldref 10 39), (0, .nameAndType 40 26), (0, u "COMPACT_STRINGS"), (1, .class_ 44), (1, u "java/lang/StringUTF16"), (0, u "compress"), (1, .methodref 42 48), (0, .nameAndType 49 50), (0, u "coderFromArrayLen"), (0, u "([BI)B"), (56, .class_ 109), (1, u "java/lang/StringLatin1"), (32, u "()Z"), (34, .methodref 42 178), (0, .nameAndType 45 179), (0, u "([CII)[B"), (154, u "()I"), (0, .methodref 10 336), (0, .nameAndType 17 337), (0, u "()B"), (25, u "([BI)C"), (27, u "(II)V"), (35, u "(I)C"), (64, .methodref 10 493), (0, .nameAndType 494 142), (0, u "isLatin1"), (0, .methodref 107 496), (0, .nameAndType 497 363), (0, u "charAt"), (3, u "checkIndex"), (5, u "length"), (35, u "equals"), (29, u "(Ljava/lang/Object;)Z"), (1, .class_ 576), (0, u "java/lang/CharSequence"), (22, u "CASE_INSENSITIVE_ORDER"), (0, u "Ljava/util/Comparator;"), (91, u "isEmpty"), (317, u "([C)V"), (42, .fieldref 1054 1055), (0, .class_ 1056), (0, .nameAndType 1057 1058), (0, u "jdk/internal/util/Preconditions"), (0, u "SIOOBE_FORMATTER"), (0, u "Ljava/util/function/BiFunction;"), (0, .methodref 1054 1060), (0, .nameAndType 501 1061), (0, u "(IILjava/util/function/BiFunction;)I"), (39, u "serialPersistentFields"), (0, u "[Ljava/io/ObjectStreamField;"), (0, .class_ 1104), (0, u "java/lang/String$CaseInsensitiveComparator"), (1, .class_ 1107), (0, u "java/io/Serializable"), (0, .class_ 1109), (0, u "java/lang/Comparable"), (0, .class_ 1111), (0, u "java/lang/constant/Constable"), (0, .class_ 1113), (0, u "java/lang/constant/ConstantDesc"), (2, u "serialVersionUID"), (0, u "J"), (3, u "REPL"), (0, u "C"), (2, u "LATIN1"), (1, u "UTF16")] 323

def k7m0 : Method := { name := "<init>", desc := "()V", sig := { parameters := [], returnType := none }, accessFlags := 1, code := none }
def k7c1 : Code := { maxStack := 5, maxLocals := 2, code := jdk_42_method_3_code, exceptionTable := #[], attributes := #[] }
def k7m1 : Method := { name := "<init>", desc := "([C)V", sig := { parameters := [(.array .char)], returnType := none }, accessFlags := 1, code := some k7c1 }
def k7c2 : Code := { maxStack := 2, maxLocals := 1, code := jdk_42_method_54_code, exceptionTable := #[], attributes := #[] }
def k7m2 : Method := { name := "length", desc := "()I", sig := { parameters := [], returnType := some .int }, accessFlags := 1, code := some k7c2 }
def k7c3 : Code := { maxStack := 1, maxLocals := 1, code := jdk_42_method_55_code, exceptionTable := #[], attributes := #[] }
def k7m3 : Method := { name := "isEmpty", desc := "()Z", sig := { parameters := [], returnType := some .boolean }, accessFlags := 1, code := some k7c3 }
def k7c4 : Code := { maxStack := 2, maxLocals := 2, code := jdk_42_method_56_code, exceptionTable := #[], attributes := #[] }
def k7m4 : Method := { name := "charAt", desc := "(I)C", sig := { parameters := [.int], returnType := some .char }, accessFlags := 1, code := some k7c4 }
def k7c5 : Code := { maxStack := 2, maxLocals := 3, code := jdk_42_method_66_code, exceptionTable := #[], attributes := #[] }
def k7m5 : Method := { name := "equals", desc := "(Ljava/lang/Object;)Z", sig := { parameters := [(.object "java/lang/Object")], returnType := some .boolean }, accessFlags := 1, code := some k7c5 }
def k7c6 : Code := { maxStack := 4, maxLocals := 6, code := jdk_42_method_149_code, exceptionTable := #[], attributes := #[] }
def k7m6 : Method := { name := "<init>", desc := "([CIILjava/lang/Void;)V", sig := { parameters := [(.array .char), .int, .int, (.object "java/lang/Void")], returnType := none }, accessFlags := 2, code := some k7c6 }
def k7c7 : Code := { maxStack := 1, maxLocals := 1, code := jdk_42_method_152_code, exceptionTable := #[], attributes := #[] }
def k7m7 : Method := { name := "coder", desc := "()B", sig := { parameters := [], returnType := some .byte }, accessFlags := 0, code := some k7c7 }
def k7c8 : Code := { maxStack := 1, maxLocals := 1, code := jdk_42_method_154_code, exceptionTable := #[], attributes := #[] }
def k7m8 : Method := { name := "isLatin1", desc := "()Z", sig := { parameters := [], returnType := some .boolean }, accessFlags := 0, code := some k7c8 }
def k7c9 : Code := { maxStack := 3, maxLocals := 2, code := jdk_42_method_155_code, exceptionTable := #[], attributes := #[] }
def k7m9 : Method := { name := "checkIndex", desc := "(II)V", sig := { parameters := [.int, .int], returnType := none }, accessFlags := 8, code := some k7c9 }
/-- java/lang/String -/
def k7 : Class := { plain "java/lang/String" (some 0) with
  accessFlags := 49
  interfaces := #[2, 3, 4, 5, 6]
  cf := some (fileOf pool7 10 #[.nestMembers #[1103]] #[{ accessFlags := 1, nameIndex := 5, descriptorIndex := 6, attributes := #[] }, { accessFlags := 1, nameIndex := 5, descriptorIndex := 1010, attributes := #[] }, { accessFlags := 1, nameIndex := 507, descriptorIndex := 334, attributes := #[] }, { accessFlags := 1, nameIndex := 692, descriptorIndex := 142, attributes := #[] }, { accessFlags := 1, nameIndex := 497, descriptorIndex := 427, attributes := #[] }, { accessFlags := 1, nameIndex := 543, descriptorIndex := 573, attributes := #[] }, { accessFlags := 2, nameIndex := 5, descriptorIndex := 29, attributes := #[] }, { accessFlags := 0, nameIndex := 17, descriptorIndex := 337, attributes := #[] }, { accessFlags := 0, nameIndex := 494, descriptorIndex := 142, attributes := #[] }, { accessFlags := 8, nameIndex := 501, descriptorIndex := 391, attributes := #[] }] 49 2 #[1106, 1108, 575, 1110, 1112] #[{ accessFlags := 18, nameIndex := 13, descriptorIndex := 14, attributes := #[] }, { accessFlags := 18, nameIndex := 17, descriptorIndex := 18, attributes := #[] }, { accessFlags := 2, nameIndex := 21, descriptorIndex := 22, attributes := #[] }, { accessFlags := 2, nameIndex := 25, descriptorIndex := 26, attributes := #[] }, { accessFlags := 26, nameIndex := 1116, descriptorIndex := 1117, attributes := #[] }, { accessFlags := 24, nameIndex := 40, descriptorIndex := 26, attributes := #[] }, { accessFlags := 26, nameIndex := 1101, descriptorIndex := 1102, attributes := #[] }, { accessFlags := 26, nameIndex := 1121, descriptorIndex := 1122, attributes := #[] }, { accessFlags := 25, nameIndex := 599, descriptorIndex := 600, attributes := #[] }, { accessFlags := 24, nameIndex := 1125, descriptorIndex := 18, attributes := #[] }, { accessFlags := 24, nameIndex := 1127, descriptorIndex := 18, attributes := #[] }])
  fields := #[{ name := "value", type := (.array .byte), accessFlags := 18, slot := 0, constantValue := 0 }, { name := "coder", type := .byte, accessFlags := 18, slot := 1, constantValue := 0 }, { name := "hash", type := .int, accessFlags := 2, slot := 2, constantValue := 0 }, { name := "hashIsZero", type := .boolean, accessFlags := 2, slot := 3, constantValue := 0 }, { name := "serialVersionUID", type := .long, accessFlags := 26, slot := 0, constantValue := 0 }, { name := "COMPACT_STRINGS", type := .boolean, accessFlags := 24, slot := 1, constantValue := 0 }, { name := "serialPersistentFields", type := (.array (.object "java/io/ObjectStreamField")), accessFlags := 26, slot := 2, constantValue := 0 }, { name := "REPL", type := .char, accessFlags := 26, slot := 3, constantValue := 0 }, { name := "CASE_INSENSITIVE_ORDER", type := (.object "java/util/Comparator"), accessFlags := 25, slot := 4, constantValue := 0 }, { name := "LATIN1", type := .byte, accessFlags := 24, slot := 5, constantValue := 0 }, { name := "UTF16", type := .byte, accessFlags := 24, slot := 6, constantValue := 0 }]
  methods := #[k7m0, k7m1, k7m2, k7m3, k7m4, k7m5, k7m6, k7m7, k7m8, k7m9]
  instanceTypes := #[(.array .byte), .byte, .int, .boolean]
  staticTypes := #[.long, .boolean, (.array (.object "java/io/ObjectStreamField")), .char, (.object "java/util/Comparator"), .byte, .byte]
  resolved := Array.replicate 1451 none
  statics := some 0 }

def pool8 : Array CpInfo := pool [(6, .class_ 8), (1, u "java/lang/Object"), (0, u "<init>"), (0, u "()V"), (1, .class_ 14), (1, u "java/lang/StringUTF16"), (31, u "$assertionsDisabled"), (0, u "Z"), (13, u "HI_BYTE_SHIFT"), (0, u "I"), (2, u "LO_BYTE_SHIFT"), (49, .methodref 12 116), (0, .nameAndType 117 118), (0, u "compress"), (0, u "([CI[BII)I"), (3, u "([CII)[B"), (138, u "coderFromArrayLen"), (0, u "([BI)B"), (106, .class_ 371), (1, u "java/lang/StringUTF16$LinesSpliterator"), (58, u "MAX_LENGTH"), (196, .class_ 628), (0, u "java/lang/StringUTF16$CodePointsSpliterator"), (0, .class_ 630), (0, u "java/lang/StringUTF16$CharsSpliterator")] 4

def k8m0 : Method := { name := "<init>", desc := "()V", sig := { parameters := [], returnType := none }, accessFlags := 0, code := none }
def k8c1 : Code := { maxStack := 2, maxLocals := 2, code := jdk_52_method_15_code, exceptionTable := #[], attributes := #[] }
def k8m1 : Method := { name := "coderFromArrayLen", desc := "([BI)B", sig := { parameters := [(.array .byte), .int], returnType := some .byte }, accessFlags := 8, code := some k8c1 }
def k8c2 : Code := { maxStack := 5, maxLocals := 6, code := jdk_52_method_16_code, exceptionTable := #[], attributes := #[] }
def k8m2 : Method := { name := "compress", desc := "([CII)[B", sig := { parameters := [(.array .char), .int, .int], returnType := some (.array .byte) }, accessFlags := 9, code := some k8c2 }
def k8c3 : Code := { maxStack := 3, maxLocals := 7, code := jdk_52_method_21_code, exceptionTable := #[], attributes := #[] }
def k8m3 : Method := { name := "compress", desc := "([CI[BII)I", sig := { parameters := [(.array .char), .int, (.array .byte), .int, .int], returnType := some .int }, accessFlags := 9, code := some k8c3 }
/-- java/lang/StringUTF16 -/
def k8 : Class := { plain "java/lang/StringUTF16" (some 0) with
  accessFlags := 48
  interfaces := #[]
  cf := some (fileOf pool8 12 #[.nestMembers #[627, 629, 369]] #[{ accessFlags := 0, nameIndex := 9, descriptorIndex := 10, attributes := #[] }, { accessFlags := 8, nameIndex := 261, descriptorIndex := 262, attributes := #[] }, { accessFlags := 9, nameIndex := 117, descriptorIndex := 122, attributes := #[] }, { accessFlags := 9, nameIndex := 117, descriptorIndex := 118, attributes := #[] }] 48 6 #[] #[{ accessFlags := 26, nameIndex := 61, descriptorIndex := 62, attributes := #[] }, { accessFlags := 26, nameIndex := 65, descriptorIndex := 62, attributes := #[] }, { accessFlags := 24, nameIndex := 430, descriptorIndex := 62, attributes := #[] }, { accessFlags := 4120, nameIndex := 46, descriptorIndex := 47, attributes := #[] }])
  fields := #[{ name := "HI_BYTE_SHIFT", type := .int, accessFlags := 26, slot := 0, constantValue := 0 }, { name := "LO_BYTE_SHIFT", type := .int, accessFlags := 26, slot := 1, constantValue := 0 }, { name := "MAX_LENGTH", type := .int, accessFlags := 24, slot := 2, constantValue := 0 }, { name := "$assertionsDisabled", type := .boolean, accessFlags := 4120, slot := 3, constantValue := 0 }]
  methods := #[k8m0, k8m1, k8m2, k8m3]
  instanceTypes := #[]
  staticTypes := #[.int, .int, .int, .boolean]
  resolved := Array.replicate 635 none
  statics := none }

def pool9 : Array CpInfo := pool [(1, .methodref 2 3), (0, .class_ 4), (0, .nameAndType 5 6), (0, u "java/lang/Object"), (0, u "<init>"), (0, u "()V"), (0, .fieldref 8 9), (0, .class_ 10), (0, .nameAndType 11 12), (0, u "com/example/unify_trace/unifytrace/program/Type"), (0, u "name"), (0, u "Ljava/lang/String;"), (0, .fieldref 8 14), (0, .nameAndType 15 16), (0, u "variable"), (0, u "Z"), (0, .fieldref 8 18), (0, .nameAndType 19 20), (0, u "argument"), (0, u "Lcom/example/unify_trace/unifytrace/program/Type;"), (0, .fieldref 8 22), (0, .nameAndType 23 20), (0, u "result"), (0, .methodref 8 25), (0, .nameAndType 5 26), (0, u "(Ljava/lang/String;ZLcom/example/unify_trace/unifytrace/program/Type;Lcom/example/unify_trace/unifytrace/program/Type;)V"), (0, .class_ 28), (0, u "com/example/unify_trace/unifytrace/term/Compound"), (2, .class_ 32), (0, u "com/example/unify_trace/unifytrace/term/Term"), (0, .methodref 27 34), (0, .nameAndType 5 35), (0, u "(Ljava/lang/String;[Lcom/example/unify_trace/unifytrace/term/Term;)V"), (0, .class_ 37), (0, u "java/util/ArrayList"), (0, .methodref 36 3), (0, .class_ 40), (0, u "java/util/ArrayDeque"), (0, .methodref 39 3), (0, .interfaceMethodref 43 44), (0, .class_ 45), (0, .nameAndType 46 47), (0, u "java/util/Deque"), (0, u "push"), (0, u "(Ljava/lang/Object;)V"), (0, .interfaceMethodref 43 49), (0, .nameAndType 50 51), (0, u "isEmpty"), (0, u "()Z"), (0, .interfaceMethodref 43 53), (0, .nameAndType 54 55), (0, u "pop"), (0, u "()Ljava/lang/Object;"), (0, .interfaceMethodref 57 58), (0, .class_ 59), (0, .nameAndType 60 61), (0, u "java/util/List"), (0, u "add"), (0, u "(Ljava/lang/Object;)Z"), (0, .interfaceMethodref 57 63), (0, .nameAndType 64 65), (0, u "size"), (0, u "()I"), (0, .interfaceMethodref 57 67), (0, .nameAndType 68 69), (0, u "get"), (0, u "(I)Ljava/lang/Object;"), (16, u "base"), (0, u "(Ljava/lang/String;)Lcom/example/unify_trace/unifytrace/program/Type;"), (2, u "INT"), (4, u "BOOL"), (0, u "ARROW"), (5, u "term"), (0, u "(Ljava/lang/String;)Lcom/example/unify_trace/unifytrace/term/Term;")] 19

def k9c0 : Code := { maxStack := 2, maxLocals := 5, code := prog_19_method_1_code, exceptionTable := #[], attributes := #[] }
def k9m0 : Method := { name := "<init>", desc := "(Ljava/lang/String;ZLcom/example/unify_trace/unifytrace/program/Type;Lcom/example/unify_trace/unifytrace/program/Type;)V", sig := { parameters := [(.object "java/lang/String"), .boolean, (.object "com/example/unify_trace/unifytrace/program/Type"), (.object "com/example/unify_trace/unifytrace/program/Type")], returnType := none }, accessFlags := 2, code := some k9c0 }
def k9c1 : Code := { maxStack := 6, maxLocals := 1, code := prog_19_method_2_code, exceptionTable := #[], attributes := #[] }
def k9m1 : Method := { name := "base", desc := "(Ljava/lang/String;)Lcom/example/unify_trace/unifytrace/program/Type;", sig := { parameters := [(.object "java/lang/String")], returnType := some (.object "com/example/unify_trace/unifytrace/program/Type") }, accessFlags := 9, code := some k9c1 }
def k9c2 : Code := { maxStack := 5, maxLocals := 8, code := prog_19_method_6_code, exceptionTable := #[], attributes := #[] }
def k9m2 : Method := { name := "term", desc := "(Ljava/lang/String;)Lcom/example/unify_trace/unifytrace/term/Term;", sig := { parameters := [(.object "java/lang/String")], returnType := some (.object "com/example/unify_trace/unifytrace/term/Term") }, accessFlags := 0, code := some k9c2 }
/-- com/example/unify_trace/unifytrace/program/Type -/
def k9 : Class := { plain "com/example/unify_trace/unifytrace/program/Type" (some 0) with
  accessFlags := 33
  interfaces := #[]
  cf := some (fileOf pool9 8 #[] #[{ accessFlags := 2, nameIndex := 5, descriptorIndex := 26, attributes := #[] }, { accessFlags := 9, nameIndex := 86, descriptorIndex := 87, attributes := #[] }, { accessFlags := 0, nameIndex := 102, descriptorIndex := 103, attributes := #[] }] 33 2 #[] #[{ accessFlags := 25, nameIndex := 90, descriptorIndex := 20, attributes := #[] }, { accessFlags := 25, nameIndex := 95, descriptorIndex := 20, attributes := #[] }, { accessFlags := 26, nameIndex := 96, descriptorIndex := 12, attributes := #[] }, { accessFlags := 18, nameIndex := 11, descriptorIndex := 12, attributes := #[] }, { accessFlags := 18, nameIndex := 15, descriptorIndex := 16, attributes := #[] }, { accessFlags := 18, nameIndex := 19, descriptorIndex := 20, attributes := #[] }, { accessFlags := 18, nameIndex := 23, descriptorIndex := 20, attributes := #[] }])
  fields := #[{ name := "INT", type := (.object "com/example/unify_trace/unifytrace/program/Type"), accessFlags := 25, slot := 0, constantValue := 0 }, { name := "BOOL", type := (.object "com/example/unify_trace/unifytrace/program/Type"), accessFlags := 25, slot := 1, constantValue := 0 }, { name := "ARROW", type := (.object "java/lang/String"), accessFlags := 26, slot := 2, constantValue := 0 }, { name := "name", type := (.object "java/lang/String"), accessFlags := 18, slot := 0, constantValue := 0 }, { name := "variable", type := .boolean, accessFlags := 18, slot := 1, constantValue := 0 }, { name := "argument", type := (.object "com/example/unify_trace/unifytrace/program/Type"), accessFlags := 18, slot := 2, constantValue := 0 }, { name := "result", type := (.object "com/example/unify_trace/unifytrace/program/Type"), accessFlags := 18, slot := 3, constantValue := 0 }]
  methods := #[k9m0, k9m1, k9m2]
  instanceTypes := #[(.object "java/lang/String"), .boolean, (.object "com/example/unify_trace/unifytrace/program/Type"), (.object "com/example/unify_trace/unifytrace/program/Type")]
  staticTypes := #[(.object "com/example/unify_trace/unifytrace/program/Type"), (.object "com/example/unify_trace/unifytrace/program/Type"), (.object "java/lang/String")]
  resolved := Array.replicate 123 none
  statics := none }

def pool10 : Array CpInfo := pool [(8, .class_ 10), (1, u "java/lang/Iterable"), (24, .class_ 36), (0, u "java/lang/Object")] 25

/-- java/lang/Iterable -/
def k10 : Class := { plain "java/lang/Iterable" (some 0) with
  accessFlags := 1537
  interfaces := #[]
  cf := some (fileOf pool10 8 #[] #[] 1537 35 #[] #[])
  fields := #[]
  methods := #[]
  instanceTypes := #[]
  staticTypes := #[]
  resolved := Array.replicate 62 none
  statics := none }

def pool11 : Array CpInfo := pool [(10, .class_ 12), (1, u "java/util/Collection"), (17, u "()Z"), (29, .class_ 61), (0, u "java/lang/Object"), (0, .class_ 63), (0, u "java/lang/Iterable"), (2, u "isEmpty")] 48

def k11m0 : Method := { name := "isEmpty", desc := "()Z", sig := { parameters := [], returnType := some .boolean }, accessFlags := 1025, code := none }
/-- java/util/Collection -/
def k11 : Class := { plain "java/util/Collection" (some 0) with
  accessFlags := 1537
  interfaces := #[10]
  cf := some (fileOf pool11 10 #[] #[{ accessFlags := 1025, nameIndex := 66, descriptorIndex := 30, attributes := #[] }] 1537 60 #[62] #[])
  fields := #[]
  methods := #[k11m0]
  instanceTypes := #[]
  staticTypes := #[]
  resolved := Array.replicate 115 none
  statics := none }

def pool12 : Array CpInfo := pool [(1, .methodref 2 3), (0, .class_ 4), (0, .nameAndType 5 6), (0, u "java/lang/Object"), (0, u "<init>"), (0, u "()V"), (1, .class_ 10), (1, u "java/util/AbstractCollection"), (66, .class_ 78), (0, u "java/util/Collection")] 81

def k12c0 : Code := { maxStack := 1, maxLocals := 1, code := jdk_22_method_1_code, exceptionTable := #[], attributes := #[] }
def k12m0 : Method := { name := "<init>", desc := "()V", sig := { parameters := [], returnType := none }, accessFlags := 4, code := some k12c0 }
/-- java/util/AbstractCollection -/
def k12 : Class := { plain "java/util/AbstractCollection" (some 0) with
  accessFlags := 1057
  interfaces := #[11]
  cf := some (fileOf pool12 8 #[] #[{ accessFlags := 4, nameIndex := 5, descriptorIndex := 6, attributes := #[] }] 1057 2 #[77] #[])
  fields := #[]
  methods := #[k12m0]
  instanceTypes := #[]
  staticTypes := #[]
  resolved := Array.replicate 160 none
  statics := none }

def pool13 : Array CpInfo := pool [(8, .class_ 10), (1, u "java/util/SequencedCollection"), (15, .class_ 27), (0, u "java/lang/Object"), (0, .class_ 29), (0, u "java/util/Collection")] 27

/-- java/util/SequencedCollection -/
def k13 : Class := { plain "java/util/SequencedCollection" (some 0) with
  accessFlags := 1537
  interfaces := #[11]
  cf := some (fileOf pool13 8 #[] #[] 1537 26 #[28] #[])
  fields := #[]
  methods := #[]
  instanceTypes := #[]
  staticTypes := #[]
  resolved := Array.replicate 57 none
  statics := none }

def pool14 : Array CpInfo := pool [(8, .class_ 10), (1, u "java/util/List"), (49, u "add"), (3, u "(Ljava/lang/Object;)Z"), (10, u "get"), (0, u "(I)Ljava/lang/Object;"), (2, u "size"), (0, u "()I"), (22, .class_ 104), (0, u "java/lang/Object"), (15, .class_ 121), (0, u "java/util/SequencedCollection")] 129

def k14m0 : Method := { name := "size", desc := "()I", sig := { parameters := [], returnType := some .int }, accessFlags := 1025, code := none }
def k14m1 : Method := { name := "add", desc := "(Ljava/lang/Object;)Z", sig := { parameters := [(.object "java/lang/Object")], returnType := some .boolean }, accessFlags := 1025, code := none }
def k14m2 : Method := { name := "get", desc := "(I)Ljava/lang/Object;", sig := { parameters := [.int], returnType := some (.object "java/lang/Object") }, accessFlags := 1025, code := none }
/-- java/util/List -/
def k14 : Class := { plain "java/util/List" (some 0) with
  accessFlags := 1537
  interfaces := #[13]
  cf := some (fileOf pool14 8 #[] #[{ accessFlags := 1025, nameIndex := 79, descriptorIndex := 80, attributes := #[] }, { accessFlags := 1025, nameIndex := 60, descriptorIndex := 64, attributes := #[] }, { accessFlags := 1025, nameIndex := 75, descriptorIndex := 76, attributes := #[] }] 1537 103 #[120] #[])
  fields := #[]
  methods := #[k14m0, k14m1, k14m2]
  instanceTypes := #[]
  staticTypes := #[]
  resolved := Array.replicate 251 none
  statics := none }

def pool15 : Array CpInfo := pool [(1, .methodref 2 3), (0, .class_ 4), (0, .nameAndType 5 6), (0, u "java/util/AbstractCollection"), (0, u "<init>"), (0, u "()V"), (0, .fieldref 8 9), (0, .class_ 10), (0, .nameAndType 11 12), (0, u "java/util/AbstractList"), (0, u "modCount"), (0, u "I"), (64, .class_ 78), (0, u "java/util/AbstractList$Itr"), (3, .class_ 83), (0, u "java/util/AbstractList$ListItr"), (9, .class_ 94), (0, u "java/util/AbstractList$RandomAccessSubList"), (3, .class_ 99), (0, u "java/util/AbstractList$SubList"), (33, .class_ 134), (0, u "java/util/List"), (73, .class_ 209), (0, u "java/util/AbstractList$SubList$1"), (0, .class_ 211), (0, u "java/util/AbstractList$RandomAccessSpliterator")] 6

def k15c0 : Code := { maxStack := 2, maxLocals := 1, code := jdk_39_method_1_code, exceptionTable := #[], attributes := #[] }
def k15m0 : Method := { name := "<init>", desc := "()V", sig := { parameters := [], returnType := none }, accessFlags := 4, code := some k15c0 }
/-- java/util/AbstractList -/
def k15 : Class := { plain "java/util/AbstractList" (some 12) with
  accessFlags := 1057
  interfaces := #[14]
  cf := some (fileOf pool15 8 #[.nestMembers #[93, 98, 208, 210, 82, 77]] #[{ accessFlags := 4, nameIndex := 5, descriptorIndex := 6, attributes := #[] }] 1057 2 #[133] #[{ accessFlags := 132, nameIndex := 11, descriptorIndex := 12, attributes := #[] }])
  fields := #[{ name := "modCount", type := .int, accessFlags := 132, slot := 0, constantValue := 0 }]
  methods := #[k15m0]
  instanceTypes := #[.int]
  staticTypes := #[]
  resolved := Array.replicate 218 none
  statics := none }

def pool16 : Array CpInfo := pool [(1, .class_ 2), (0, u "java/util/RandomAccess"), (0, .class_ 4), (0, u "java/lang/Object")] 2

/-- java/util/RandomAccess -/
def k16 : Class := { plain "java/util/RandomAccess" (some 0) with
  accessFlags := 1537
  interfaces := #[]
  cf := some (fileOf pool16 1 #[] #[] 1537 3 #[] #[])
  fields := #[]
  methods := #[]
  instanceTypes := #[]
  staticTypes := #[]
  resolved := Array.replicate 7 none
  statics := none }

def pool17 : Array CpInfo := pool [(1, .class_ 2), (0, u "java/lang/Cloneable"), (0, .class_ 4), (0, u "java/lang/Object")] 2

/-- java/lang/Cloneable -/
def k17 : Class := { plain "java/lang/Cloneable" (some 0) with
  accessFlags := 1537
  interfaces := #[]
  cf := some (fileOf pool17 1 #[] #[] 1537 3 #[] #[])
  fields := #[]
  methods := #[]
  instanceTypes := #[]
  staticTypes := #[]
  resolved := Array.replicate 7 none
  statics := none }

def pool18 : Array CpInfo := pool [(1, .methodref 2 3), (0, .class_ 4), (0, .nameAndType 5 6), (0, u "java/util/AbstractList"), (0, u "<init>"), (0, u "()V"), (0, .class_ 8), (0, u "java/lang/Object"), (0, .fieldref 10 11), (0, .class_ 12), (0, .nameAndType 13 14), (0, u "java/util/ArrayList"), (0, u "elementData"), (0, u "[Ljava/lang/Object;"), (2, u "EMPTY_ELEMENTDATA"), (21, .fieldref 10 40), (0, .nameAndType 41 14), (0, u "DEFAULTCAPACITY_EMPTY_ELEMENTDATA"), (5, u "()[Ljava/lang/Object;"), (0, .fieldref 10 49), (0, .nameAndType 50 51), (0, u "size"), (0, u "I"), (11, .fieldref 10 64), (0, .nameAndType 65 51), (0, u "modCount"), (3, .methodref 10 70), (0, .nameAndType 71 72), (0, u "grow"), (0, u "(I)[Ljava/lang/Object;"), (6, .methodref 80 81), (0, .class_ 82), (0, .nameAndType 83 84), (0, u "java/lang/Math"), (0, u "max"), (0, u "(II)I"), (11, u "(Ljava/lang/Object;)Z"), (21, .methodref 119 120), (0, .class_ 121), (0, .nameAndType 122 84), (0, u "java/util/Objects"), (0, u "checkIndex"), (0, .methodref 10 124), (0, .nameAndType 13 125), (0, u "(I)Ljava/lang/Object;"), (3, .methodref 10 130), (0, .nameAndType 71 47), (0, .methodref 10 132), (0, .nameAndType 133 134), (0, u "add"), (0, u "(Ljava/lang/Object;[Ljava/lang/Object;I)V"), (13, .class_ 149), (0, u "java/util/List"), (36, u "()I"), (75, .class_ 263), (0, u "java/util/ArrayList$ListItr"), (3, .class_ 268), (0, u "java/util/ArrayList$Itr"), (7, .class_ 277), (0, u "java/util/ArrayList$SubList"), (12, .class_ 291), (0, u "java/util/ArrayList$ArrayListSpliterator"), (37, .class_ 330), (0, u "java/util/RandomAccess"), (0, .class_ 332), (0, u "java/lang/Cloneable"), (0, .class_ 334), (0, u "java/io/Serializable"), (0, u "serialVersionUID"), (0, u "J"), (3, u "DEFAULT_CAPACITY"), (40, u "get"), (118, .class_ 501), (0, u "java/util/ArrayList$SubList$2"), (0, .class_ 503), (0, u "java/util/ArrayList$SubList$1")] 5

def k18c0 : Code := { maxStack := 2, maxLocals := 1, code := jdk_38_method_2_code, exceptionTable := #[], attributes := #[] }
def k18m0 : Method := { name := "<init>", desc := "()V", sig := { parameters := [], returnType := none }, accessFlags := 1, code := some k18c0 }
def k18c1 : Code := { maxStack := 4, maxLocals := 4, code := jdk_38_method_6_code, exceptionTable := #[], attributes := #[] }
def k18m1 : Method := { name := "grow", desc := "(I)[Ljava/lang/Object;", sig := { parameters := [.int], returnType := some (.array (.object "java/lang/Object")) }, accessFlags := 2, code := some k18c1 }
def k18c2 : Code := { maxStack := 3, maxLocals := 1, code := jdk_38_method_7_code, exceptionTable := #[], attributes := #[] }
def k18m2 : Method := { name := "grow", desc := "()[Ljava/lang/Object;", sig := { parameters := [], returnType := some (.array (.object "java/lang/Object")) }, accessFlags := 2, code := some k18c2 }
def k18c3 : Code := { maxStack := 1, maxLocals := 1, code := jdk_38_method_8_code, exceptionTable := #[], attributes := #[] }
def k18m3 : Method := { name := "size", desc := "()I", sig := { parameters := [], returnType := some .int }, accessFlags := 1, code := some k18c3 }
def k18c4 : Code := { maxStack := 2, maxLocals := 2, code := jdk_38_method_18_code, exceptionTable := #[], attributes := #[] }
def k18m4 : Method := { name := "elementData", desc := "(I)Ljava/lang/Object;", sig := { parameters := [.int], returnType := some (.object "java/lang/Object") }, accessFlags := 0, code := some k18c4 }
def k18c5 : Code := { maxStack := 2, maxLocals := 2, code := jdk_38_method_20_code, exceptionTable := #[], attributes := #[] }
def k18m5 : Method := { name := "get", desc := "(I)Ljava/lang/Object;", sig := { parameters := [.int], returnType := some (.object "java/lang/Object") }, accessFlags := 1, code := some k18c5 }
def k18c6 : Code := { maxStack := 3, maxLocals := 4, code := jdk_38_method_24_code, exceptionTable := #[], attributes := #[] }
def k18m6 : Method := { name := "add", desc := "(Ljava/lang/Object;[Ljava/lang/Object;I)V", sig := { parameters := [(.object "java/lang/Object"), (.array (.object "java/lang/Object")), .int], returnType := none }, accessFlags := 2, code := some k18c6 }
def k18c7 : Code := { maxStack := 4, maxLocals := 2, code := jdk_38_method_25_code, exceptionTable := #[], attributes := #[] }
def k18m7 : Method := { name := "add", desc := "(Ljava/lang/Object;)Z", sig := { parameters := [(.object "java/lang/Object")], returnType := some .boolean }, accessFlags := 1, code := some k18c7 }
/-- java/util/ArrayList -/
def k18 : Class := { plain "java/util/ArrayList" (some 15) with
  accessFlags := 33
  interfaces := #[14, 16, 17, 2]
  cf := some (fileOf pool18 10 #[.nestMembers #[290, 276, 500, 502, 262, 267]] #[{ accessFlags := 1, nameIndex := 5, descriptorIndex := 6, attributes := #[] }, { accessFlags := 2, nameIndex := 71, descriptorIndex := 72, attributes := #[] }, { accessFlags := 2, nameIndex := 71, descriptorIndex := 47, attributes := #[] }, { accessFlags := 1, nameIndex := 50, descriptorIndex := 186, attributes := #[] }, { accessFlags := 0, nameIndex := 13, descriptorIndex := 125, attributes := #[] }, { accessFlags := 1, nameIndex := 381, descriptorIndex := 125, attributes := #[] }, { accessFlags := 2, nameIndex := 133, descriptorIndex := 134, attributes := #[] }, { accessFlags := 1, nameIndex := 133, descriptorIndex := 96, attributes := #[] }] 33 2 #[148, 329, 331, 333] #[{ accessFlags := 26, nameIndex := 335, descriptorIndex := 336, attributes := #[] }, { accessFlags := 26, nameIndex := 340, descriptorIndex := 51, attributes := #[] }, { accessFlags := 26, nameIndex := 17, descriptorIndex := 14, attributes := #[] }, { accessFlags := 26, nameIndex := 41, descriptorIndex := 14, attributes := #[] }, { accessFlags := 128, nameIndex := 13, descriptorIndex := 14, attributes := #[] }, { accessFlags := 2, nameIndex := 50, descriptorIndex := 51, attributes := #[] }])
  fields := #[{ name := "serialVersionUID", type := .long, accessFlags := 26, slot := 0, constantValue := 0 }, { name := "DEFAULT_CAPACITY", type := .int, accessFlags := 26, slot := 1, constantValue := 0 }, { name := "EMPTY_ELEMENTDATA", type := (.array (.object "java/lang/Object")), accessFlags := 26, slot := 2, constantValue := 0 }, { name := "DEFAULTCAPACITY_EMPTY_ELEMENTDATA", type := (.array (.object "java/lang/Object")), accessFlags := 26, slot := 3, constantValue := 0 }, { name := "elementData", type := (.array (.object "java/lang/Object")), accessFlags := 128, slot := 1, constantValue := 0 }, { name := "size", type := .int, accessFlags := 2, slot := 2, constantValue := 0 }]
  methods := #[k18m0, k18m1, k18m2, k18m3, k18m4, k18m5, k18m6, k18m7]
  instanceTypes := #[.int, (.array (.object "java/lang/Object")), .int]
  staticTypes := #[.long, .int, (.array (.object "java/lang/Object")), (.array (.object "java/lang/Object"))]
  resolved := Array.replicate 509 none
  statics := some 1 }

def pool19 : Array CpInfo := pool [(1, .class_ 2), (0, u "java/util/Queue"), (0, .class_ 4), (0, u "java/lang/Object"), (0, .class_ 6), (0, u "java/util/Collection")] 14

/-- java/util/Queue -/
def k19 : Class := { plain "java/util/Queue" (some 0) with
  accessFlags := 1537
  interfaces := #[11]
  cf := some (fileOf pool19 1 #[] #[] 1537 3 #[5] #[])
  fields := #[]
  methods := #[]
  instanceTypes := #[]
  staticTypes := #[]
  resolved := Array.replicate 21 none
  statics := none }

def pool20 : Array CpInfo := pool [(8, .class_ 10), (1, u "java/util/Deque"), (2, .class_ 14), (0, u "java/lang/Object"), (0, .class_ 16), (0, u "java/util/Queue"), (0, .class_ 18), (0, u "java/util/SequencedCollection"), (1, u "(Ljava/lang/Object;)V"), (8, u "()Ljava/lang/Object;"), (19, u "push"), (0, u "pop")] 19

def k20m0 : Method := { name := "push", desc := "(Ljava/lang/Object;)V", sig := { parameters := [(.object "java/lang/Object")], returnType := none }, accessFlags := 1025, code := none }
def k20m1 : Method := { name := "pop", desc := "()Ljava/lang/Object;", sig := { parameters := [], returnType := some (.object "java/lang/Object") }, accessFlags := 1025, code := none }
/-- java/util/Deque -/
def k20 : Class := { plain "java/util/Deque" (some 0) with
  accessFlags := 1537
  interfaces := #[19, 13]
  cf := some (fileOf pool20 8 #[] #[{ accessFlags := 1025, nameIndex := 49, descriptorIndex := 20, attributes := #[] }, { accessFlags := 1025, nameIndex := 50, descriptorIndex := 29, attributes := #[] }] 1537 13 #[15, 17] #[])
  fields := #[]
  methods := #[k20m0, k20m1]
  instanceTypes := #[]
  staticTypes := #[]
  resolved := Array.replicate 70 none
  statics := none }

def pool21 : Array CpInfo := pool [(3, .fieldref 4 5), (0, .class_ 6), (0, .nameAndType 7 8), (0, u "java/util/ArrayDeque"), (0, u "elements"), (0, u "[Ljava/lang/Object;"), (4, u "(II)I"), (6, .fieldref 4 21), (0, .nameAndType 22 23), (0, u "tail"), (0, u "I"), (0, .fieldref 4 25), (0, .nameAndType 26 23), (0, u "head"), (12, u "<init>"), (2, .methodref 43 44), (0, .class_ 45), (0, .nameAndType 39 46), (0, u "java/util/AbstractCollection"), (0, u "()V"), (0, .class_ 48), (0, u "java/lang/Object"), (19, .methodref 4 69), (0, .nameAndType 70 13), (0, u "dec"), (3, .methodref 4 75), (0, .nameAndType 76 13), (0, u "inc"), (9, .methodref 4 87), (0, .nameAndType 88 89), (0, u "addFirst"), (0, u "(Ljava/lang/Object;)V"), (3, .methodref 4 94), (0, .nameAndType 95 96), (0, u "pollFirst"), (0, u "()Ljava/lang/Object;"), (6, .methodref 4 104), (0, .nameAndType 105 106), (0, u "elementAt"), (0, u "([Ljava/lang/Object;I)Ljava/lang/Object;"), (11, .methodref 4 119), (0, .nameAndType 120 96), (0, u "removeFirst"), (10, .class_ 132), (0, u "java/util/ArrayDeque$DeqIterator"), (3, .class_ 137), (0, u "java/util/ArrayDeque$DescendingIterator"), (1, .class_ 140), (0, u "java/util/ArrayDeque$DeqSpliterator"), (137, .class_ 279), (0, u "java/util/Deque"), (0, .class_ 281), (0, u "java/lang/Cloneable"), (0, .class_ 283), (0, u "java/io/Serializable"), (0, u "MAX_ARRAY_SIZE"), (1, u "serialVersionUID"), (0, u "J"), (54, u "push"), (0, u "pop"), (3, u "isEmpty"), (0, u "()Z")] 89

def k21c0 : Code := { maxStack := 2, maxLocals := 1, code := jdk_21_method_3_code, exceptionTable := #[], attributes := #[] }
def k21m0 : Method := { name := "<init>", desc := "()V", sig := { parameters := [], returnType := none }, accessFlags := 1, code := some k21c0 }
def k21c1 : Code := { maxStack := 2, maxLocals := 2, code := jdk_21_method_6_code, exceptionTable := #[], attributes := #[] }
def k21m1 : Method := { name := "inc", desc := "(II)I", sig := { parameters := [.int, .int], returnType := some .int }, accessFlags := 24, code := some k21c1 }
def k21c2 : Code := { maxStack := 2, maxLocals := 2, code := jdk_21_method_7_code, exceptionTable := #[], attributes := #[] }
def k21m2 : Method := { name := "dec", desc := "(II)I", sig := { parameters := [.int, .int], returnType := some .int }, accessFlags := 24, code := some k21c2 }
def k21c3 : Code := { maxStack := 2, maxLocals := 2, code := jdk_21_method_10_code, exceptionTable := #[], attributes := #[] }
def k21m3 : Method := { name := "elementAt", desc := "([Ljava/lang/Object;I)Ljava/lang/Object;", sig := { parameters := [(.array (.object "java/lang/Object")), .int], returnType := some (.object "java/lang/Object") }, accessFlags := 24, code := some k21c3 }
def k21c4 : Code := { maxStack := 4, maxLocals := 3, code := jdk_21_method_12_code, exceptionTable := #[], attributes := #[] }
def k21m4 : Method := { name := "addFirst", desc := "(Ljava/lang/Object;)V", sig := { parameters := [(.object "java/lang/Object")], returnType := none }, accessFlags := 1, code := some k21c4 }
def k21c5 : Code := { maxStack := 2, maxLocals := 2, code := jdk_21_method_18_code, exceptionTable := #[], attributes := #[] }
def k21m5 : Method := { name := "removeFirst", desc := "()Ljava/lang/Object;", sig := { parameters := [], returnType := some (.object "java/lang/Object") }, accessFlags := 1, code := some k21c5 }
def k21c6 : Code := { maxStack := 3, maxLocals := 4, code := jdk_21_method_20_code, exceptionTable := #[], attributes := #[] }
def k21m6 : Method := { name := "pollFirst", desc := "()Ljava/lang/Object;", sig := { parameters := [], returnType := some (.object "java/lang/Object") }, accessFlags := 1, code := some k21c6 }
def k21c7 : Code := { maxStack := 2, maxLocals := 2, code := jdk_21_method_34_code, exceptionTable := #[], attributes := #[] }
def k21m7 : Method := { name := "push", desc := "(Ljava/lang/Object;)V", sig := { parameters := [(.object "java/lang/Object")], returnType := none }, accessFlags := 1, code := some k21c7 }
def k21c8 : Code := { maxStack := 1, maxLocals := 1, code := jdk_21_method_35_code, exceptionTable := #[], attributes := #[] }
def k21m8 : Method := { name := "pop", desc := "()Ljava/lang/Object;", sig := { parameters := [], returnType := some (.object "java/lang/Object") }, accessFlags := 1, code := some k21c8 }
def k21c9 : Code := { maxStack := 2, maxLocals := 1, code := jdk_21_method_38_code, exceptionTable := #[], attributes := #[] }
def k21m9 : Method := { name := "isEmpty", desc := "()Z", sig := { parameters := [], returnType := some .boolean }, accessFlags := 1, code := some k21c9 }
/-- java/util/ArrayDeque -/
def k21 : Class := { plain "java/util/ArrayDeque" (some 12) with
  accessFlags := 33
  interfaces := #[20, 17, 2]
  cf := some (fileOf pool21 4 #[.nestMembers #[139, 136, 131]] #[{ accessFlags := 1, nameIndex := 39, descriptorIndex := 46, attributes := #[] }, { accessFlags := 24, nameIndex := 76, descriptorIndex := 13, attributes := #[] }, { accessFlags := 24, nameIndex := 70, descriptorIndex := 13, attributes := #[] }, { accessFlags := 24, nameIndex := 105, descriptorIndex := 106, attributes := #[] }, { accessFlags := 1, nameIndex := 88, descriptorIndex := 89, attributes := #[] }, { accessFlags := 1, nameIndex := 120, descriptorIndex := 96, attributes := #[] }, { accessFlags := 1, nameIndex := 95, descriptorIndex := 96, attributes := #[] }, { accessFlags := 1, nameIndex := 342, descriptorIndex := 89, attributes := #[] }, { accessFlags := 1, nameIndex := 343, descriptorIndex := 96, attributes := #[] }, { accessFlags := 1, nameIndex := 347, descriptorIndex := 348, attributes := #[] }] 33 43 #[278, 280, 282] #[{ accessFlags := 128, nameIndex := 7, descriptorIndex := 8, attributes := #[] }, { accessFlags := 128, nameIndex := 26, descriptorIndex := 23, attributes := #[] }, { accessFlags := 128, nameIndex := 22, descriptorIndex := 23, attributes := #[] }, { accessFlags := 26, nameIndex := 284, descriptorIndex := 23, attributes := #[] }, { accessFlags := 26, nameIndex := 286, descriptorIndex := 287, attributes := #[] }])
  fields := #[{ name := "elements", type := (.array (.object "java/lang/Object")), accessFlags := 128, slot := 0, constantValue := 0 }, { name := "head", type := .int, accessFlags := 128, slot := 1, constantValue := 0 }, { name := "tail", type := .int, accessFlags := 128, slot := 2, constantValue := 0 }, { name := "MAX_ARRAY_SIZE", type := .int, accessFlags := 26, slot := 0, constantValue := 0 }, { name := "serialVersionUID", type := .long, accessFlags := 26, slot := 1, constantValue := 0 }]
  methods := #[k21m0, k21m1, k21m2, k21m3, k21m4, k21m5, k21m6, k21m7, k21m8, k21m9]
  instanceTypes := #[(.array (.object "java/lang/Object")), .int, .int]
  staticTypes := #[.int, .long]
  resolved := Array.replicate 438 none
  statics := none }

def pool22 : Array CpInfo := pool [(1, .class_ 2), (0, u "java/lang/Math"), (1, .class_ 6), (1, u "java/lang/Object"), (0, u "<init>"), (0, u "()V"), (89, .class_ 100), (1, u "java/lang/Math$RandomNumberGeneratorHolder"), (71, u "negativeZeroFloatBits"), (0, u "J"), (2, u "negativeZeroDoubleBits"), (21, u "max"), (46, u "$assertionsDisabled"), (0, u "Z"), (88, u "(II)I"), (2, u "twoToTheDoubleScaleDown"), (0, u "D"), (4, u "twoToTheDoubleScaleUp"), (9, u "E"), (3, u "PI"), (2, u "TAU"), (2, u "DEGREES_TO_RADIANS"), (0, u "RADIANS_TO_DEGREES")] 94

def k22m0 : Method := { name := "<init>", desc := "()V", sig := { parameters := [], returnType := none }, accessFlags := 2, code := none }
def k22c1 : Code := { maxStack := 2, maxLocals := 2, code := jdk_29_method_65_code, exceptionTable := #[], attributes := #[] }
def k22m1 : Method := { name := "max", desc := "(II)I", sig := { parameters := [.int, .int], returnType := some .int }, accessFlags := 9, code := some k22c1 }
/-- java/lang/Math -/
def k22 : Class := { plain "java/lang/Math" (some 0) with
  accessFlags := 49
  interfaces := #[]
  cf := some (fileOf pool22 1 #[.nestMembers #[98]] #[{ accessFlags := 2, nameIndex := 7, descriptorIndex := 8, attributes := #[] }, { accessFlags := 9, nameIndex := 198, descriptorIndex := 335, attributes := #[] }] 49 4 #[] #[{ accessFlags := 25, nameIndex := 354, descriptorIndex := 339, attributes := #[] }, { accessFlags := 25, nameIndex := 358, descriptorIndex := 339, attributes := #[] }, { accessFlags := 25, nameIndex := 361, descriptorIndex := 339, attributes := #[] }, { accessFlags := 26, nameIndex := 364, descriptorIndex := 339, attributes := #[] }, { accessFlags := 26, nameIndex := 365, descriptorIndex := 339, attributes := #[] }, { accessFlags := 26, nameIndex := 172, descriptorIndex := 173, attributes := #[] }, { accessFlags := 26, nameIndex := 176, descriptorIndex := 173, attributes := #[] }, { accessFlags := 8, nameIndex := 344, descriptorIndex := 339, attributes := #[] }, { accessFlags := 8, nameIndex := 338, descriptorIndex := 339, attributes := #[] }, { accessFlags := 4120, nameIndex := 245, descriptorIndex := 246, attributes := #[] }])
  fields := #[{ name := "E", type := .double, accessFlags := 25, slot := 0, constantValue := 0 }, { name := "PI", type := .double, accessFlags := 25, slot := 1, constantValue := 0 }, { name := "TAU", type := .double, accessFlags := 25, slot := 2, constantValue := 0 }, { name := "DEGREES_TO_RADIANS", type := .double, accessFlags := 26, slot := 3, constantValue := 0 }, { name := "RADIANS_TO_DEGREES", type := .double, accessFlags := 26, slot := 4, constantValue := 0 }, { name := "negativeZeroFloatBits", type := .long, accessFlags := 26, slot := 5, constantValue := 0 }, { name := "negativeZeroDoubleBits", type := .long, accessFlags := 26, slot := 6, constantValue := 0 }, { name := "twoToTheDoubleScaleUp", type := .double, accessFlags := 8, slot := 7, constantValue := 0 }, { name := "twoToTheDoubleScaleDown", type := .double, accessFlags := 8, slot := 8, constantValue := 0 }, { name := "$assertionsDisabled", type := .boolean, accessFlags := 4120, slot := 9, constantValue := 0 }]
  methods := #[k22m0, k22m1]
  instanceTypes := #[]
  staticTypes := #[.double, .double, .double, .double, .double, .long, .long, .double, .double, .boolean]
  resolved := Array.replicate 460 none
  statics := none }

def pool23 : Array CpInfo := pool [(2, .class_ 4), (1, u "java/lang/Object"), (0, u "<init>"), (0, u "()V"), (35, .class_ 44), (1, u "java/util/Objects"), (0, u "requireNonNull"), (48, u "(Ljava/lang/Object;Ljava/lang/String;)Ljava/lang/Object;"), (10, .methodref 106 107), (0, .class_ 108), (0, .nameAndType 109 110), (0, u "jdk/internal/util/Preconditions"), (0, u "checkIndex"), (0, u "(IILjava/util/function/BiFunction;)I"), (60, u "(II)I")] 12

def k23m0 : Method := { name := "<init>", desc := "()V", sig := { parameters := [], returnType := none }, accessFlags := 2, code := none }
def k23c1 : Code := { maxStack := 3, maxLocals := 2, code := jdk_31_method_11_code, exceptionTable := #[], attributes := #[] }
def k23m1 : Method := { name := "requireNonNull", desc := "(Ljava/lang/Object;Ljava/lang/String;)Ljava/lang/Object;", sig := { parameters := [(.object "java/lang/Object"), (.object "java/lang/String")], returnType := some (.object "java/lang/Object") }, accessFlags := 9, code := some k23c1 }
def k23c2 : Code := { maxStack := 3, maxLocals := 2, code := jdk_31_method_17_code, exceptionTable := #[], attributes := #[] }
def k23m2 : Method := { name := "checkIndex", desc := "(II)I", sig := { parameters := [.int, .int], returnType := some .int }, accessFlags := 9, code := some k23c2 }
/-- java/util/Objects -/
def k23 : Class := { plain "java/util/Objects" (some 0) with
  accessFlags := 49
  interfaces := #[]
  cf := some (fileOf pool23 42 #[] #[{ accessFlags := 2, nameIndex := 5, descriptorIndex := 6, attributes := #[] }, { accessFlags := 9, nameIndex := 45, descriptorIndex := 94, attributes := #[] }, { accessFlags := 9, nameIndex := 109, descriptorIndex := 171, attributes := #[] }] 49 2 #[] #[])
  fields := #[]
  methods := #[k23m0, k23m1, k23m2]
  instanceTypes := #[]
  staticTypes := #[]
  resolved := Array.replicate 184 none
  statics := none }

def pool24 : Array CpInfo := pool [(2, .class_ 4), (1, u "java/lang/Object"), (0, u "<init>"), (0, u "()V"), (17, .class_ 26), (1, u "jdk/internal/util/Preconditions"), (6, u "checkIndex"), (21, .class_ 56), (0, u "jdk/internal/util/Preconditions$4"), (57, .class_ 115), (0, u "jdk/internal/util/Preconditions$1"), (7, u "SIOOBE_FORMATTER"), (0, u "Ljava/util/function/BiFunction;"), (0, .class_ 126), (0, u "jdk/internal/util/Preconditions$2"), (3, u "AIOOBE_FORMATTER"), (0, .class_ 132), (0, u "jdk/internal/util/Preconditions$3"), (3, u "IOOBE_FORMATTER"), (41, u "(IILjava/util/function/BiFunction;)I")] 15

def k24m0 : Method := { name := "<init>", desc := "()V", sig := { parameters := [], returnType := none }, accessFlags := 1, code := none }
def k24c1 : Code := { maxStack := 3, maxLocals := 3, code := jdk_41_method_11_code, exceptionTable := #[], attributes := #[] }
def k24m1 : Method := { name := "checkIndex", desc := "(IILjava/util/function/BiFunction;)I", sig := { parameters := [.int, .int, (.object "java/util/function/BiFunction")], returnType := some .int }, accessFlags := 9, code := some k24c1 }
/-- jdk/internal/util/Preconditions -/
def k24 : Class := { plain "jdk/internal/util/Preconditions" (some 0) with
  accessFlags := 33
  interfaces := #[]
  cf := some (fileOf pool24 24 #[.nestMembers #[55, 131, 125, 114]] #[{ accessFlags := 1, nameIndex := 5, descriptorIndex := 6, attributes := #[] }, { accessFlags := 9, nameIndex := 33, descriptorIndex := 178, attributes := #[] }] 33 2 #[] #[{ accessFlags := 25, nameIndex := 123, descriptorIndex := 124, attributes := #[] }, { accessFlags := 25, nameIndex := 130, descriptorIndex := 124, attributes := #[] }, { accessFlags := 25, nameIndex := 136, descriptorIndex := 124, attributes := #[] }])
  fields := #[{ name := "SIOOBE_FORMATTER", type := (.object "java/util/function/BiFunction"), accessFlags := 25, slot := 0, constantValue := 0 }, { name := "AIOOBE_FORMATTER", type := (.object "java/util/function/BiFunction"), accessFlags := 25, slot := 1, constantValue := 0 }, { name := "IOOBE_FORMATTER", type := (.object "java/util/function/BiFunction"), accessFlags := 25, slot := 2, constantValue := 0 }]
  methods := #[k24m0, k24m1]
  instanceTypes := #[]
  staticTypes := #[(.object "java/util/function/BiFunction"), (.object "java/util/function/BiFunction"), (.object "java/util/function/BiFunction")]
  resolved := Array.replicate 194 none
  statics := some 2 }

def pool25 : Array CpInfo := pool [(1, .methodref 2 3), (0, .class_ 4), (0, .nameAndType 5 6), (0, u "java/lang/Object"), (0, u "<init>"), (0, u "()V"), (0, .fieldref 8 9), (0, .class_ 10), (0, .nameAndType 11 12), (0, u "com/example/unify_trace/unifytrace/term/Term"), (0, u "name"), (0, u "Ljava/lang/String;"), (4, u "()Ljava/lang/String;"), (8, u "arity"), (0, u "()I"), (47, .methodref 76 77), (0, .class_ 78), (0, .nameAndType 79 27), (0, u "java/lang/String"), (0, u "length"), (0, .methodref 76 81), (0, .nameAndType 82 83), (0, u "charAt"), (0, u "(I)C"), (0, .methodref 8 85), (0, .nameAndType 86 87), (0, u "isNameCharacter"), (0, u "(C)Z"), (0, u "(Ljava/lang/String;)V"), (6, u "isNameRest"), (0, u "(Ljava/lang/String;I)Z")] 5

def k25c0 : Code := { maxStack := 2, maxLocals := 2, code := prog_27_method_1_code, exceptionTable := #[], attributes := #[] }
def k25m0 : Method := { name := "<init>", desc := "(Ljava/lang/String;)V", sig := { parameters := [(.object "java/lang/String")], returnType := none }, accessFlags := 0, code := some k25c0 }
def k25c1 : Code := { maxStack := 1, maxLocals := 1, code := prog_27_method_2_code, exceptionTable := #[], attributes := #[] }
def k25m1 : Method := { name := "name", desc := "()Ljava/lang/String;", sig := { parameters := [], returnType := some (.object "java/lang/String") }, accessFlags := 1, code := some k25c1 }
def k25m2 : Method := { name := "arity", desc := "()I", sig := { parameters := [], returnType := some .int }, accessFlags := 1025, code := none }
def k25c3 : Code := { maxStack := 2, maxLocals := 3, code := prog_27_method_7_code, exceptionTable := #[], attributes := #[] }
def k25m3 : Method := { name := "isNameRest", desc := "(Ljava/lang/String;I)Z", sig := { parameters := [(.object "java/lang/String"), .int], returnType := some .boolean }, accessFlags := 8, code := some k25c3 }
def k25c4 : Code := { maxStack := 2, maxLocals := 1, code := prog_27_method_8_code, exceptionTable := #[], attributes := #[] }
def k25m4 : Method := { name := "isNameCharacter", desc := "(C)Z", sig := { parameters := [.char], returnType := some .boolean }, accessFlags := 9, code := some k25c4 }
/-- com/example/unify_trace/unifytrace/term/Term -/
def k25 : Class := { plain "com/example/unify_trace/unifytrace/term/Term" (some 0) with
  accessFlags := 1057
  interfaces := #[]
  cf := some (fileOf pool25 8 #[] #[{ accessFlags := 0, nameIndex := 5, descriptorIndex := 88, attributes := #[] }, { accessFlags := 1, nameIndex := 11, descriptorIndex := 17, attributes := #[] }, { accessFlags := 1025, nameIndex := 26, descriptorIndex := 27, attributes := #[] }, { accessFlags := 8, nameIndex := 95, descriptorIndex := 96, attributes := #[] }, { accessFlags := 9, nameIndex := 86, descriptorIndex := 87, attributes := #[] }] 1057 2 #[] #[{ accessFlags := 18, nameIndex := 11, descriptorIndex := 12, attributes := #[] }])
  fields := #[{ name := "name", type := (.object "java/lang/String"), accessFlags := 18, slot := 0, constantValue := 0 }]
  methods := #[k25m0, k25m1, k25m2, k25m3, k25m4]
  instanceTypes := #[(.object "java/lang/String")]
  staticTypes := #[]
  resolved := Array.replicate 102 none
  statics := none }

def pool26 : Array CpInfo := pool [(1, .methodref 2 3), (0, .class_ 4), (0, .nameAndType 5 6), (0, u "com/example/unify_trace/unifytrace/term/Compound"), (0, u "checkName"), (0, u "(Ljava/lang/String;I)Ljava/lang/String;"), (0, .methodref 8 9), (0, .class_ 10), (0, .nameAndType 11 12), (0, u "com/example/unify_trace/unifytrace/term/Term"), (0, u "<init>"), (0, u "(Ljava/lang/String;)V"), (0, .methodref 14 15), (0, .class_ 16), (0, .nameAndType 17 18), (0, u "[Lcom/example/unify_trace/unifytrace/term/Term;"), (0, u "clone"), (0, u "()Ljava/lang/Object;"), (0, .fieldref 2 20), (0, .nameAndType 21 16), (0, u "arguments"), (2, .methodref 25 26), (0, .class_ 27), (0, .nameAndType 28 29), (0, u "java/util/Objects"), (0, u "requireNonNull"), (0, u "(Ljava/lang/Object;Ljava/lang/String;)Ljava/lang/Object;"), (0, .string 31), (0, u "name"), (0, .methodref 33 34), (0, .class_ 35), (0, .nameAndType 36 37), (0, u "java/lang/String"), (0, u "isEmpty"), (0, u "()Z"), (0, .methodref 33 39), (0, .nameAndType 40 41), (0, u "charAt"), (0, u "(I)C"), (0, .methodref 2 43), (0, .nameAndType 44 45), (0, u "isNameRest"), (0, u "(Ljava/lang/String;I)Z"), (20, u "()I"), (11, u "(Ljava/lang/String;[Lcom/example/unify_trace/unifytrace/term/Term;)V"), (3, u "arity")] 22

def k26c0 : Code := { maxStack := 3, maxLocals := 7, code := prog_25_method_1_code, exceptionTable := #[], attributes := #[] }
def k26m0 : Method := { name := "<init>", desc := "(Ljava/lang/String;[Lcom/example/unify_trace/unifytrace/term/Term;)V", sig := { parameters := [(.object "java/lang/String"), (.array (.object "com/example/unify_trace/unifytrace/term/Term"))], returnType := none }, accessFlags := 129, code := some k26c0 }
def k26c1 : Code := { maxStack := 3, maxLocals := 3, code := prog_25_method_2_code, exceptionTable := #[], attributes := #[] }
def k26m1 : Method := { name := "checkName", desc := "(Ljava/lang/String;I)Ljava/lang/String;", sig := { parameters := [(.object "java/lang/String"), .int], returnType := some (.object "java/lang/String") }, accessFlags := 10, code := some k26c1 }
def k26c2 : Code := { maxStack := 1, maxLocals := 1, code := prog_25_method_4_code, exceptionTable := #[], attributes := #[] }
def k26m2 : Method := { name := "arity", desc := "()I", sig := { parameters := [], returnType := some .int }, accessFlags := 1, code := some k26c2 }
/-- com/example/unify_trace/unifytrace/term/Compound -/
def k26 : Class := { plain "com/example/unify_trace/unifytrace/term/Compound" (some 25) with
  accessFlags := 49
  interfaces := #[]
  cf := some (fileOf pool26 2 #[] #[{ accessFlags := 129, nameIndex := 11, descriptorIndex := 78, attributes := #[] }, { accessFlags := 10, nameIndex := 5, descriptorIndex := 6, attributes := #[] }, { accessFlags := 1, nameIndex := 82, descriptorIndex := 66, attributes := #[] }] 49 8 #[] #[{ accessFlags := 18, nameIndex := 21, descriptorIndex := 16, attributes := #[] }])
  fields := #[{ name := "arguments", type := (.array (.object "com/example/unify_trace/unifytrace/term/Term")), accessFlags := 18, slot := 1, constantValue := 0 }]
  methods := #[k26m0, k26m1, k26m2]
  instanceTypes := #[(.object "java/lang/String"), (.array (.object "com/example/unify_trace/unifytrace/term/Term"))]
  staticTypes := #[]
  resolved := Array.replicate 105 none
  statics := none }

def pool27 : Array CpInfo := pool [(1, .class_ 2), (0, u "java/lang/String"), (1, .class_ 6), (1, u "java/lang/Object"), (0, u "<init>"), (0, u "()V"), (0, .methodref 1 10), (0, .nameAndType 11 12), (0, u "checkIndex"), (0, u "(II)V"), (1, .class_ 16), (1, u "java/lang/StringLatin1"), (36, u "([BI)C"), (67, u "$assertionsDisabled"), (0, u "Z"), (98, .class_ 223), (1, u "java/lang/StringLatin1$LinesSpliterator"), (28, u "charAt"), (137, .class_ 391), (0, u "java/lang/StringLatin1$CharsSpliterator")] 3

def k27m0 : Method := { name := "<init>", desc := "()V", sig := { parameters := [], returnType := none }, accessFlags := 0, code := none }
def k27c1 : Code := { maxStack := 2, maxLocals := 2, code := jdk_43_method_2_code, exceptionTable := #[], attributes := #[] }
def k27m1 : Method := { name := "charAt", desc := "([BI)C", sig := { parameters := [(.array .byte), .int], returnType := some .char }, accessFlags := 9, code := some k27c1 }
/-- java/lang/StringLatin1 -/
def k27 : Class := { plain "java/lang/StringLatin1" (some 0) with
  accessFlags := 48
  interfaces := #[]
  cf := some (fileOf pool27 14 #[.nestMembers #[390, 221]] #[{ accessFlags := 0, nameIndex := 7, descriptorIndex := 8, attributes := #[] }, { accessFlags := 9, nameIndex := 252, descriptorIndex := 53, attributes := #[] }] 48 4 #[] #[{ accessFlags := 4120, nameIndex := 121, descriptorIndex := 122, attributes := #[] }])
  fields := #[{ name := "$assertionsDisabled", type := .boolean, accessFlags := 4120, slot := 0, constantValue := 0 }]
  methods := #[k27m0, k27m1]
  instanceTypes := #[]
  staticTypes := #[.boolean]
  resolved := Array.replicate 395 none
  statics := none }

def pool28 : Array CpInfo := pool [(9, u "<init>"), (6, .class_ 18), (1, u "java/lang/Object"), (0, u "()V"), (1, .class_ 23), (1, u "jdk/internal/util/ArraysSupport"), (0, u "LOG2_ARRAY_LONG_INDEX_SCALE"), (0, u "I"), (2, u "U"), (0, u "Ljdk/internal/misc/Unsafe;"), (8, u "BIG_ENDIAN"), (0, u "Z"), (8, u "LOG2_BYTE_BIT_SIZE"), (4, u "LOG2_ARRAY_INT_INDEX_SCALE"), (54, u "JLA"), (0, u "Ljdk/internal/access/JavaLangAccess;"), (11, u "LOG2_ARRAY_BOOLEAN_INDEX_SCALE"), (9, u "LOG2_ARRAY_BYTE_INDEX_SCALE"), (5, u "LOG2_ARRAY_CHAR_INDEX_SCALE"), (5, u "LOG2_ARRAY_SHORT_INDEX_SCALE"), (18, u "LOG2_ARRAY_FLOAT_INDEX_SCALE"), (24, u "LOG2_ARRAY_DOUBLE_INDEX_SCALE"), (89, u "T_BOOLEAN"), (2, u "T_CHAR"), (1, u "T_FLOAT"), (1, u "T_DOUBLE"), (1, u "T_BYTE"), (1, u "T_SHORT"), (1, u "T_INT"), (1, u "T_LONG"), (1, u "SOFT_MAX_ARRAY_LENGTH")] 83

def k28m0 : Method := { name := "<init>", desc := "()V", sig := { parameters := [], returnType := none }, accessFlags := 2, code := none }
/-- jdk/internal/util/ArraysSupport -/
def k28 : Class := { plain "jdk/internal/util/ArraysSupport" (some 0) with
  accessFlags := 33
  interfaces := #[]
  cf := some (fileOf pool28 21 #[] #[{ accessFlags := 2, nameIndex := 9, descriptorIndex := 19, attributes := #[] }] 33 16 #[] #[{ accessFlags := 24, nameIndex := 28, descriptorIndex := 29, attributes := #[] }, { accessFlags := 26, nameIndex := 38, descriptorIndex := 39, attributes := #[] }, { accessFlags := 25, nameIndex := 121, descriptorIndex := 25, attributes := #[] }, { accessFlags := 25, nameIndex := 131, descriptorIndex := 25, attributes := #[] }, { accessFlags := 25, nameIndex := 137, descriptorIndex := 25, attributes := #[] }, { accessFlags := 25, nameIndex := 143, descriptorIndex := 25, attributes := #[] }, { accessFlags := 25, nameIndex := 53, descriptorIndex := 25, attributes := #[] }, { accessFlags := 25, nameIndex := 24, descriptorIndex := 25, attributes := #[] }, { accessFlags := 25, nameIndex := 162, descriptorIndex := 25, attributes := #[] }, { accessFlags := 25, nameIndex := 187, descriptorIndex := 25, attributes := #[] }, { accessFlags := 26, nameIndex := 48, descriptorIndex := 25, attributes := #[] }, { accessFlags := 25, nameIndex := 277, descriptorIndex := 25, attributes := #[] }, { accessFlags := 25, nameIndex := 280, descriptorIndex := 25, attributes := #[] }, { accessFlags := 25, nameIndex := 282, descriptorIndex := 25, attributes := #[] }, { accessFlags := 25, nameIndex := 284, descriptorIndex := 25, attributes := #[] }, { accessFlags := 25, nameIndex := 286, descriptorIndex := 25, attributes := #[] }, { accessFlags := 25, nameIndex := 288, descriptorIndex := 25, attributes := #[] }, { accessFlags := 25, nameIndex := 290, descriptorIndex := 25, attributes := #[] }, { accessFlags := 25, nameIndex := 292, descriptorIndex := 25, attributes := #[] }, { accessFlags := 26, nameIndex := 108, descriptorIndex := 109, attributes := #[] }, { accessFlags := 25, nameIndex := 294, descriptorIndex := 25, attributes := #[] }])
  fields := #[{ name := "U", type := (.object "jdk/internal/misc/Unsafe"), accessFlags := 24, slot := 0, constantValue := 0 }, { name := "BIG_ENDIAN", type := .boolean, accessFlags := 26, slot := 1, constantValue := 0 }, { name := "LOG2_ARRAY_BOOLEAN_INDEX_SCALE", type := .int, accessFlags := 25, slot := 2, constantValue := 0 }, { name := "LOG2_ARRAY_BYTE_INDEX_SCALE", type := .int, accessFlags := 25, slot := 3, constantValue := 0 }, { name := "LOG2_ARRAY_CHAR_INDEX_SCALE", type := .int, accessFlags := 25, slot := 4, constantValue := 0 }, { name := "LOG2_ARRAY_SHORT_INDEX_SCALE", type := .int, accessFlags := 25, slot := 5, constantValue := 0 }, { name := "LOG2_ARRAY_INT_INDEX_SCALE", type := .int, accessFlags := 25, slot := 6, constantValue := 0 }, { name := "LOG2_ARRAY_LONG_INDEX_SCALE", type := .int, accessFlags := 25, slot := 7, constantValue := 0 }, { name := "LOG2_ARRAY_FLOAT_INDEX_SCALE", type := .int, accessFlags := 25, slot := 8, constantValue := 0 }, { name := "LOG2_ARRAY_DOUBLE_INDEX_SCALE", type := .int, accessFlags := 25, slot := 9, constantValue := 0 }, { name := "LOG2_BYTE_BIT_SIZE", type := .int, accessFlags := 26, slot := 10, constantValue := 0 }, { name := "T_BOOLEAN", type := .int, accessFlags := 25, slot := 11, constantValue := 0 }, { name := "T_CHAR", type := .int, accessFlags := 25, slot := 12, constantValue := 0 }, { name := "T_FLOAT", type := .int, accessFlags := 25, slot := 13, constantValue := 0 }, { name := "T_DOUBLE", type := .int, accessFlags := 25, slot := 14, constantValue := 0 }, { name := "T_BYTE", type := .int, accessFlags := 25, slot := 15, constantValue := 0 }, { name := "T_SHORT", type := .int, accessFlags := 25, slot := 16, constantValue := 0 }, { name := "T_INT", type := .int, accessFlags := 25, slot := 17, constantValue := 0 }, { name := "T_LONG", type := .int, accessFlags := 25, slot := 18, constantValue := 0 }, { name := "JLA", type := (.object "jdk/internal/access/JavaLangAccess"), accessFlags := 26, slot := 19, constantValue := 0 }, { name := "SOFT_MAX_ARRAY_LENGTH", type := .int, accessFlags := 25, slot := 20, constantValue := 0 }]
  methods := #[k28m0]
  instanceTypes := #[]
  staticTypes := #[(.object "jdk/internal/misc/Unsafe"), .boolean, .int, .int, .int, .int, .int, .int, .int, .int, .int, .int, .int, .int, .int, .int, .int, .int, .int, (.object "jdk/internal/access/JavaLangAccess"), .int]
  resolved := Array.replicate 378 none
  statics := none }

/-- the primitive byte -/
def k29 : Class := { plain "byte" none with kind := .primitive 'B', accessFlags := 0x411 }
/-- [B -/
def k30 : Class := { plain "[B" (some 0) with kind := .array 29 .byte, interfaces := #[17, 2], accessFlags := 1041 }

/-- the primitive char -/
def k31 : Class := { plain "char" none with kind := .primitive 'C', accessFlags := 0x411 }
/-- [C -/
def k32 : Class := { plain "[C" (some 0) with kind := .array 31 .char, interfaces := #[17, 2], accessFlags := 1041 }

/-- the primitive int -/
def k33 : Class := { plain "int" none with kind := .primitive 'I', accessFlags := 0x411 }
/-- [I -/
def k34 : Class := { plain "[I" (some 0) with kind := .array 33 .int, interfaces := #[17, 2], accessFlags := 1041 }

/-- [Lcom/example/unify_trace/unifytrace/term/Term; -/
def k35 : Class := { plain "[Lcom/example/unify_trace/unifytrace/term/Term;" (some 0) with kind := .array 25 (.object "com/example/unify_trace/unifytrace/term/Term"), interfaces := #[17, 2], accessFlags := 1041 }

/-- [Ljava/lang/Object; -/
def k36 : Class := { plain "[Ljava/lang/Object;" (some 0) with kind := .array 0 (.object "java/lang/Object"), interfaces := #[17, 2], accessFlags := 1041 }

def heap : Heap := #[{ cls := 7, slots := #[.long 0, .int 1, .null, .int 0, .null, .int 0, .int 0], vm := .statics 7 },
  { cls := 18, slots := #[.long 0, .int 0, .ref 3, .ref 4], vm := .statics 18 },
  { cls := 24, slots := #[.null, .null, .null], vm := .statics 24 },
  { cls := 36, slots := #[], vm := .none },
  { cls := 36, slots := #[], vm := .none }]
def classes : Array Class := #[k0, k1, k2, k3, k4, k5, k6, k7, k8, k9, k10, k11, k12, k13, k14, k15, k16, k17, k18, k19, k20, k21, k22, k23, k24, k25, k26, k27, k28, k29, k30, k31, k32, k33, k34, k35, k36]
def interned : List (Array UInt16 × Addr) := []
def slotsUsed : Nat := 14
def theMethod : MethodId := ⟨1, 2⟩
def args0 : Array Value := #[.int 5, .int 7, .int 3, .int 9, .int 1]
def aboutOver (below : List Frame) : State where
  vm := { classes := classes, interned := interned.toArray }
  heap := heap
  slotsUsed := slotsUsed
  threads := #[{ frames := .invoking theMethod args0 :: below }]
def below0 : List Frame := [.native { method := ⟨0, 0⟩, args := #[] }]
def about1 : State := aboutOver below0
def p0 : Program := .bare "" "" ""
def e0 : Env := launch0.env 0 0 0
theorem w_frames : about1.frames = Frame.invoking theMethod args0 :: below0 := rfl
set_option maxRecDepth 65536 in
theorem w_args : argsFit about1.vm theMethod args0 = true := by decide +kernel
set_option maxRecDepth 65536 in
theorem w_heap : heapFits about1 = true := by decide +kernel
set_option maxRecDepth 65536 in
theorem w_runnable : about1.curStatus? = some .runnable := by decide +kernel
set_option maxRecDepth 65536 in
theorem w_alone : about1.alone = true := by decide +kernel
set_option maxRecDepth 65536 in
theorem w_named : about1.methodNamed? x = some theMethod := by decide +kernel
set_option maxRecDepth 65536 in
theorem w_hears : about1.hears theMethod below0 = true := by decide +kernel
set_option maxRecDepth 65536 in
theorem w_ripe : about1.ripe theMethod args0 below0 = true := by decide +kernel
theorem w_running : about1.status = .running := rfl
set_option maxRecDepth 65536 in
theorem w_room : about1.hasRoom e0.platform room_1 = true :=
  launch0.hasRoom_least _ room_1 (by decide +kernel) (by decide +kernel) (by decide +kernel) (by decide +kernel) (by decide +kernel) (by decide +kernel)
theorem allAtoms_all (ts : List Jvm.Cond) (a : Array Jvm.Value) (st : Jvm.State) : (allAtoms ts).before a st = ts.all (fun c => c.before a st) := by
  induction ts with
  | nil => rfl
  | cons c t ih =>
    show (Jvm.Cond.and c (allAtoms t)).before a st = _
    rw [Jvm.Cond.before_and, ih, List.all_cons]
def words1 : List Jvm.Cond := Jvm.Cond.code x code maxLocals ret :: tables_1
/-- a 'code' word, met by the world's own term for the bytes: nothing is compared byte by byte -/
theorem code_word {y : MethodName} {bytes : ByteArray} {mx : Nat} {rt : Option FieldType} {a : Array Value} {s : State} {m : MethodId} {meth : Method} {c : Code} (h1 : s.methodNamed? y = some m) (h2 : s.vm.method? m = some meth) (h3 : meth.code = some c) (h4 : c.code = bytes)
    (h5 : (c.maxLocals == mx && c.exceptionTable.isEmpty && decide (c.maxStack ≤ mostOperands) && decide (meth.sig.returnType = rt) && !meth.locks && decide (parseMethodDescriptor y.desc = some meth.sig)) = true) : (Jvm.Cond.code y bytes mx rt).before a s = true := by
  simp only [Bool.and_eq_true, beq_iff_eq, Bool.not_eq_true', decide_eq_true_eq] at h5
  obtain ⟨⟨⟨⟨⟨g1, g2⟩, g3⟩, g4⟩, g5⟩, g6⟩ := h5
  simp [Cond.before, Cond.holds, Cond.value, h1, h2, h3, h4, g1, g2, g3, g4, g5, g6]
def isCode : Jvm.Cond → Bool
  | .code _ _ _ _ => true
  | _ => false
theorem all_split {L : List Jvm.Cond} {P : Jvm.Cond → Bool} (h1 : L.all (fun c => isCode c || P c) = true) (h2 : ∀ c ∈ L.filter isCode, P c = true) : L.all P = true := by
  refine List.all_eq_true.mpr fun c hc => ?_
  have h := List.all_eq_true.mp h1 c hc
  rcases Bool.eq_false_or_eq_true (isCode c) with hi | hi
  · exact h2 c (List.mem_filter.mpr ⟨hc, hi⟩)
  · simpa [hi] using h
set_option maxRecDepth 65536 in
theorem w_c0 : (Jvm.Cond.code x code maxLocals ret).before args0 about1 = true := code_word (m := ⟨1, 2⟩) (meth := k1m2) (c := k1c2) (by decide +kernel) rfl rfl rfl (by decide +kernel)
set_option maxRecDepth 65536 in
theorem w_c1 : (Jvm.Cond.code ({ cls := "java/lang/String", name := "<init>", desc := "([C)V" } : Jvm.MethodName) jdk_42_method_3_code (2 : Nat) (Option.none : Option Jvm.ClassFile.FieldType)).before args0 about1 = true := code_word (m := ⟨7, 1⟩) (meth := k7m1) (c := k7c1) (by decide +kernel) rfl rfl rfl (by decide +kernel)
set_option maxRecDepth 65536 in
theorem w_c2 : (Jvm.Cond.code ({ cls := "java/lang/String", name := "<init>", desc := "([CIILjava/lang/Void;)V" } : Jvm.MethodName) jdk_42_method_149_code (6 : Nat) (Option.none : Option Jvm.ClassFile.FieldType)).before args0 about1 = true := code_word (m := ⟨7, 6⟩) (meth := k7m6) (c := k7c6) (by decide +kernel) rfl rfl rfl (by decide +kernel)
set_option maxRecDepth 65536 in
theorem w_c3 : (Jvm.Cond.code ({ cls := "java/lang/Object", name := "<init>", desc := "()V" } : Jvm.MethodName) object_method_1_code (1 : Nat) (Option.none : Option Jvm.ClassFile.FieldType)).before args0 about1 = true := code_word (m := ⟨0, 0⟩) (meth := k0m0) (c := k0c0) (by decide +kernel) rfl rfl rfl (by decide +kernel)
set_option maxRecDepth 65536 in
theorem w_c4 : (Jvm.Cond.code ({ cls := "java/lang/StringUTF16", name := "compress", desc := "([CII)[B" } : Jvm.MethodName) jdk_52_method_16_code (6 : Nat) (Option.some (Jvm.ClassFile.FieldType.array Jvm.ClassFile.FieldType.byte))).before args0 about1 = true := code_word (m := ⟨8, 2⟩) (meth := k8m2) (c := k8c2) (by decide +kernel) rfl rfl rfl (by decide +kernel)
set_option maxRecDepth 65536 in
theorem w_c5 : (Jvm.Cond.code ({ cls := "java/lang/StringUTF16", name := "compress", desc := "([CI[BII)I" } : Jvm.MethodName) jdk_52_method_21_code (7 : Nat) (Option.some Jvm.ClassFile.FieldType.int)).before args0 about1 = true := code_word (m := ⟨8, 3⟩) (meth := k8m3) (c := k8c3) (by decide +kernel) rfl rfl rfl (by decide +kernel)
set_option maxRecDepth 65536 in
theorem w_c6 : (Jvm.Cond.code ({ cls := "java/lang/StringUTF16", name := "coderFromArrayLen", desc := "([BI)B" } : Jvm.MethodName) jdk_52_method_15_code (2 : Nat) (Option.some Jvm.ClassFile.FieldType.byte)).before args0 about1 = true := code_word (m := ⟨8, 1⟩) (meth := k8m1) (c := k8c1) (by decide +kernel) rfl rfl rfl (by decide +kernel)
set_option maxRecDepth 65536 in
theorem w_c7 : (Jvm.Cond.code ({ cls := "com/example/unify_trace/unifytrace/program/Type", name := "base", desc := "(Ljava/lang/String;)Lcom/example/unify_trace/unifytrace/program/Type;" } : Jvm.MethodName) prog_19_method_2_code (1 : Nat) (Option.some (Jvm.ClassFile.FieldType.object "com/example/unify_trace/unifytrace/program/Type"))).before args0 about1 = true := code_word (m := ⟨9, 1⟩) (meth := k9m1) (c := k9c1) (by decide +kernel) rfl rfl rfl (by decide +kernel)
set_option maxRecDepth 65536 in
theorem w_c8 : (Jvm.Cond.code ({ cls := "com/example/unify_trace/unifytrace/program/Type", name := "<init>", desc := "(Ljava/lang/String;ZLcom/example/unify_trace/unifytrace/program/Type;Lcom/example/unify_trace/unifytrace/program/Type;)V" } : Jvm.MethodName) prog_19_method_1_code (5 : Nat) (Option.none : Option Jvm.ClassFile.FieldType)).before args0 about1 = true := code_word (m := ⟨9, 0⟩) (meth := k9m0) (c := k9c0) (by decide +kernel) rfl rfl rfl (by decide +kernel)
set_option maxRecDepth 65536 in
theorem w_c9 : (Jvm.Cond.code ({ cls := "com/example/unify_trace/unifytrace/program/Type", name := "term", desc := "(Ljava/lang/String;)Lcom/example/unify_trace/unifytrace/term/Term;" } : Jvm.MethodName) prog_19_method_6_code (8 : Nat) (Option.some (Jvm.ClassFile.FieldType.object "com/example/unify_trace/unifytrace/term/Term"))).before args0 about1 = true := code_word (m := ⟨9, 2⟩) (meth := k9m2) (c := k9c2) (by decide +kernel) rfl rfl rfl (by decide +kernel)
set_option maxRecDepth 65536 in
theorem w_c10 : (Jvm.Cond.code ({ cls := "java/util/ArrayList", name := "<init>", desc := "()V" } : Jvm.MethodName) jdk_38_method_2_code (1 : Nat) (Option.none : Option Jvm.ClassFile.FieldType)).before args0 about1 = true := code_word (m := ⟨18, 0⟩) (meth := k18m0) (c := k18c0) (by decide +kernel) rfl rfl rfl (by decide +kernel)
set_option maxRecDepth 65536 in
theorem w_c11 : (Jvm.Cond.code ({ cls := "java/util/AbstractList", name := "<init>", desc := "()V" } : Jvm.MethodName) jdk_39_method_1_code (1 : Nat) (Option.none : Option Jvm.ClassFile.FieldType)).before args0 about1 = true := code_word (m := ⟨15, 0⟩) (meth := k15m0) (c := k15c0) (by decide +kernel) rfl rfl rfl (by decide +kernel)
set_option maxRecDepth 65536 in
theorem w_c12 : (Jvm.Cond.code ({ cls := "java/util/AbstractCollection", name := "<init>", desc := "()V" } : Jvm.MethodName) jdk_22_method_1_code (1 : Nat) (Option.none : Option Jvm.ClassFile.FieldType)).before args0 about1 = true := code_word (m := ⟨12, 0⟩) (meth := k12m0) (c := k12c0) (by decide +kernel) rfl rfl rfl (by decide +kernel)
set_option maxRecDepth 65536 in
theorem w_c13 : (Jvm.Cond.code ({ cls := "java/util/ArrayDeque", name := "<init>", desc := "()V" } : Jvm.MethodName) jdk_21_method_3_code (1 : Nat) (Option.none : Option Jvm.ClassFile.FieldType)).before args0 about1 = true := code_word (m := ⟨21, 0⟩) (meth := k21m0) (c := k21c0) (by decide +kernel) rfl rfl rfl (by decide +kernel)
set_option maxRecDepth 65536 in
theorem w_c14 : (Jvm.Cond.code ({ cls := "java/util/ArrayDeque", name := "push", desc := "(Ljava/lang/Object;)V" } : Jvm.MethodName) jdk_21_method_34_code (2 : Nat) (Option.none : Option Jvm.ClassFile.FieldType)).before args0 about1 = true := code_word (m := ⟨21, 7⟩) (meth := k21m7) (c := k21c7) (by decide +kernel) rfl rfl rfl (by decide +kernel)
set_option maxRecDepth 65536 in
theorem w_c15 : (Jvm.Cond.code ({ cls := "java/util/ArrayDeque", name := "addFirst", desc := "(Ljava/lang/Object;)V" } : Jvm.MethodName) jdk_21_method_12_code (3 : Nat) (Option.none : Option Jvm.ClassFile.FieldType)).before args0 about1 = true := code_word (m := ⟨21, 4⟩) (meth := k21m4) (c := k21c4) (by decide +kernel) rfl rfl rfl (by decide +kernel)
set_option maxRecDepth 65536 in
theorem w_c16 : (Jvm.Cond.code ({ cls := "java/util/ArrayDeque", name := "dec", desc := "(II)I" } : Jvm.MethodName) jdk_21_method_7_code (2 : Nat) (Option.some Jvm.ClassFile.FieldType.int)).before args0 about1 = true := code_word (m := ⟨21, 2⟩) (meth := k21m2) (c := k21c2) (by decide +kernel) rfl rfl rfl (by decide +kernel)
set_option maxRecDepth 65536 in
theorem w_c17 : (Jvm.Cond.code ({ cls := "java/util/ArrayDeque", name := "isEmpty", desc := "()Z" } : Jvm.MethodName) jdk_21_method_38_code (1 : Nat) (Option.some Jvm.ClassFile.FieldType.boolean)).before args0 about1 = true := code_word (m := ⟨21, 9⟩) (meth := k21m9) (c := k21c9) (by decide +kernel) rfl rfl rfl (by decide +kernel)
set_option maxRecDepth 65536 in
theorem w_c18 : (Jvm.Cond.code ({ cls := "java/util/ArrayDeque", name := "pop", desc := "()Ljava/lang/Object;" } : Jvm.MethodName) jdk_21_method_35_code (1 : Nat) (Option.some (Jvm.ClassFile.FieldType.object "java/lang/Object"))).before args0 about1 = true := code_word (m := ⟨21, 8⟩) (meth := k21m8) (c := k21c8) (by decide +kernel) rfl rfl rfl (by decide +kernel)
set_option maxRecDepth 65536 in
theorem w_c19 : (Jvm.Cond.code ({ cls := "java/util/ArrayDeque", name := "removeFirst", desc := "()Ljava/lang/Object;" } : Jvm.MethodName) jdk_21_method_18_code (2 : Nat) (Option.some (Jvm.ClassFile.FieldType.object "java/lang/Object"))).before args0 about1 = true := code_word (m := ⟨21, 5⟩) (meth := k21m5) (c := k21c5) (by decide +kernel) rfl rfl rfl (by decide +kernel)
set_option maxRecDepth 65536 in
theorem w_c20 : (Jvm.Cond.code ({ cls := "java/util/ArrayDeque", name := "pollFirst", desc := "()Ljava/lang/Object;" } : Jvm.MethodName) jdk_21_method_20_code (4 : Nat) (Option.some (Jvm.ClassFile.FieldType.object "java/lang/Object"))).before args0 about1 = true := code_word (m := ⟨21, 6⟩) (meth := k21m6) (c := k21c6) (by decide +kernel) rfl rfl rfl (by decide +kernel)
set_option maxRecDepth 65536 in
theorem w_c21 : (Jvm.Cond.code ({ cls := "java/util/ArrayDeque", name := "elementAt", desc := "([Ljava/lang/Object;I)Ljava/lang/Object;" } : Jvm.MethodName) jdk_21_method_10_code (2 : Nat) (Option.some (Jvm.ClassFile.FieldType.object "java/lang/Object"))).before args0 about1 = true := code_word (m := ⟨21, 3⟩) (meth := k21m3) (c := k21c3) (by decide +kernel) rfl rfl rfl (by decide +kernel)
set_option maxRecDepth 65536 in
theorem w_c22 : (Jvm.Cond.code ({ cls := "java/util/ArrayDeque", name := "inc", desc := "(II)I" } : Jvm.MethodName) jdk_21_method_6_code (2 : Nat) (Option.some Jvm.ClassFile.FieldType.int)).before args0 about1 = true := code_word (m := ⟨21, 1⟩) (meth := k21m1) (c := k21c1) (by decide +kernel) rfl rfl rfl (by decide +kernel)
set_option maxRecDepth 65536 in
theorem w_c23 : (Jvm.Cond.code ({ cls := "java/util/ArrayList", name := "add", desc := "(Ljava/lang/Object;)Z" } : Jvm.MethodName) jdk_38_method_25_code (2 : Nat) (Option.some Jvm.ClassFile.FieldType.boolean)).before args0 about1 = true := code_word (m := ⟨18, 7⟩) (meth := k18m7) (c := k18c7) (by decide +kernel) rfl rfl rfl (by decide +kernel)
set_option maxRecDepth 65536 in
theorem w_c24 : (Jvm.Cond.code ({ cls := "java/util/ArrayList", name := "add", desc := "(Ljava/lang/Object;[Ljava/lang/Object;I)V" } : Jvm.MethodName) jdk_38_method_24_code (4 : Nat) (Option.none : Option Jvm.ClassFile.FieldType)).before args0 about1 = true := code_word (m := ⟨18, 6⟩) (meth := k18m6) (c := k18c6) (by decide +kernel) rfl rfl rfl (by decide +kernel)
set_option maxRecDepth 65536 in
theorem w_c25 : (Jvm.Cond.code ({ cls := "java/util/ArrayList", name := "grow", desc := "()[Ljava/lang/Object;" } : Jvm.MethodName) jdk_38_method_7_code (1 : Nat) (Option.some (Jvm.ClassFile.FieldType.array (Jvm.ClassFile.FieldType.object "java/lang/Object")))).before args0 about1 = true := code_word (m := ⟨18, 2⟩) (meth := k18m2) (c := k18c2) (by decide +kernel) rfl rfl rfl (by decide +kernel)
set_option maxRecDepth 65536 in
theorem w_c26 : (Jvm.Cond.code ({ cls := "java/util/ArrayList", name := "grow", desc := "(I)[Ljava/lang/Object;" } : Jvm.MethodName) jdk_38_method_6_code (4 : Nat) (Option.some (Jvm.ClassFile.FieldType.array (Jvm.ClassFile.FieldType.object "java/lang/Object")))).before args0 about1 = true := code_word (m := ⟨18, 1⟩) (meth := k18m1) (c := k18c1) (by decide +kernel) rfl rfl rfl (by decide +kernel)
set_option maxRecDepth 65536 in
theorem w_c27 : (Jvm.Cond.code ({ cls := "java/lang/Math", name := "max", desc := "(II)I" } : Jvm.MethodName) jdk_29_method_65_code (2 : Nat) (Option.some Jvm.ClassFile.FieldType.int)).before args0 about1 = true := code_word (m := ⟨22, 1⟩) (meth := k22m1) (c := k22c1) (by decide +kernel) rfl rfl rfl (by decide +kernel)
set_option maxRecDepth 65536 in
theorem w_c28 : (Jvm.Cond.code ({ cls := "java/util/ArrayList", name := "size", desc := "()I" } : Jvm.MethodName) jdk_38_method_8_code (1 : Nat) (Option.some Jvm.ClassFile.FieldType.int)).before args0 about1 = true := code_word (m := ⟨18, 3⟩) (meth := k18m3) (c := k18c3) (by decide +kernel) rfl rfl rfl (by decide +kernel)
set_option maxRecDepth 65536 in
theorem w_c29 : (Jvm.Cond.code ({ cls := "java/util/ArrayList", name := "get", desc := "(I)Ljava/lang/Object;" } : Jvm.MethodName) jdk_38_method_20_code (2 : Nat) (Option.some (Jvm.ClassFile.FieldType.object "java/lang/Object"))).before args0 about1 = true := code_word (m := ⟨18, 5⟩) (meth := k18m5) (c := k18c5) (by decide +kernel) rfl rfl rfl (by decide +kernel)
set_option maxRecDepth 65536 in
theorem w_c30 : (Jvm.Cond.code ({ cls := "java/util/Objects", name := "checkIndex", desc := "(II)I" } : Jvm.MethodName) jdk_31_method_17_code (2 : Nat) (Option.some Jvm.ClassFile.FieldType.int)).before args0 about1 = true := code_word (m := ⟨23, 2⟩) (meth := k23m2) (c := k23c2) (by decide +kernel) rfl rfl rfl (by decide +kernel)
set_option maxRecDepth 65536 in
theorem w_c31 : (Jvm.Cond.code ({ cls := "jdk/internal/util/Preconditions", name := "checkIndex", desc := "(IILjava/util/function/BiFunction;)I" } : Jvm.MethodName) jdk_41_method_11_code (3 : Nat) (Option.some Jvm.ClassFile.FieldType.int)).before args0 about1 = true := code_word (m := ⟨24, 1⟩) (meth := k24m1) (c := k24c1) (by decide +kernel) rfl rfl rfl (by decide +kernel)
set_option maxRecDepth 65536 in
theorem w_c32 : (Jvm.Cond.code ({ cls := "java/util/ArrayList", name := "elementData", desc := "(I)Ljava/lang/Object;" } : Jvm.MethodName) jdk_38_method_18_code (2 : Nat) (Option.some (Jvm.ClassFile.FieldType.object "java/lang/Object"))).before args0 about1 = true := code_word (m := ⟨18, 4⟩) (meth := k18m4) (c := k18c4) (by decide +kernel) rfl rfl rfl (by decide +kernel)
set_option maxRecDepth 65536 in
theorem w_c33 : (Jvm.Cond.code ({ cls := "com/example/unify_trace/unifytrace/term/Compound", name := "<init>", desc := "(Ljava/lang/String;[Lcom/example/unify_trace/unifytrace/term/Term;)V" } : Jvm.MethodName) prog_25_method_1_code (7 : Nat) (Option.none : Option Jvm.ClassFile.FieldType)).before args0 about1 = true := code_word (m := ⟨26, 0⟩) (meth := k26m0) (c := k26c0) (by decide +kernel) rfl rfl rfl (by decide +kernel)
set_option maxRecDepth 65536 in
theorem w_c34 : (Jvm.Cond.code ({ cls := "com/example/unify_trace/unifytrace/term/Compound", name := "checkName", desc := "(Ljava/lang/String;I)Ljava/lang/String;" } : Jvm.MethodName) prog_25_method_2_code (3 : Nat) (Option.some (Jvm.ClassFile.FieldType.object "java/lang/String"))).before args0 about1 = true := code_word (m := ⟨26, 1⟩) (meth := k26m1) (c := k26c1) (by decide +kernel) rfl rfl rfl (by decide +kernel)
set_option maxRecDepth 65536 in
theorem w_c35 : (Jvm.Cond.code ({ cls := "java/util/Objects", name := "requireNonNull", desc := "(Ljava/lang/Object;Ljava/lang/String;)Ljava/lang/Object;" } : Jvm.MethodName) jdk_31_method_11_code (2 : Nat) (Option.some (Jvm.ClassFile.FieldType.object "java/lang/Object"))).before args0 about1 = true := code_word (m := ⟨23, 1⟩) (meth := k23m1) (c := k23c1) (by decide +kernel) rfl rfl rfl (by decide +kernel)
set_option maxRecDepth 65536 in
theorem w_c36 : (Jvm.Cond.code ({ cls := "java/lang/String", name := "isEmpty", desc := "()Z" } : Jvm.MethodName) jdk_42_method_55_code (1 : Nat) (Option.some Jvm.ClassFile.FieldType.boolean)).before args0 about1 = true := code_word (m := ⟨7, 3⟩) (meth := k7m3) (c := k7c3) (by decide +kernel) rfl rfl rfl (by decide +kernel)
set_option maxRecDepth 65536 in
theorem w_c37 : (Jvm.Cond.code ({ cls := "java/lang/String", name := "charAt", desc := "(I)C" } : Jvm.MethodName) jdk_42_method_56_code (2 : Nat) (Option.some Jvm.ClassFile.FieldType.char)).before args0 about1 = true := code_word (m := ⟨7, 4⟩) (meth := k7m4) (c := k7c4) (by decide +kernel) rfl rfl rfl (by decide +kernel)
set_option maxRecDepth 65536 in
theorem w_c38 : (Jvm.Cond.code ({ cls := "java/lang/String", name := "isLatin1", desc := "()Z" } : Jvm.MethodName) jdk_42_method_154_code (1 : Nat) (Option.some Jvm.ClassFile.FieldType.boolean)).before args0 about1 = true := code_word (m := ⟨7, 8⟩) (meth := k7m8) (c := k7c8) (by decide +kernel) rfl rfl rfl (by decide +kernel)
set_option maxRecDepth 65536 in
theorem w_c39 : (Jvm.Cond.code ({ cls := "java/lang/StringLatin1", name := "charAt", desc := "([BI)C" } : Jvm.MethodName) jdk_43_method_2_code (2 : Nat) (Option.some Jvm.ClassFile.FieldType.char)).before args0 about1 = true := code_word (m := ⟨27, 1⟩) (meth := k27m1) (c := k27c1) (by decide +kernel) rfl rfl rfl (by decide +kernel)
set_option maxRecDepth 65536 in
theorem w_c40 : (Jvm.Cond.code ({ cls := "java/lang/String", name := "checkIndex", desc := "(II)V" } : Jvm.MethodName) jdk_42_method_155_code (2 : Nat) (Option.none : Option Jvm.ClassFile.FieldType)).before args0 about1 = true := code_word (m := ⟨7, 9⟩) (meth := k7m9) (c := k7c9) (by decide +kernel) rfl rfl rfl (by decide +kernel)
set_option maxRecDepth 65536 in
theorem w_c41 : (Jvm.Cond.code ({ cls := "com/example/unify_trace/unifytrace/term/Term", name := "isNameRest", desc := "(Ljava/lang/String;I)Z" } : Jvm.MethodName) prog_27_method_7_code (3 : Nat) (Option.some Jvm.ClassFile.FieldType.boolean)).before args0 about1 = true := code_word (m := ⟨25, 3⟩) (meth := k25m3) (c := k25c3) (by decide +kernel) rfl rfl rfl (by decide +kernel)
set_option maxRecDepth 65536 in
theorem w_c42 : (Jvm.Cond.code ({ cls := "java/lang/String", name := "length", desc := "()I" } : Jvm.MethodName) jdk_42_method_54_code (1 : Nat) (Option.some Jvm.ClassFile.FieldType.int)).before args0 about1 = true := code_word (m := ⟨7, 2⟩) (meth := k7m2) (c := k7c2) (by decide +kernel) rfl rfl rfl (by decide +kernel)
set_option maxRecDepth 65536 in
theorem w_c43 : (Jvm.Cond.code ({ cls := "java/lang/String", name := "coder", desc := "()B" } : Jvm.MethodName) jdk_42_method_152_code (1 : Nat) (Option.some Jvm.ClassFile.FieldType.byte)).before args0 about1 = true := code_word (m := ⟨7, 7⟩) (meth := k7m7) (c := k7c7) (by decide +kernel) rfl rfl rfl (by decide +kernel)
set_option maxRecDepth 65536 in
theorem w_c44 : (Jvm.Cond.code ({ cls := "com/example/unify_trace/unifytrace/term/Term", name := "<init>", desc := "(Ljava/lang/String;)V" } : Jvm.MethodName) prog_27_method_1_code (2 : Nat) (Option.none : Option Jvm.ClassFile.FieldType)).before args0 about1 = true := code_word (m := ⟨25, 0⟩) (meth := k25m0) (c := k25c0) (by decide +kernel) rfl rfl rfl (by decide +kernel)
set_option maxRecDepth 65536 in
theorem w_c45 : (Jvm.Cond.code ({ cls := "com/example/unify_trace/unifytrace/term/Term", name := "name", desc := "()Ljava/lang/String;" } : Jvm.MethodName) prog_27_method_2_code (1 : Nat) (Option.some (Jvm.ClassFile.FieldType.object "java/lang/String"))).before args0 about1 = true := code_word (m := ⟨25, 1⟩) (meth := k25m1) (c := k25c1) (by decide +kernel) rfl rfl rfl (by decide +kernel)
set_option maxRecDepth 65536 in
theorem w_c46 : (Jvm.Cond.code ({ cls := "java/lang/String", name := "equals", desc := "(Ljava/lang/Object;)Z" } : Jvm.MethodName) jdk_42_method_66_code (3 : Nat) (Option.some Jvm.ClassFile.FieldType.boolean)).before args0 about1 = true := code_word (m := ⟨7, 5⟩) (meth := k7m5) (c := k7c5) (by decide +kernel) rfl rfl rfl (by decide +kernel)
set_option maxRecDepth 65536 in
theorem w_c47 : (Jvm.Cond.code ({ cls := "com/example/unify_trace/unifytrace/term/Compound", name := "arity", desc := "()I" } : Jvm.MethodName) prog_25_method_4_code (1 : Nat) (Option.some Jvm.ClassFile.FieldType.int)).before args0 about1 = true := code_word (m := ⟨26, 2⟩) (meth := k26m2) (c := k26c2) (by decide +kernel) rfl rfl rfl (by decide +kernel)
set_option maxRecDepth 65536 in
theorem w_c48 : (Jvm.Cond.code ({ cls := "com/example/unify_trace/unifytrace/program/TypeBasePinLaw", name := "rest", desc := "(I)C" } : Jvm.MethodName) method_2_code (2 : Nat) (Option.some Jvm.ClassFile.FieldType.char)).before args0 about1 = true := code_word (m := ⟨1, 1⟩) (meth := k1m1) (c := k1c1) (by decide +kernel) rfl rfl rfl (by decide +kernel)
set_option maxRecDepth 65536 in
theorem w_c49 : (Jvm.Cond.code ({ cls := "com/example/unify_trace/unifytrace/term/Term", name := "isNameCharacter", desc := "(C)Z" } : Jvm.MethodName) prog_27_method_8_code (1 : Nat) (Option.some Jvm.ClassFile.FieldType.boolean)).before args0 about1 = true := code_word (m := ⟨25, 4⟩) (meth := k25m4) (c := k25c4) (by decide +kernel) rfl rfl rfl (by decide +kernel)
def codes1 : List Jvm.Cond := [Jvm.Cond.code x code maxLocals ret, Jvm.Cond.code ({ cls := "java/lang/String", name := "<init>", desc := "([C)V" } : Jvm.MethodName) jdk_42_method_3_code (2 : Nat) (Option.none : Option Jvm.ClassFile.FieldType), Jvm.Cond.code ({ cls := "java/lang/String", name := "<init>", desc := "([CIILjava/lang/Void;)V" } : Jvm.MethodName) jdk_42_method_149_code (6 : Nat) (Option.none : Option Jvm.ClassFile.FieldType), Jvm.Cond.code ({ cls := "java/lang/Object", name := "<init>", desc := "()V" } : Jvm.MethodName) object_method_1_code (1 : Nat) (Option.none : Option Jvm.ClassFile.FieldType), Jvm.Cond.code ({ cls := "java/lang/StringUTF16", name := "compress", desc := "([CII)[B" } : Jvm.MethodName) jdk_52_method_16_code (6 : Nat) (Option.some (Jvm.ClassFile.FieldType.array Jvm.ClassFile.FieldType.byte)), Jvm.Cond.code ({ cls := "java/lang/StringUTF16", name := "compress", desc := "([CI[BII)I" } : Jvm.MethodName) jdk_52_method_21_code (7 : Nat) (Option.some Jvm.ClassFile.FieldType.int), Jvm.Cond.code ({ cls := "java/lang/StringUTF16", name := "coderFromArrayLen", desc := "([BI)B" } : Jvm.MethodName) jdk_52_method_15_code (2 : Nat) (Option.some Jvm.ClassFile.FieldType.byte), Jvm.Cond.code ({ cls := "com/example/unify_trace/unifytrace/program/Type", name := "base", desc := "(Ljava/lang/String;)Lcom/example/unify_trace/unifytrace/program/Type;" } : Jvm.MethodName) prog_19_method_2_code (1 : Nat) (Option.some (Jvm.ClassFile.FieldType.object "com/example/unify_trace/unifytrace/program/Type")), Jvm.Cond.code ({ cls := "com/example/unify_trace/unifytrace/program/Type", name := "<init>", desc := "(Ljava/lang/String;ZLcom/example/unify_trace/unifytrace/program/Type;Lcom/example/unify_trace/unifytrace/program/Type;)V" } : Jvm.MethodName) prog_19_method_1_code (5 : Nat) (Option.none : Option Jvm.ClassFile.FieldType), Jvm.Cond.code ({ cls := "com/example/unify_trace/unifytrace/program/Type", name := "term", desc := "(Ljava/lang/String;)Lcom/example/unify_trace/unifytrace/term/Term;" } : Jvm.MethodName) prog_19_method_6_code (8 : Nat) (Option.some (Jvm.ClassFile.FieldType.object "com/example/unify_trace/unifytrace/term/Term")), Jvm.Cond.code ({ cls := "java/util/ArrayList", name := "<init>", desc := "()V" } : Jvm.MethodName) jdk_38_method_2_code (1 : Nat) (Option.none : Option Jvm.ClassFile.FieldType), Jvm.Cond.code ({ cls := "java/util/AbstractList", name := "<init>", desc := "()V" } : Jvm.MethodName) jdk_39_method_1_code (1 : Nat) (Option.none : Option Jvm.ClassFile.FieldType), Jvm.Cond.code ({ cls := "java/util/AbstractCollection", name := "<init>", desc := "()V" } : Jvm.MethodName) jdk_22_method_1_code (1 : Nat) (Option.none : Option Jvm.ClassFile.FieldType), Jvm.Cond.code ({ cls := "java/util/ArrayDeque", name := "<init>", desc := "()V" } : Jvm.MethodName) jdk_21_method_3_code (1 : Nat) (Option.none : Option Jvm.ClassFile.FieldType), Jvm.Cond.code ({ cls := "java/util/ArrayDeque", name := "push", desc := "(Ljava/lang/Object;)V" } : Jvm.MethodName) jdk_21_method_34_code (2 : Nat) (Option.none : Option Jvm.ClassFile.FieldType), Jvm.Cond.code ({ cls := "java/util/ArrayDeque", name := "addFirst", desc := "(Ljava/lang/Object;)V" } : Jvm.MethodName) jdk_21_method_12_code (3 : Nat) (Option.none : Option Jvm.ClassFile.FieldType), Jvm.Cond.code ({ cls := "java/util/ArrayDeque", name := "dec", desc := "(II)I" } : Jvm.MethodName) jdk_21_method_7_code (2 : Nat) (Option.some Jvm.ClassFile.FieldType.int), Jvm.Cond.code ({ cls := "java/util/ArrayDeque", name := "isEmpty", desc := "()Z" } : Jvm.MethodName) jdk_21_method_38_code (1 : Nat) (Option.some Jvm.ClassFile.FieldType.boolean), Jvm.Cond.code ({ cls := "java/util/ArrayDeque", name := "pop", desc := "()Ljava/lang/Object;" } : Jvm.MethodName) jdk_21_method_35_code (1 : Nat) (Option.some (Jvm.ClassFile.FieldType.object "java/lang/Object")), Jvm.Cond.code ({ cls := "java/util/ArrayDeque", name := "removeFirst", desc := "()Ljava/lang/Object;" } : Jvm.MethodName) jdk_21_method_18_code (2 : Nat) (Option.some (Jvm.ClassFile.FieldType.object "java/lang/Object")), Jvm.Cond.code ({ cls := "java/util/ArrayDeque", name := "pollFirst", desc := "()Ljava/lang/Object;" } : Jvm.MethodName) jdk_21_method_20_code (4 : Nat) (Option.some (Jvm.ClassFile.FieldType.object "java/lang/Object")), Jvm.Cond.code ({ cls := "java/util/ArrayDeque", name := "elementAt", desc := "([Ljava/lang/Object;I)Ljava/lang/Object;" } : Jvm.MethodName) jdk_21_method_10_code (2 : Nat) (Option.some (Jvm.ClassFile.FieldType.object "java/lang/Object")), Jvm.Cond.code ({ cls := "java/util/ArrayDeque", name := "inc", desc := "(II)I" } : Jvm.MethodName) jdk_21_method_6_code (2 : Nat) (Option.some Jvm.ClassFile.FieldType.int), Jvm.Cond.code ({ cls := "java/util/ArrayList", name := "add", desc := "(Ljava/lang/Object;)Z" } : Jvm.MethodName) jdk_38_method_25_code (2 : Nat) (Option.some Jvm.ClassFile.FieldType.boolean), Jvm.Cond.code ({ cls := "java/util/ArrayList", name := "add", desc := "(Ljava/lang/Object;[Ljava/lang/Object;I)V" } : Jvm.MethodName) jdk_38_method_24_code (4 : Nat) (Option.none : Option Jvm.ClassFile.FieldType), Jvm.Cond.code ({ cls := "java/util/ArrayList", name := "grow", desc := "()[Ljava/lang/Object;" } : Jvm.MethodName) jdk_38_method_7_code (1 : Nat) (Option.some (Jvm.ClassFile.FieldType.array (Jvm.ClassFile.FieldType.object "java/lang/Object"))), Jvm.Cond.code ({ cls := "java/util/ArrayList", name := "grow", desc := "(I)[Ljava/lang/Object;" } : Jvm.MethodName) jdk_38_method_6_code (4 : Nat) (Option.some (Jvm.ClassFile.FieldType.array (Jvm.ClassFile.FieldType.object "java/lang/Object"))), Jvm.Cond.code ({ cls := "java/lang/Math", name := "max", desc := "(II)I" } : Jvm.MethodName) jdk_29_method_65_code (2 : Nat) (Option.some Jvm.ClassFile.FieldType.int), Jvm.Cond.code ({ cls := "java/util/ArrayList", name := "size", desc := "()I" } : Jvm.MethodName) jdk_38_method_8_code (1 : Nat) (Option.some Jvm.ClassFile.FieldType.int), Jvm.Cond.code ({ cls := "java/util/ArrayList", name := "get", desc := "(I)Ljava/lang/Object;" } : Jvm.MethodName) jdk_38_method_20_code (2 : Nat) (Option.some (Jvm.ClassFile.FieldType.object "java/lang/Object")), Jvm.Cond.code ({ cls := "java/util/Objects", name := "checkIndex", desc := "(II)I" } : Jvm.MethodName) jdk_31_method_17_code (2 : Nat) (Option.some Jvm.ClassFile.FieldType.int), Jvm.Cond.code ({ cls := "jdk/internal/util/Preconditions", name := "checkIndex", desc := "(IILjava/util/function/BiFunction;)I" } : Jvm.MethodName) jdk_41_method_11_code (3 : Nat) (Option.some Jvm.ClassFile.FieldType.int), Jvm.Cond.code ({ cls := "java/util/ArrayList", name := "elementData", desc := "(I)Ljava/lang/Object;" } : Jvm.MethodName) jdk_38_method_18_code (2 : Nat) (Option.some (Jvm.ClassFile.FieldType.object "java/lang/Object")), Jvm.Cond.code ({ cls := "com/example/unify_trace/unifytrace/term/Compound", name := "<init>", desc := "(Ljava/lang/String;[Lcom/example/unify_trace/unifytrace/term/Term;)V" } : Jvm.MethodName) prog_25_method_1_code (7 : Nat) (Option.none : Option Jvm.ClassFile.FieldType), Jvm.Cond.code ({ cls := "com/example/unify_trace/unifytrace/term/Compound", name := "checkName", desc := "(Ljava/lang/String;I)Ljava/lang/String;" } : Jvm.MethodName) prog_25_method_2_code (3 : Nat) (Option.some (Jvm.ClassFile.FieldType.object "java/lang/String")), Jvm.Cond.code ({ cls := "java/util/Objects", name := "requireNonNull", desc := "(Ljava/lang/Object;Ljava/lang/String;)Ljava/lang/Object;" } : Jvm.MethodName) jdk_31_method_11_code (2 : Nat) (Option.some (Jvm.ClassFile.FieldType.object "java/lang/Object")), Jvm.Cond.code ({ cls := "java/lang/String", name := "isEmpty", desc := "()Z" } : Jvm.MethodName) jdk_42_method_55_code (1 : Nat) (Option.some Jvm.ClassFile.FieldType.boolean), Jvm.Cond.code ({ cls := "java/lang/String", name := "charAt", desc := "(I)C" } : Jvm.MethodName) jdk_42_method_56_code (2 : Nat) (Option.some Jvm.ClassFile.FieldType.char), Jvm.Cond.code ({ cls := "java/lang/String", name := "isLatin1", desc := "()Z" } : Jvm.MethodName) jdk_42_method_154_code (1 : Nat) (Option.some Jvm.ClassFile.FieldType.boolean), Jvm.Cond.code ({ cls := "java/lang/StringLatin1", name := "charAt", desc := "([BI)C" } : Jvm.MethodName) jdk_43_method_2_code (2 : Nat) (Option.some Jvm.ClassFile.FieldType.char), Jvm.Cond.code ({ cls := "java/lang/String", name := "checkIndex", desc := "(II)V" } : Jvm.MethodName) jdk_42_method_155_code (2 : Nat) (Option.none : Option Jvm.ClassFile.FieldType), Jvm.Cond.code ({ cls := "com/example/unify_trace/unifytrace/term/Term", name := "isNameRest", desc := "(Ljava/lang/String;I)Z" } : Jvm.MethodName) prog_27_method_7_code (3 : Nat) (Option.some Jvm.ClassFile.FieldType.boolean), Jvm.Cond.code ({ cls := "java/lang/String", name := "length", desc := "()I" } : Jvm.MethodName) jdk_42_method_54_code (1 : Nat) (Option.some Jvm.ClassFile.FieldType.int), Jvm.Cond.code ({ cls := "java/lang/String", name := "coder", desc := "()B" } : Jvm.MethodName) jdk_42_method_152_code (1 : Nat) (Option.some Jvm.ClassFile.FieldType.byte), Jvm.Cond.code ({ cls := "com/example/unify_trace/unifytrace/term/Term", name := "<init>", desc := "(Ljava/lang/String;)V" } : Jvm.MethodName) prog_27_method_1_code (2 : Nat) (Option.none : Option Jvm.ClassFile.FieldType), Jvm.Cond.code ({ cls := "com/example/unify_trace/unifytrace/term/Term", name := "name", desc := "()Ljava/lang/String;" } : Jvm.MethodName) prog_27_method_2_code (1 : Nat) (Option.some (Jvm.ClassFile.FieldType.object "java/lang/String")), Jvm.Cond.code ({ cls := "java/lang/String", name := "equals", desc := "(Ljava/lang/Object;)Z" } : Jvm.MethodName) jdk_42_method_66_code (3 : Nat) (Option.some Jvm.ClassFile.FieldType.boolean), Jvm.Cond.code ({ cls := "com/example/unify_trace/unifytrace/term/Compound", name := "arity", desc := "()I" } : Jvm.MethodName) prog_25_method_4_code (1 : Nat) (Option.some Jvm.ClassFile.FieldType.int), Jvm.Cond.code ({ cls := "com/example/unify_trace/unifytrace/program/TypeBasePinLaw", name := "rest", desc := "(I)C" } : Jvm.MethodName) method_2_code (2 : Nat) (Option.some Jvm.ClassFile.FieldType.char), Jvm.Cond.code ({ cls := "com/example/unify_trace/unifytrace/term/Term", name := "isNameCharacter", desc := "(C)Z" } : Jvm.MethodName) prog_27_method_8_code (1 : Nat) (Option.some Jvm.ClassFile.FieldType.boolean)]
set_option maxRecDepth 65536 in
theorem codes_eq : words1.filter isCode = codes1 := rfl
theorem w_codes : ∀ c ∈ words1.filter isCode, c.before args0 about1 = true := by
  rw [codes_eq]
  intro c hc
  simp only [codes1, List.mem_cons, List.not_mem_nil, or_false] at hc
  rcases hc with rfl | rfl | rfl | rfl | rfl | rfl | rfl | rfl | rfl | rfl | rfl | rfl | rfl | rfl | rfl | rfl | rfl | rfl | rfl | rfl | rfl | rfl | rfl | rfl | rfl | rfl | rfl | rfl | rfl | rfl | rfl | rfl | rfl | rfl | rfl | rfl | rfl | rfl | rfl | rfl | rfl | rfl | rfl | rfl | rfl | rfl | rfl | rfl | rfl | rfl
  · exact w_c0
  · exact w_c1
  · exact w_c2
  · exact w_c3
  · exact w_c4
  · exact w_c5
  · exact w_c6
  · exact w_c7
  · exact w_c8
  · exact w_c9
  · exact w_c10
  · exact w_c11
  · exact w_c12
  · exact w_c13
  · exact w_c14
  · exact w_c15
  · exact w_c16
  · exact w_c17
  · exact w_c18
  · exact w_c19
  · exact w_c20
  · exact w_c21
  · exact w_c22
  · exact w_c23
  · exact w_c24
  · exact w_c25
  · exact w_c26
  · exact w_c27
  · exact w_c28
  · exact w_c29
  · exact w_c30
  · exact w_c31
  · exact w_c32
  · exact w_c33
  · exact w_c34
  · exact w_c35
  · exact w_c36
  · exact w_c37
  · exact w_c38
  · exact w_c39
  · exact w_c40
  · exact w_c41
  · exact w_c42
  · exact w_c43
  · exact w_c44
  · exact w_c45
  · exact w_c46
  · exact w_c47
  · exact w_c48
  · exact w_c49
set_option maxRecDepth 65536 in
theorem w_t1 : (words1.take 24).all (fun c => isCode c || c.before args0 about1) = true := by decide +kernel
set_option maxRecDepth 65536 in
theorem w_t2 : ((words1.drop 24).take 24).all (fun c => isCode c || c.before args0 about1) = true := by decide +kernel
set_option maxRecDepth 65536 in
theorem w_t3 : (((words1.drop 24).drop 24).take 24).all (fun c => isCode c || c.before args0 about1) = true := by decide +kernel
set_option maxRecDepth 65536 in
theorem w_t4 : ((((words1.drop 24).drop 24).drop 24).take 24).all (fun c => isCode c || c.before args0 about1) = true := by decide +kernel
set_option maxRecDepth 65536 in
theorem w_t5 : (((((words1.drop 24).drop 24).drop 24).drop 24).take 24).all (fun c => isCode c || c.before args0 about1) = true := by decide +kernel
set_option maxRecDepth 65536 in
theorem w_t6 : ((((((words1.drop 24).drop 24).drop 24).drop 24).drop 24).take 24).all (fun c => isCode c || c.before args0 about1) = true := by decide +kernel
set_option maxRecDepth 65536 in
theorem w_t7 : (((((((words1.drop 24).drop 24).drop 24).drop 24).drop 24).drop 24).take 24).all (fun c => isCode c || c.before args0 about1) = true := by decide +kernel
set_option maxRecDepth 65536 in
theorem w_t8 : ((((((((words1.drop 24).drop 24).drop 24).drop 24).drop 24).drop 24).drop 24).take 24).all (fun c => isCode c || c.before args0 about1) = true := by decide +kernel
set_option maxRecDepth 65536 in
theorem w_t9 : (((((((((words1.drop 24).drop 24).drop 24).drop 24).drop 24).drop 24).drop 24).drop 24).take 24).all (fun c => isCode c || c.before args0 about1) = true := by decide +kernel
set_option maxRecDepth 65536 in
theorem w_t10 : ((((((((((words1.drop 24).drop 24).drop 24).drop 24).drop 24).drop 24).drop 24).drop 24).drop 24).take 24).all (fun c => isCode c || c.before args0 about1) = true := by decide +kernel
set_option maxRecDepth 65536 in
theorem w_t11 : (((((((((((words1.drop 24).drop 24).drop 24).drop 24).drop 24).drop 24).drop 24).drop 24).drop 24).drop 24).take 24).all (fun c => isCode c || c.before args0 about1) = true := by decide +kernel
set_option maxRecDepth 65536 in
theorem w_t12 : ((((((((((((words1.drop 24).drop 24).drop 24).drop 24).drop 24).drop 24).drop 24).drop 24).drop 24).drop 24).drop 24).take 24).all (fun c => isCode c || c.before args0 about1) = true := by decide +kernel
set_option maxRecDepth 65536 in
theorem w_t13 : ((((((((((((words1.drop 24).drop 24).drop 24).drop 24).drop 24).drop 24).drop 24).drop 24).drop 24).drop 24).drop 24).drop 24).all (fun c => isCode c || c.before args0 about1) = true := by decide +kernel
theorem w_tables : (allAtoms (Jvm.Cond.code x code maxLocals ret :: tables_1)).before args0 about1 = true := by
  rw [allAtoms_all]
  show words1.all (fun c => c.before args0 about1) = true
  refine all_split ?_ w_codes
  rw [← List.take_append_drop 24 words1, List.all_append, w_t1, ← List.take_append_drop 24 (words1.drop 24), List.all_append, w_t2, ← List.take_append_drop 24 ((words1.drop 24).drop 24), List.all_append, w_t3, ← List.take_append_drop 24 (((words1.drop 24).drop 24).drop 24), List.all_append, w_t4, ← List.take_append_drop 24 ((((words1.drop 24).drop 24).drop 24).drop 24), List.all_append, w_t5, ← List.take_append_drop 24 (((((words1.drop 24).drop 24).drop 24).drop 24).drop 24), List.all_append, w_t6, ← List.take_append_drop 24 ((((((words1.drop 24).drop 24).drop 24).drop 24).drop 24).drop 24), List.all_append, w_t7, ← List.take_append_drop 24 (((((((words1.drop 24).drop 24).drop 24).drop 24).drop 24).drop 24).drop 24), List.all_append, w_t8, ← List.take_append_drop 24 ((((((((words1.drop 24).drop 24).drop 24).drop 24).drop 24).drop 24).drop 24).drop 24), List.all_append, w_t9, ← List.take_append_drop 24 (((((((((words1.drop 24).drop 24).drop 24).drop 24).drop 24).drop 24).drop 24).drop 24).drop 24), List.all_append, w_t10, ← List.take_append_drop 24 ((((((((((words1.drop 24).drop 24).drop 24).drop 24).drop 24).drop 24).drop 24).drop 24).drop 24).drop 24), List.all_append, w_t11, ← List.take_append_drop 24 (((((((((((words1.drop 24).drop 24).drop 24).drop 24).drop 24).drop 24).drop 24).drop 24).drop 24).drop 24).drop 24), List.all_append, w_t12, w_t13]
  rfl
set_option maxRecDepth 65536 in
theorem w_rest : rest_1_c.before args0 about1 = true := by decide +kernel
set_option maxRecDepth 65536 in
theorem w_case : (Jvm.Cond.and given_1 narrow_1).before args0 about1 = true := by decide +kernel
theorem w_applies : (headSpec (Jvm.Cond.code x code maxLocals ret :: tables_1) room_1).applies x e0.platform about1 = true :=
  (Spec.applies_iff w_frames).mpr ⟨w_running, w_runnable, w_alone, w_named, w_hears, w_ripe, w_room, w_tables⟩
theorem atStart : AtStart classFile x code maxLocals ret World_1 tables_1 room_1 Calls_1 rest_1 Pre_1 launch0 p0 e0 about1 theMethod args0 below0 :=
  ⟨lists_1, trivial, launch0.admits_env _ _ _, launch0.least_env, fairChoices_fair.cas, fairChoices_fair.clock, w_frames, w_args, w_heap, w_applies, trivial, w_rest, w_case⟩
end start1
theorem witness_1 : WitnessClaimed_1 := ⟨start1.p0, start1.e0, start1.about1, start1.theMethod, start1.args0, start1.below0, start1.atStart⟩
end Jvm.Pilot.@@N@@
