import JvmDerived
import JvmDerived.Pilot.@@N@@Statement
import JvmDerived.Pilot.@@N@@Code
set_option linter.unusedVariables false
set_option linter.unusedSimpArgs false
@@BLOCK:NumsL.lean.txt@@
/- laws to paste: Road.backV (cut by pick.py; bodies as the Statement names them) -/
namespace Jvm.Pilot.@@N@@
namespace StrChars
open Jvm Sem ClassFile Op Lib Jvm.Stand Jvm.Free.XT Jvm.Free.ALB Jvm.Free.JM Jvm.Free
open Jvm.Lib.Cold (StaticIs)
/-- a char array whose places are chars -/
def Ch (a : Addr) (A : Cell) (U : State) : Prop := Arr .char a A U ∧ Typed .char A
theorem Ch.mv {a : Addr} {A : Cell} {U U' : State} (h : Ch a A U) (hal : U.vm.Alike U'.vm) (hh : U'.heap = U.heap) : Ch a A U' := ⟨h.1.mv hal hh, h.2⟩
theorem Ch.keep {a : Addr} {A : Cell} {U U' : State} (h : Ch a A U) (hal : U.vm.Alike U'.vm) (hk : U'.heap[a]? = some A) : Ch a A U' := ⟨h.1.keep hal hk, h.2⟩
/-- what place i of a char[]'s cell holds -/
def cv (A : Cell) (i : Nat) : Int32 := match A.slots[i]? with | some (.int x) => x | _ => 0
theorem Ch.get {a : Addr} {A : Cell} {U : State} (h : Ch a A U) {i : Nat} (hi : i < A.slots.size) : A.slots[i]? = some (.int (cv A i)) := by
  have e := Array.getElem?_eq_getElem hi
  have f := h.2 i _ e
  unfold cv; rw [e]
  generalize A.slots[i] = v at f
  cases v <;> simp [fits] at f ⊢
/-- the byte that i2b leaves of a char -/
def lo8 (x : Int32) : Int32 := x.toInt8.toInt32
theorem fits_lo8 (y : Int32) : fits .byte (.int (lo8 y)) = true := by
  have h1 := y.toInt8.le_toInt
  have h2 := y.toInt8.toInt_lt
  simp only [lo8, fits, Bool.and_eq_true, decide_eq_true_eq, Int32.le_iff_toInt_le, Int8.toInt_toInt32, show (-128 : Int32).toInt = -128 from by decide, show (127 : Int32).toInt = 127 from by decide]
  omega
/-- A' is A but that each place j of lo .. hi - 1 holds f j -/
def Laid (A A' : Cell) (lo hi : Nat) (f : Nat → Value) : Prop := A'.cls = A.cls ∧ A'.vm = A.vm ∧ A'.slots.size = A.slots.size ∧ ∀ i, A'.slots[i]? = if lo ≤ i ∧ i < hi then some (f i) else A.slots[i]?
theorem Laid.zero (A : Cell) (lo : Nat) (f : Nat → Value) : Laid A A lo (lo + 0) f := ⟨rfl, rfl, rfl, fun i => by rw [if_neg (by omega)]⟩
theorem Laid.step {A Ak : Cell} {lo k : Nat} {f : Nat → Value} {v : Value} (h : Laid A Ak lo k f) (hlo : lo ≤ k) (hk : k < Ak.slots.size) (hv : v = f k) : Laid A (Ak.setSlot k v) lo (k + 1) f := by
  refine ⟨h.1, h.2.1, by simpa [Cell.setSlot] using h.2.2.1, fun i => ?_⟩
  by_cases e : k = i
  · subst e; rw [Cell.slots_setSlot_self v hk, if_pos (by omega), hv]
  · rw [Cell.slots_setSlot_ne v e, h.2.2.2 i]
    by_cases q : lo ≤ i ∧ i < k
    · rw [if_pos q, if_pos (by omega)]
    · rw [if_neg q, if_neg (by omega)]
def U16 : String := "java/lang/StringUTF16"
namespace Cmp5
def yN : MethodName := ⟨"java/lang/StringUTF16", "compress", "([CI[BII)I"⟩
abbrev yB : ByteArray := jdk_52_method_21_code
theorem d0 : decode yB 0 = .ok (.iconst 0, 1) := by decide +kernel
theorem d1 : decode yB 1 = .ok (.istore 5, 2) := by decide +kernel
theorem d3 : decode yB 3 = .ok (.iload 5, 2) := by decide +kernel
theorem d5 : decode yB 5 = .ok (.iload 4, 2) := by decide +kernel
theorem d7 : decode yB 7 = .ok (.if_icmp (.ge) 37, 3) := by decide +kernel
theorem d10 : decode yB 10 = .ok (.aload_n 0, 1) := by decide +kernel
theorem d11 : decode yB 11 = .ok (.iload_n 1, 1) := by decide +kernel
theorem d12 : decode yB 12 = .ok (.caload, 1) := by decide +kernel
theorem d13 : decode yB 13 = .ok (.istore 6, 2) := by decide +kernel
theorem d15 : decode yB 15 = .ok (.iload 6, 2) := by decide +kernel
theorem d17 : decode yB 17 = .ok (.sipush 255, 3) := by decide +kernel
theorem d20 : decode yB 20 = .ok (.if_icmp (.le) 6, 3) := by decide +kernel
theorem d26 : decode yB 26 = .ok (.aload_n 2, 1) := by decide +kernel
theorem d27 : decode yB 27 = .ok (.iload_n 3, 1) := by decide +kernel
theorem d28 : decode yB 28 = .ok (.iload 6, 2) := by decide +kernel
theorem d30 : decode yB 30 = .ok (.i2b, 1) := by decide +kernel
theorem d31 : decode yB 31 = .ok (.bastore, 1) := by decide +kernel
theorem d32 : decode yB 32 = .ok (.iinc 1 1, 3) := by decide +kernel
theorem d35 : decode yB 35 = .ok (.iinc 3 1, 3) := by decide +kernel
theorem d38 : decode yB 38 = .ok (.iinc 5 1, 3) := by decide +kernel
theorem d41 : decode yB 41 = .ok (.goto (-38), 3) := by decide +kernel
theorem d44 : decode yB 44 = .ok (.iload 4, 2) := by decide +kernel
theorem d46 : decode yB 46 = .ok (.ireturn, 1) := by decide +kernel
def site : List Cond := []
def tab : Cond := tabOf yN yB 7 (some .int) site
def P (b : Addr) (A : Cell) (d : Addr) (B : Cell) (o q len : Nat) (args : Array Value) (s : State) : Prop := args = #[.ref b, .int (Int32.ofNat o), .ref d, .int (Int32.ofNat q), .int (Int32.ofNat len)] ∧ Ch b A s ∧ Arr .byte d B s ∧ b ≠ d ∧ o + len ≤ A.slots.size ∧ q + len ≤ B.slots.size ∧ ∀ i, i < len → ¬ 255 < cv A (o + i)
def E (b : Addr) (A : Cell) (d : Addr) (B : Cell) (o q len : Nat) (r : Option Value) (s u : State) : Prop := r = some (.int (Int32.ofNat len)) ∧ ∃ B', Put d B' s u ∧ Laid B B' q (q + len) (fun j => Value.int (lo8 (cv A (o + (j - q)))))
/-- no char of the range above 255: len; the places written hold each char's low byte -/
theorem law (l : Launch) (b : Addr) (A : Cell) (d : Addr) (B : Cell) (o q len : Nat) : Law l yN 5 5 0 0 yB 7 (some .int) site (P b A d B o q len) (E b A d B o q len) (copyLocs d q len) 0 0 := by
  refine Law.of_walk (plainFor_of_name (by decide +kernel)) (by decide +kernel) (by decide +kernel) (by decide) (fun _ _ h => by rw [h.1]; rfl) (fun _ U U' hal hh h => ⟨h.1, h.2.1.mv hal hh, h.2.2.1.mv hal hh, h.2.2.2⟩) (fun r U U' V V' h1 hal h2 h => ⟨h.1, h.2.elim fun B' q => ⟨B', q.1.mv h1 h2, q.2⟩⟩) ?_
  intro p e s m args below meth c s₁ X0 hexec hbytes hml hret hlk hnm hown hh0 W hP
  obtain ⟨rfl, hA, hB, hne, l1, l2, hp⟩ := hP
  have c1 : Steps p.tables e below (s₁.setTop (entryFrame m #[.ref b, .int (Int32.ofNat o), .ref d, .int (Int32.ofNat q), .int (Int32.ofNat len)] 7)) (s₁.setTop (mkF m 0 #[.val (.ref b), .val (.int (Int32.ofNat o)), .val (.ref d), .val (.int (Int32.ofNat q)), .val (.int (Int32.ofNat len)), .unset, .unset] [])) := entry rfl
  have hA0 := hA.1.mv X0.warmed.alike hh0
  have hB0 := hB.mv X0.warmed.alike hh0
  have a31 := hA.1.2.2.2
  have c2 : Steps p.tables e below (s₁.setTop (entryFrame m #[.ref b, .int (Int32.ofNat o), .ref d, .int (Int32.ofNat q), .int (Int32.ofNat len)] 7)) (s₁.setTop (mkF m 3 #[.val (.ref b), .val (.int (Int32.ofNat o)), .val (.ref d), .val (.int (Int32.ofNat q)), .val (.int (Int32.ofNat len)), .val (.int 0), .unset] [])) := c1.trans (by
    refine iconstV X0.here hexec rfl 0 (hb hbytes d0) (by decide) ?_
    refine XS.istore X0.here hexec rfl (hb hbytes d1) rfl rfl ?_
    exact Steps.refl _)
  have loop : ∀ (r i : Nat), i + r = len → ∀ (z : Slot), (z = .unset ∨ ∃ w, z = .val w ∧ w.category = 1) → ∀ (Tl : State) (Bk : Cell), Stand p l e { frames := 0, locals := 0, cells := 0, slots := 0 } s m #[.ref b, .int (Int32.ofNat o), .ref d, .int (Int32.ofNat q), .int (Int32.ofNat len)] below meth c Tl ([] ++ copyLocs d q i) 0 0 → Put d Bk s₁ Tl → Laid B Bk q (q + i) (fun j => Value.int (lo8 (cv A (o + (j - q))))) →
      Steps p.tables e below (s₁.setTop (entryFrame m #[.ref b, .int (Int32.ofNat o), .ref d, .int (Int32.ofNat q), .int (Int32.ofNat len)] 7)) (Tl.setTop (mkF m 3 #[.val (.ref b), .val (.int (Int32.ofNat (o + i))), .val (.ref d), .val (.int (Int32.ofNat (q + i))), .val (.int (Int32.ofNat len)), .val (.int (Int32.ofNat i)), z] [])) → ∃ (T' : State) (B' : Cell) (z' : Slot), Stand p l e { frames := 0, locals := 0, cells := 0, slots := 0 } s m #[.ref b, .int (Int32.ofNat o), .ref d, .int (Int32.ofNat q), .int (Int32.ofNat len)] below meth c T' ([] ++ copyLocs d q len) 0 0 ∧ Put d B' s₁ T' ∧ Laid B B' q (q + len) (fun j => Value.int (lo8 (cv A (o + (j - q))))) ∧
      Steps p.tables e below (s₁.setTop (entryFrame m #[.ref b, .int (Int32.ofNat o), .ref d, .int (Int32.ofNat q), .int (Int32.ofNat len)] 7)) (T'.setTop (mkF m 3 #[.val (.ref b), .val (.int (Int32.ofNat (o + len))), .val (.ref d), .val (.int (Int32.ofNat (q + len))), .val (.int (Int32.ofNat len)), .val (.int (Int32.ofNat len)), z'] [])) := by
    intro r
    induction r with
    | zero =>
      intro i hi z hz Tl Bk Xl pl fl cl
      have hil : i = len := by omega
      rw [hil] at Xl fl cl
      exact ⟨Tl, Bk, z, Xl, pl, fl, cl⟩
    | succ r ih =>
      intro i hi z hz Tl Bk Xl pl fl cl
      have all := X0.warmed.alike.symm.trans Xl.warmed.alike
      have hAl := hA0.keep all (pl.other hne hA0.1)
      have hBk := hB0.like all pl.1 fl.1 fl.2.1 fl.2.2.1
      have hlt : q + i < Bk.slots.size := by rw [fl.2.2.1]; omega
      have c3 : Steps p.tables e below (s₁.setTop (entryFrame m #[.ref b, .int (Int32.ofNat o), .ref d, .int (Int32.ofNat q), .int (Int32.ofNat len)] 7)) (Tl.setTop (mkF m 12 #[.val (.ref b), .val (.int (Int32.ofNat (o + i))), .val (.ref d), .val (.int (Int32.ofNat (q + i))), .val (.int (Int32.ofNat len)), .val (.int (Int32.ofNat i)), z] [.int (Int32.ofNat (o + i)), .ref b])) := cl.trans (by
        refine XS.iload Xl.here hexec rfl (hb hbytes d3) rfl ?_
        refine XS.iload Xl.here hexec rfl (hb hbytes d5) rfl ?_
        refine XS.icmpNo Xl.here hexec rfl (hb hbytes d7) rfl (ii_ge_f (lt32 (by omega) (by omega))) ?_
        refine XS.aloadN Xl.here hexec rfl (hb hbytes d10) rfl rfl ?_
        refine XS.iloadN Xl.here hexec rfl (hb hbytes d11) rfl ?_
        exact Steps.refl _)
      have c4 : Steps p.tables e below (s₁.setTop (entryFrame m #[.ref b, .int (Int32.ofNat o), .ref d, .int (Int32.ofNat q), .int (Int32.ofNat len)] 7)) (Tl.setTop (mkF m 13 #[.val (.ref b), .val (.int (Int32.ofNat (o + i))), .val (.ref d), .val (.int (Int32.ofNat (q + i))), .val (.int (Int32.ofNat len)), .val (.int (Int32.ofNat i)), z] [.int (cv A (o + i))])) := c3.trans (by
        refine Xl.aget hexec hAl rfl (hA.get (i := o + i) (by omega)) rfl rfl (hb hbytes d12) ?_
        exact Steps.refl _)
      have c5 : Steps p.tables e below (s₁.setTop (entryFrame m #[.ref b, .int (Int32.ofNat o), .ref d, .int (Int32.ofNat q), .int (Int32.ofNat len)] 7)) (Tl.setTop (mkF m 15 #[.val (.ref b), .val (.int (Int32.ofNat (o + i))), .val (.ref d), .val (.int (Int32.ofNat (q + i))), .val (.int (Int32.ofNat len)), .val (.int (Int32.ofNat i)), .val (.int (cv A (o + i)))] [])) := c4.trans (by
        refine XS.istoreS Xl.here hexec rfl (hb hbytes d13) rfl rfl hz ?_
        exact Steps.refl _)
      have c6 : Steps p.tables e below (s₁.setTop (entryFrame m #[.ref b, .int (Int32.ofNat o), .ref d, .int (Int32.ofNat q), .int (Int32.ofNat len)] 7)) (Tl.setTop (mkF m 31 #[.val (.ref b), .val (.int (Int32.ofNat (o + i))), .val (.ref d), .val (.int (Int32.ofNat (q + i))), .val (.int (Int32.ofNat len)), .val (.int (Int32.ofNat i)), .val (.int (cv A (o + i)))] [.int (lo8 (cv A (o + i))), .int (Int32.ofNat (q + i)), .ref d])) := c5.trans (by
        refine XS.iload Xl.here hexec rfl (hb hbytes d15) rfl ?_
        refine sipushV Xl.here hexec rfl 255 (hb hbytes d17) (by decide) ?_
        refine XS.icmpYes Xl.here hexec rfl (pc0 := 20) rfl (hb hbytes d20) rfl (ii_le_t (hp i (by omega))) (by decide) rfl ?_
        refine XS.aloadN Xl.here hexec rfl (hb hbytes d26) rfl rfl ?_
        refine XS.iloadN Xl.here hexec rfl (hb hbytes d27) rfl ?_
        refine XS.iload Xl.here hexec rfl (hb hbytes d28) rfl ?_
        refine i2b Xl.here hexec rfl (hb hbytes d30) rfl ?_
        exact Steps.refl _)
      obtain ⟨T7, X7, p7, st7⟩ := Xl.aput hexec hBk rfl hlt rfl (fits_lo8 (cv A (o + i))) (g := (mkF m 31 #[.val (.ref b), .val (.int (Int32.ofNat (o + i))), .val (.ref d), .val (.int (Int32.ofNat (q + i))), .val (.int (Int32.ofNat len)), .val (.int (Int32.ofNat i)), .val (.int (cv A (o + i)))] [.int (lo8 (cv A (o + i))), .int (Int32.ofNat (q + i)), .ref d])) rfl (rest := []) rfl (hb hbytes d31)
      have c8 : Steps p.tables e below (s₁.setTop (entryFrame m #[.ref b, .int (Int32.ofNat o), .ref d, .int (Int32.ofNat q), .int (Int32.ofNat len)] 7)) (T7.setTop (mkF m 32 #[.val (.ref b), .val (.int (Int32.ofNat (o + i))), .val (.ref d), .val (.int (Int32.ofNat (q + i))), .val (.int (Int32.ofNat len)), .val (.int (Int32.ofNat i)), .val (.int (cv A (o + i)))] [])) := c6.trans (st7 _ (Steps.refl _))
      have c9 : Steps p.tables e below (s₁.setTop (entryFrame m #[.ref b, .int (Int32.ofNat o), .ref d, .int (Int32.ofNat q), .int (Int32.ofNat len)] 7)) (T7.setTop (mkF m 3 #[.val (.ref b), .val (.int (Int32.ofNat (o + i) + 1)), .val (.ref d), .val (.int (Int32.ofNat (q + i) + 1)), .val (.int (Int32.ofNat len)), .val (.int (Int32.ofNat i + 1)), .val (.int (cv A (o + i)))] [])) := c8.trans (by
        refine iincV X7.here hexec rfl 1 (hb hbytes d32) (by decide) rfl rfl ?_
        refine iincV X7.here hexec rfl 1 (hb hbytes d35) (by decide) rfl rfl ?_
        refine iincV X7.here hexec rfl 1 (hb hbytes d38) (by decide) rfl rfl ?_
        refine XS.goto X7.here hexec rfl (pc0 := 41) rfl (hb hbytes d41) (by decide) rfl ?_
        exact Steps.refl _)
      have c10 : Steps p.tables e below (s₁.setTop (entryFrame m #[.ref b, .int (Int32.ofNat o), .ref d, .int (Int32.ofNat q), .int (Int32.ofNat len)] 7)) (T7.setTop (mkF m 3 #[.val (.ref b), .val (.int (Int32.ofNat (o + (i + 1)))), .val (.ref d), .val (.int (Int32.ofNat (q + (i + 1)))), .val (.int (Int32.ofNat len)), .val (.int (Int32.ofNat (i + 1))), .val (.int (cv A (o + i)))] [])) := by
        have := c9
        rw [succ32, succ32, succ32] at this
        exact this
      exact ih (i + 1) (by omega) _ (Or.inr ⟨_, rfl, rfl⟩) T7 _ (by rw [copyLocs_step, ← List.append_assoc]; exact X7) (pl.trans p7) (fl.step (by omega) hlt (by simp)) c10
  obtain ⟨T9, B9, z9, X9, p9, f9, g9⟩ := loop len 0 (by omega) .unset (Or.inl rfl) s₁ B (by simpa [copyLocs] using X0) ⟨hB0.1, fun _ _ => rfl, rfl⟩ (Laid.zero _ _ _) c2
  have c11 : Steps p.tables e below (s₁.setTop (entryFrame m #[.ref b, .int (Int32.ofNat o), .ref d, .int (Int32.ofNat q), .int (Int32.ofNat len)] 7)) (T9.setTop (mkF m 46 #[.val (.ref b), .val (.int (Int32.ofNat (o + len))), .val (.ref d), .val (.int (Int32.ofNat (q + len))), .val (.int (Int32.ofNat len)), .val (.int (Int32.ofNat len)), z9] [.int (Int32.ofNat len)])) := g9.trans (by
    refine XS.iload X9.here hexec rfl (hb hbytes d3) rfl ?_
    refine XS.iload X9.here hexec rfl (hb hbytes d5) rfl ?_
    refine XS.icmpYes X9.here hexec rfl (pc0 := 7) rfl (hb hbytes d7) rfl (ii_ge_t (nlt32 (by omega) (Nat.le_refl _))) (by decide) rfl ?_
    refine XS.iload X9.here hexec rfl (hb hbytes d44) rfl ?_
    exact Steps.refl _)
  exact ⟨T9, some (.int (Int32.ofNat len)), _, _, _, X9, by simp, rfl, rfl, (fun h => by cases h), ⟨rfl, B9, p9.from hh0, f9⟩, fun fs hl => c11.trans (X9.ireturnOut hexec hret rfl (Or.inl rfl) (hb hbytes d46) hl)⟩
end Cmp5
namespace Cmp3
def yN : MethodName := ⟨"java/lang/StringUTF16", "compress", "([CII)[B"⟩
abbrev yB : ByteArray := jdk_52_method_16_code
theorem d0 : decode yB 0 = .ok (.iload_n 2, 1) := by decide +kernel
theorem d1 : decode yB 1 = .ok (.newarray .byte, 2) := by decide +kernel
theorem d3 : decode yB 3 = .ok (.astore_n 3, 1) := by decide +kernel
theorem d4 : decode yB 4 = .ok (.aload_n 0, 1) := by decide +kernel
theorem d5 : decode yB 5 = .ok (.iload_n 1, 1) := by decide +kernel
theorem d6 : decode yB 6 = .ok (.aload_n 3, 1) := by decide +kernel
theorem d7 : decode yB 7 = .ok (.iconst 0, 1) := by decide +kernel
theorem d8 : decode yB 8 = .ok (.iload_n 2, 1) := by decide +kernel
theorem d9 : decode yB 9 = .ok (.invokestatic 115, 3) := by decide +kernel
theorem d12 : decode yB 12 = .ok (.istore 4, 2) := by decide +kernel
theorem d14 : decode yB 14 = .ok (.iload 4, 2) := by decide +kernel
theorem d16 : decode yB 16 = .ok (.iload_n 2, 1) := by decide +kernel
theorem d17 : decode yB 17 = .ok (.if_icmp (.eq) 40, 3) := by decide +kernel
theorem d57 : decode yB 57 = .ok (.aload_n 3, 1) := by decide +kernel
theorem d58 : decode yB 58 = .ok (.areturn, 1) := by decide +kernel
def site : List Cond := [.arrayClass .byte, Cmp5.tab] ++ staticW U16 115 Cmp5.yN
def tab : Cond := tabOf yN yB 6 (some (.array .byte)) site
def P (b : Addr) (A : Cell) (o len : Nat) (args : Array Value) (s : State) : Prop := args = #[.ref b, .int (Int32.ofNat o), .int (Int32.ofNat len)] ∧ Ch b A s ∧ o + len ≤ A.slots.size ∧ len ≤ 536870912 ∧ ∀ i, i < len → ¬ 255 < cv A (o + i)
def E (b : Addr) (A : Cell) (o len : Nat) (r : Option Value) (s u : State) : Prop := NewArr .byte "[B" len (fun j => .int (lo8 (cv A (o + j)))) r s u ∧ u.heap.size = s.heap.size + 1
/-- no char of the range above 255: a new byte[] of their low bytes -/
theorem law (l : Launch) (b : Addr) (A : Cell) (o len : Nat) : Law l yN 3 3 1 18 yB 6 (some (.array .byte)) site (P b A o len) (E b A o len) [] 1 len := by
  refine Law.of_walk (plainFor_of_name (by decide +kernel)) (by decide +kernel) (by decide +kernel) (by decide) (fun _ _ h => by rw [h.1]; rfl) (fun _ U U' hal hh h => ⟨h.1, h.2.1.mv hal hh, h.2.2⟩) (fun r U U' V V' h1 hal h2 h => ⟨NewArr.mv r U U' V V' h1 hal h2 h.1, by rw [h1, h2]; exact h.2⟩) ?_
  intro p e s m args below meth c s₁ X0 hexec hbytes hml hret hlk hnm hown hh0 W hP
  obtain ⟨rfl, hA, l1, l2, hp⟩ := hP
  have a31 := hA.1.2.2.2
  have c1 : Steps p.tables e below (s₁.setTop (entryFrame m #[.ref b, .int (Int32.ofNat o), .int (Int32.ofNat len)] 6)) (s₁.setTop (mkF m 0 #[.val (.ref b), .val (.int (Int32.ofNat o)), .val (.int (Int32.ofNat len)), .unset, .unset, .unset] [])) := entry rfl
  have c2 : Steps p.tables e below (s₁.setTop (entryFrame m #[.ref b, .int (Int32.ofNat o), .int (Int32.ofNat len)] 6)) (s₁.setTop (mkF m 1 #[.val (.ref b), .val (.int (Int32.ofNat o)), .val (.int (Int32.ofNat len)), .unset, .unset, .unset] [.int (Int32.ofNat len)])) := c1.trans (by
    refine XS.iloadN X0.here hexec rfl (hb hbytes d0) rfl ?_
    exact Steps.refl _)
  obtain ⟨T3, B3, X3, ba3, bs3, bv3, bh3, bf3, st3⟩ := X0.anew hexec (atype := .byte) (wk W (.arrayClass .byte)) rfl (by show len * 1 ≤ _; omega) (by omega) (g := (mkF m 1 #[.val (.ref b), .val (.int (Int32.ofNat o)), .val (.int (Int32.ofNat len)), .unset, .unset, .unset] [.int (Int32.ofNat len)])) rfl (hb hbytes d1) (rest := []) rfl (Nat.le_refl _) (by show 0 + len ≤ len; omega)
  rw [hh0] at ba3 st3
  have kp3 : XT.Kept s T3 := (XT.Kept.of_eq hh0).push bh3
  have hA3 := hA.keep X3.warmed.alike (kp3 _ _ hA.1.1)
  have hne : b ≠ s.heap.size := hA.1.ne
  have c4 : Steps p.tables e below (s₁.setTop (entryFrame m #[.ref b, .int (Int32.ofNat o), .int (Int32.ofNat len)] 6)) (T3.setTop (mkF m 3 #[.val (.ref b), .val (.int (Int32.ofNat o)), .val (.int (Int32.ofNat len)), .unset, .unset, .unset] [.ref s.heap.size])) := c2.trans (st3 _ (Steps.refl _))
  have c5 : Steps p.tables e below (s₁.setTop (entryFrame m #[.ref b, .int (Int32.ofNat o), .int (Int32.ofNat len)] 6)) (T3.setTop (mkF m 9 #[.val (.ref b), .val (.int (Int32.ofNat o)), .val (.int (Int32.ofNat len)), .val (.ref s.heap.size), .unset, .unset] [.int (Int32.ofNat len), .int 0, .ref s.heap.size, .int (Int32.ofNat o), .ref b])) := c4.trans (by
    refine XS.astoreN X3.here hexec rfl (hb hbytes d3) rfl rfl rfl ?_
    refine XS.aloadN X3.here hexec rfl (hb hbytes d4) rfl rfl ?_
    refine XS.iloadN X3.here hexec rfl (hb hbytes d5) rfl ?_
    refine XS.aloadN X3.here hexec rfl (hb hbytes d6) rfl rfl ?_
    refine iconstV X3.here hexec rfl 0 (hb hbytes d7) (by decide) ?_
    refine XS.iloadN X3.here hexec rfl (hb hbytes d8) rfl ?_
    exact Steps.refl _)
  obtain ⟨v6, T6, X6, E6, g6⟩ := X3.callS hexec (Cmp5.law l b A s.heap.size B3 o 0 len) hown (wks W (staticW U16 115 Cmp5.yN)) (wk W Cmp5.tab) (W := 0) (Nat.le_of_ble_eq_true rfl) (Nat.le_of_ble_eq_true rfl) (Nat.le_refl _) (by show 0 + len + 0 ≤ len; omega) (g := (mkF m 9 #[.val (.ref b), .val (.int (Int32.ofNat o)), .val (.int (Int32.ofNat len)), .val (.ref s.heap.size), .unset, .unset] [.int (Int32.ofNat len), .int (Int32.ofNat 0), .ref s.heap.size, .int (Int32.ofNat o), .ref b])) rfl (by rw [hml]; rfl) c5 (argsL := [.ref b, .int (Int32.ofNat o), .ref s.heap.size, .int (Int32.ofNat 0), .int (Int32.ofNat len)]) (rest := []) rfl rfl (by show 2 * 0 + 0 ≤ _; decide) (hb hbytes d9) (⟨rfl, hA3, ba3, hne, l1, by rw [bs3]; simp, hp⟩)
  obtain ⟨rfl, B6, p6, f6⟩ := E6
  have c7 : Steps p.tables e below (s₁.setTop (entryFrame m #[.ref b, .int (Int32.ofNat o), .int (Int32.ofNat len)] 6)) (T6.setTop (mkF m 12 #[.val (.ref b), .val (.int (Int32.ofNat o)), .val (.int (Int32.ofNat len)), .val (.ref s.heap.size), .unset, .unset] [.int (Int32.ofNat len)])) := g6
  have c8 : Steps p.tables e below (s₁.setTop (entryFrame m #[.ref b, .int (Int32.ofNat o), .int (Int32.ofNat len)] 6)) (T6.setTop (mkF m 58 #[.val (.ref b), .val (.int (Int32.ofNat o)), .val (.int (Int32.ofNat len)), .val (.ref s.heap.size), .val (.int (Int32.ofNat len)), .unset] [.ref s.heap.size])) := c7.trans (by
    refine XS.istore X6.here hexec rfl (hb hbytes d12) rfl rfl ?_
    refine XS.iload X6.here hexec rfl (hb hbytes d14) rfl ?_
    refine XS.iloadN X6.here hexec rfl (hb hbytes d16) rfl ?_
    refine XS.icmpYes X6.here hexec rfl (pc0 := 17) rfl (hb hbytes d17) rfl (ii_eq_t rfl) (by decide) rfl ?_
    refine XS.aloadN X6.here hexec rfl (hb hbytes d57) rfl rfl ?_
    exact Steps.refl _)
  have X8 := X6.wide (L' := []) (cells' := 1) (slots' := len) (fun x hx hlt => by
    simp only [List.nil_append, copyLocs, List.mem_map, List.mem_range] at hx
    obtain ⟨i, -, rfl⟩ := hx
    exact absurd hlt (Nat.lt_irrefl _)) (Nat.le_refl _) (by omega)
  exact ⟨T6, some (.ref s.heap.size), _, _, _, X8, rfl, rfl, rfl, (fun h => by cases h), ⟨⟨rfl, B6, ba3.like (X3.warmed.alike.symm.trans X6.warmed.alike) p6.1 f6.1 f6.2.1 f6.2.2.1, f6.2.1.trans bv3, by rw [X6.warmed.alike.findClass, f6.1]; exact bf3, by rw [f6.2.2.1, bs3]; simp, fun j hj => by rw [f6.2.2.2 j, if_pos (by omega)]; rfl, kp3.put p6 (Nat.le_refl _)⟩, by rw [p6.2.2, bh3, hh0]; simp⟩, fun fs hl => c8.trans (X8.areturnOut hexec rfl hret rfl (hb hbytes d58) hl)⟩
end Cmp3
namespace CodL
def yN : MethodName := ⟨"java/lang/StringUTF16", "coderFromArrayLen", "([BI)B"⟩
abbrev yB : ByteArray := jdk_52_method_15_code
theorem d0 : decode yB 0 = .ok (.iload_n 1, 1) := by decide +kernel
theorem d1 : decode yB 1 = .ok (.aload_n 0, 1) := by decide +kernel
theorem d2 : decode yB 2 = .ok (.arraylength, 1) := by decide +kernel
theorem d3 : decode yB 3 = .ok (.isub, 1) := by decide +kernel
theorem d4 : decode yB 4 = .ok (.bipush 31, 2) := by decide +kernel
theorem d6 : decode yB 6 = .ok (.iushr, 1) := by decide +kernel
theorem d7 : decode yB 7 = .ok (.i2b, 1) := by decide +kernel
theorem d8 : decode yB 8 = .ok (.ireturn, 1) := by decide +kernel
def site : List Cond := []
def tab : Cond := tabOf yN yB 2 (some .byte) site
def P (d : Addr) (B : Cell) (args : Array Value) (s : State) : Prop := args = #[.ref d, .int (Int32.ofNat B.slots.size)] ∧ Arr .byte d B s
def E (r : Option Value) (s u : State) : Prop := XT.PureE (some (.int 0)) r s u
/-- an array as long as the number of chars: LATIN1 -/
theorem law (l : Launch) (d : Addr) (B : Cell) : Law l yN 2 2 0 0 yB 2 (some .byte) site (P d B) E [] 0 0 := by
  refine Law.of_walk (plainFor_of_name (by decide +kernel)) (by decide +kernel) (by decide +kernel) (by decide) (fun _ _ h => by rw [h.1]; rfl) (fun _ U U' hal hh h => ⟨h.1, h.2.mv hal hh⟩) (fun r U U' V V' h1 hal h2 h => XT.PureE.mv r U U' V V' h1 hal h2 h) ?_
  intro p e s m args below meth c s₁ X0 hexec hbytes hml hret hlk hnm hown hh0 W hP
  obtain ⟨rfl, hB⟩ := hP
  have hB0 := hB.mv X0.warmed.alike hh0
  have c1 : Steps p.tables e below (s₁.setTop (entryFrame m #[.ref d, .int (Int32.ofNat B.slots.size)] 2)) (s₁.setTop (mkF m 0 #[.val (.ref d), .val (.int (Int32.ofNat B.slots.size))] [])) := entry rfl
  have c2 : Steps p.tables e below (s₁.setTop (entryFrame m #[.ref d, .int (Int32.ofNat B.slots.size)] 2)) (s₁.setTop (mkF m 2 #[.val (.ref d), .val (.int (Int32.ofNat B.slots.size))] [.ref d, .int (Int32.ofNat B.slots.size)])) := c1.trans (by
    refine XS.iloadN X0.here hexec rfl (hb hbytes d0) rfl ?_
    refine XS.aloadN X0.here hexec rfl (hb hbytes d1) rfl rfl ?_
    exact Steps.refl _)
  have c3 : Steps p.tables e below (s₁.setTop (entryFrame m #[.ref d, .int (Int32.ofNat B.slots.size)] 2)) (s₁.setTop (mkF m 8 #[.val (.ref d), .val (.int (Int32.ofNat B.slots.size))] [.int (lo8 (ushr (Int32.ofNat B.slots.size - Int32.ofNat B.slots.size) 31))])) := c2.trans (by
    refine X0.alen hexec hB0 rfl rfl (hb hbytes d2) ?_
    refine XS.isub X0.here hexec rfl (hb hbytes d3) rfl ?_
    refine bipushV X0.here hexec rfl 31 (hb hbytes d4) (by decide) ?_
    refine iushr X0.here hexec rfl (hb hbytes d6) rfl ?_
    refine i2b X0.here hexec rfl (hb hbytes d7) rfl ?_
    exact Steps.refl _)
  have e0 : lo8 (ushr (Int32.ofNat B.slots.size - Int32.ofNat B.slots.size) 31) = 0 := by rw [Int32.sub_self]; decide
  rw [e0] at c3
  exact ⟨s₁, some (.int 0), _, _, _, X0, rfl, rfl, rfl, (fun h => by cases h), ⟨rfl, hh0⟩, fun fs hl => c3.trans (X0.ireturnOut hexec hret rfl (Or.inr (Or.inr (Or.inl rfl))) (hb hbytes d8) hl)⟩
end CodL
/-- the String at a is Latin-1 over a new byte[] (the heap's one new cell): the low bytes of the len chars of A from o on; every cell but a is kept -/
def Got (a : Addr) (D : Cell) (fV fC : Field) (A : Cell) (o len : Nat) (r : Option Value) (s u : State) : Prop := r = none ∧ ∃ D' V : Cell, Blank "java/lang/String" a D' u ∧ Same D D' [fV.slot, fC.slot] ∧ D'.slots[fV.slot]? = some (.ref s.heap.size) ∧ D'.slots[fC.slot]? = some (.int 0) ∧ Arr .byte s.heap.size V u ∧ V.vm = .none ∧ u.vm.findClass "[B" = some V.cls ∧ V.slots.size = len ∧ (∀ j, j < len → V.slots[j]? = some (.int (lo8 (cv A (o + j))))) ∧ (∀ (y : Addr) (c : Cell), y ≠ a → s.heap[y]? = some c → u.heap[y]? = some c) ∧ u.heap.size = s.heap.size + 1
theorem Got.mv {a : Addr} {D A : Cell} {fV fC : Field} {o len : Nat} : ∀ r (U U' V V' : State), U'.heap = U.heap → V.vm.Alike V'.vm → V'.heap = V.heap → Got a D fV fC A o len r U V → Got a D fV fC A o len r U' V' :=
  fun r U U' V V' h1 hal h2 ⟨e0, D', X, a1, a2, a3, a4, a5, a6, a7, a8, a9, a10, a11⟩ => ⟨e0, D', X, a1.mv hal h2, a2, by rw [h1]; exact a3, a4, by rw [h1]; exact a5.mv hal h2, a6, by rw [hal.findClass]; exact a7, a8, a9, by rw [h1, h2]; exact a10, by rw [h1, h2]; exact a11⟩
namespace New4
def yN : MethodName := ⟨"java/lang/String", "<init>", "([CIILjava/lang/Void;)V"⟩
abbrev yB : ByteArray := jdk_42_method_149_code
theorem d0 : decode yB 0 = .ok (.aload_n 0, 1) := by decide +kernel
theorem d1 : decode yB 1 = .ok (.invokespecial 1, 3) := by decide +kernel
theorem d4 : decode yB 4 = .ok (.iload_n 3, 1) := by decide +kernel
theorem d5 : decode yB 5 = .ok (.ifCond (.ne) 22, 3) := by decide +kernel
theorem d27 : decode yB 27 = .ok (.getstatic 38, 3) := by decide +kernel
theorem d30 : decode yB 30 = .ok (.ifCond (.eq) 28, 3) := by decide +kernel
theorem d33 : decode yB 33 = .ok (.aload_n 1, 1) := by decide +kernel
theorem d34 : decode yB 34 = .ok (.iload_n 2, 1) := by decide +kernel
theorem d35 : decode yB 35 = .ok (.iload_n 3, 1) := by decide +kernel
theorem d36 : decode yB 36 = .ok (.invokestatic 177, 3) := by decide +kernel
theorem d39 : decode yB 39 = .ok (.astore 5, 2) := by decide +kernel
theorem d41 : decode yB 41 = .ok (.aload_n 0, 1) := by decide +kernel
theorem d42 : decode yB 42 = .ok (.aload 5, 2) := by decide +kernel
theorem d44 : decode yB 44 = .ok (.iload_n 3, 1) := by decide +kernel
theorem d45 : decode yB 45 = .ok (.invokestatic 47, 3) := by decide +kernel
theorem d48 : decode yB 48 = .ok (.putfield 15, 3) := by decide +kernel
theorem d51 : decode yB 51 = .ok (.aload_n 0, 1) := by decide +kernel
theorem d52 : decode yB 52 = .ok (.aload 5, 2) := by decide +kernel
theorem d54 : decode yB 54 = .ok (.putfield 9, 3) := by decide +kernel
theorem d57 : decode yB 57 = .ok (.return_, 1) := by decide +kernel
def site : List Cond := [.fieldLink "java/lang/String" 38 "java/lang/String" "COMPACT_STRINGS" "Z", Cmp3.tab, CodL.tab, .laysFinal "java/lang/String" "java/lang/String" "value" "[B", .fieldLink "java/lang/String" 9 "java/lang/String" "value" "[B", .laysFinal "java/lang/String" "java/lang/String" "coder" "B", .fieldLink "java/lang/String" 15 "java/lang/String" "coder" "B"] ++ objW "java/lang/String" 1 ++ staticW "java/lang/String" 177 Cmp3.yN ++ staticW "java/lang/String" 47 CodL.yN
def tab : Cond := tabOf yN yB 6 none site
def P (a : Addr) (D : Cell) (fV fC : Field) (b : Addr) (A : Cell) (z : Int32) (o len : Nat) (args : Array Value) (s : State) : Prop := args = #[.ref a, .ref b, .int (Int32.ofNat o), .int (Int32.ofNat len), .null] ∧ Blank "java/lang/String" a D s ∧ Found "java/lang/String" "value" "[B" fV s ∧ Found "java/lang/String" "coder" "B" fC s ∧ Ch b A s ∧ StaticIs s "java/lang/String" "COMPACT_STRINGS" "Z" (.int z) ∧ ¬ z = 0 ∧ 0 < len ∧ o + len ≤ A.slots.size ∧ len ≤ 536870912 ∧ ∀ i, i < len → ¬ 255 < cv A (o + i)
def E (a : Addr) (D : Cell) (fV fC : Field) (A : Cell) (o len : Nat) (r : Option Value) (s u : State) : Prop := Got a D fV fC A o len r s u
/-- len > 0, no char of the range above 255: a Latin-1 String of their low bytes -/
theorem law (l : Launch) (a : Addr) (D : Cell) (fV fC : Field) (b : Addr) (A : Cell) (z : Int32) (o len : Nat) : Law l yN 5 4 2 35 yB 6 none site (P a D fV fC b A z o len) (E a D fV fC A o len) [⟨a, fC.slot⟩, ⟨a, fV.slot⟩] 1 len := by
  refine Law.of_walk (plainFor_of_name (by decide +kernel)) (by decide +kernel) (by decide +kernel) (by decide) (fun _ _ h => by rw [h.1]; rfl) (fun _ U U' hal hh h => ⟨h.1, h.2.1.mv hal hh, h.2.2.1.al hal, h.2.2.2.1.al hal, h.2.2.2.2.1.mv hal hh, h.2.2.2.2.2.1.there hal hh, h.2.2.2.2.2.2⟩) (fun r U U' V V' h1 hal h2 h => Got.mv r U U' V V' h1 hal h2 h) ?_
  intro p e s m args below meth c s₁ X0 hexec hbytes hml hret hlk hnm hown hh0 W hP
  obtain ⟨rfl, hB, f1, f2, hA, s1, hz, l0, l1, l2, hp⟩ := hP
  have a31 := hA.1.2.2.2
  have c1 : Steps p.tables e below (s₁.setTop (entryFrame m #[.ref a, .ref b, .int (Int32.ofNat o), .int (Int32.ofNat len), .null] 6)) (s₁.setTop (mkF m 0 #[.val (.ref a), .val (.ref b), .val (.int (Int32.ofNat o)), .val (.int (Int32.ofNat len)), .val .null, .unset] [])) := entry rfl
  have c2 : Steps p.tables e below (s₁.setTop (entryFrame m #[.ref a, .ref b, .int (Int32.ofNat o), .int (Int32.ofNat len), .null] 6)) (s₁.setTop (mkF m 1 #[.val (.ref a), .val (.ref b), .val (.int (Int32.ofNat o)), .val (.int (Int32.ofNat len)), .val .null, .unset] [.ref a])) := c1.trans (by
    refine XS.aloadN X0.here hexec rfl (hb hbytes d0) rfl rfl ?_
    exact Steps.refl _)
  obtain ⟨T3, X3, q3, st3⟩ := X0.oinit hexec hown (wks W (objW "java/lang/String" 1)) (g := (mkF m 1 #[.val (.ref a), .val (.ref b), .val (.int (Int32.ofNat o)), .val (.int (Int32.ofNat len)), .val .null, .unset] [.ref a])) rfl (by rw [hml]; rfl) (rest := []) rfl (hb hbytes d1) (W := 0) (by show 2 * 0 + 0 ≤ _; decide) (Nat.le_of_ble_eq_true rfl) (Nat.le_of_ble_eq_true rfl)
  have hh3 := q3.trans hh0
  have c4 : Steps p.tables e below (s₁.setTop (entryFrame m #[.ref a, .ref b, .int (Int32.ofNat o), .int (Int32.ofNat len), .null] 6)) (T3.setTop (mkF m 27 #[.val (.ref a), .val (.ref b), .val (.int (Int32.ofNat o)), .val (.int (Int32.ofNat len)), .val .null, .unset] [])) := (c2.trans (st3 _ (Steps.refl _))).trans (by
    refine XS.iloadN X3.here hexec rfl (hb hbytes d4) rfl ?_
    refine XS.ifYes X3.here hexec rfl (pc0 := 5) rfl (hb hbytes d5) rfl (i0_ne_t (nz32 (by omega) l0)) (by decide) rfl ?_
    exact Steps.refl _)
  obtain ⟨T5, X5, q5, st5⟩ := X3.sget hexec hown (wk W (.fieldLink "java/lang/String" 38 "java/lang/String" "COMPACT_STRINGS" "Z")) s1 (fun _ _ h => by rw [hh3]; exact h) (g := (mkF m 27 #[.val (.ref a), .val (.ref b), .val (.int (Int32.ofNat o)), .val (.int (Int32.ofNat len)), .val .null, .unset] [])) rfl (hb hbytes d27)
  have hh5 := q5.trans hh3
  have c6 : Steps p.tables e below (s₁.setTop (entryFrame m #[.ref a, .ref b, .int (Int32.ofNat o), .int (Int32.ofNat len), .null] 6)) (T5.setTop (mkF m 30 #[.val (.ref a), .val (.ref b), .val (.int (Int32.ofNat o)), .val (.int (Int32.ofNat len)), .val .null, .unset] [.int z])) := c4.trans (st5 _ (Steps.refl _))
  have c7 : Steps p.tables e below (s₁.setTop (entryFrame m #[.ref a, .ref b, .int (Int32.ofNat o), .int (Int32.ofNat len), .null] 6)) (T5.setTop (mkF m 36 #[.val (.ref a), .val (.ref b), .val (.int (Int32.ofNat o)), .val (.int (Int32.ofNat len)), .val .null, .unset] [.int (Int32.ofNat len), .int (Int32.ofNat o), .ref b])) := c6.trans (by
    refine XS.ifNo X5.here hexec rfl (hb hbytes d30) rfl (i0_eq_f hz) ?_
    refine XS.aloadN X5.here hexec rfl (hb hbytes d33) rfl rfl ?_
    refine XS.iloadN X5.here hexec rfl (hb hbytes d34) rfl ?_
    refine XS.iloadN X5.here hexec rfl (hb hbytes d35) rfl ?_
    exact Steps.refl _)
  obtain ⟨v8, T8, X8, E8, g8⟩ := X5.callS hexec (Cmp3.law l b A o len) hown (wks W (staticW "java/lang/String" 177 Cmp3.yN)) (wk W Cmp3.tab) (W := 0) (Nat.le_of_ble_eq_true rfl) (Nat.le_of_ble_eq_true rfl) (Nat.le_refl _) (by show 0 + len ≤ len; omega) (g := (mkF m 36 #[.val (.ref a), .val (.ref b), .val (.int (Int32.ofNat o)), .val (.int (Int32.ofNat len)), .val .null, .unset] [.int (Int32.ofNat len), .int (Int32.ofNat o), .ref b])) rfl (by rw [hml]; rfl) c7 (argsL := [.ref b, .int (Int32.ofNat o), .int (Int32.ofNat len)]) (rest := []) rfl rfl (by show 2 * 0 + 0 ≤ _; decide) (hb hbytes d36) (⟨rfl, hA.mv X5.warmed.alike hh5, l1, l2, hp⟩)
  obtain ⟨e8, z8⟩ := E8
  obtain ⟨rfl, N, n1, n2, n3, n4, n5, n6⟩ := NewArr.mv _ T5 s _ _ hh5.symm (Vm.Alike.refl _) rfl e8
  rw [hh5] at z8
  have hB1 := hB.keep X8.warmed.alike (n6 _ _ hB.1)
  have hne : s.heap.size ≠ a := (Nat.ne_of_lt (Array.getElem?_eq_some_iff.mp hB.1).1).symm
  have c9 : Steps p.tables e below (s₁.setTop (entryFrame m #[.ref a, .ref b, .int (Int32.ofNat o), .int (Int32.ofNat len), .null] 6)) (T8.setTop (mkF m 39 #[.val (.ref a), .val (.ref b), .val (.int (Int32.ofNat o)), .val (.int (Int32.ofNat len)), .val .null, .unset] [.ref s.heap.size])) := g8
  have c10 : Steps p.tables e below (s₁.setTop (entryFrame m #[.ref a, .ref b, .int (Int32.ofNat o), .int (Int32.ofNat len), .null] 6)) (T8.setTop (mkF m 45 #[.val (.ref a), .val (.ref b), .val (.int (Int32.ofNat o)), .val (.int (Int32.ofNat len)), .val .null, .val (.ref s.heap.size)] [.int (Int32.ofNat N.slots.size), .ref s.heap.size, .ref a])) := by
    have hc : Steps p.tables e below (s₁.setTop (entryFrame m #[.ref a, .ref b, .int (Int32.ofNat o), .int (Int32.ofNat len), .null] 6)) (T8.setTop (mkF m 45 #[.val (.ref a), .val (.ref b), .val (.int (Int32.ofNat o)), .val (.int (Int32.ofNat len)), .val .null, .val (.ref s.heap.size)] [.int (Int32.ofNat len), .ref s.heap.size, .ref a])) := c9.trans (by
      refine XS.astore X8.here hexec rfl (hb hbytes d39) rfl rfl rfl ?_
      refine XS.aloadN X8.here hexec rfl (hb hbytes d41) rfl rfl ?_
      refine XS.aload X8.here hexec rfl (hb hbytes d42) rfl rfl ?_
      refine XS.iloadN X8.here hexec rfl (hb hbytes d44) rfl ?_
      exact Steps.refl _)
    rw [n4]; exact hc
  obtain ⟨v11, T11, X11, E11, g11⟩ := X8.callS hexec (CodL.law l s.heap.size N) hown (wks W (staticW "java/lang/String" 47 CodL.yN)) (wk W CodL.tab) (W := 1) (Nat.le_of_ble_eq_true rfl) (Nat.le_of_ble_eq_true rfl) (Nat.le_refl _) (by show 0 + len + 0 ≤ len; omega) (g := (mkF m 45 #[.val (.ref a), .val (.ref b), .val (.int (Int32.ofNat o)), .val (.int (Int32.ofNat len)), .val .null, .val (.ref s.heap.size)] [.int (Int32.ofNat N.slots.size), .ref s.heap.size, .ref a])) rfl (by rw [hml]; rfl) c10 (argsL := [.ref s.heap.size, .int (Int32.ofNat N.slots.size)]) (rest := [.ref a]) rfl rfl (by show 2 * 0 + (1 + 0) ≤ _; decide) (hb hbytes d45) (⟨rfl, n1⟩)
  obtain ⟨rfl, q11⟩ := E11
  have hB11 := hB1.mv (X8.warmed.alike.symm.trans X11.warmed.alike) q11
  have c12 : Steps p.tables e below (s₁.setTop (entryFrame m #[.ref a, .ref b, .int (Int32.ofNat o), .int (Int32.ofNat len), .null] 6)) (T11.setTop (mkF m 48 #[.val (.ref a), .val (.ref b), .val (.int (Int32.ofNat o)), .val (.int (Int32.ofNat len)), .val .null, .val (.ref s.heap.size)] [.int 0, .ref a])) := g11
  obtain ⟨T13, X13, p13, bl13, sl13, st13⟩ := X11.finit hexec hown (wk W (.fieldLink "java/lang/String" 15 "java/lang/String" "coder" "B")) (Or.inr ⟨_, (wk W (.laysFinal "java/lang/String" "java/lang/String" "coder" "B"))⟩) (Or.inl ⟨rfl, hnm⟩) f2 (Or.inl rfl) hB11 (t := .byte) (by decide +kernel) rfl (g := (mkF m 48 #[.val (.ref a), .val (.ref b), .val (.int (Int32.ofNat o)), .val (.int (Int32.ofNat len)), .val .null, .val (.ref s.heap.size)] [.int 0, .ref a])) rfl (rest := []) rfl (hb hbytes d48)
  have c14 : Steps p.tables e below (s₁.setTop (entryFrame m #[.ref a, .ref b, .int (Int32.ofNat o), .int (Int32.ofNat len), .null] 6)) (T13.setTop (mkF m 54 #[.val (.ref a), .val (.ref b), .val (.int (Int32.ofNat o)), .val (.int (Int32.ofNat len)), .val .null, .val (.ref s.heap.size)] [.ref s.heap.size, .ref a])) := (c12.trans (st13 _ (Steps.refl _))).trans (by
    refine XS.aloadN X13.here hexec rfl (hb hbytes d51) rfl rfl ?_
    refine XS.aload X13.here hexec rfl (hb hbytes d52) rfl rfl ?_
    exact Steps.refl _)
  obtain ⟨T15, X15, p15, bl15, sl15, st15⟩ := X13.finit hexec hown (wk W (.fieldLink "java/lang/String" 9 "java/lang/String" "value" "[B")) (Or.inr ⟨_, (wk W (.laysFinal "java/lang/String" "java/lang/String" "value" "[B"))⟩) (Or.inl ⟨rfl, hnm⟩) f1 (Or.inl rfl) bl13 (t := (.array .byte)) (by decide +kernel) rfl (g := (mkF m 54 #[.val (.ref a), .val (.ref b), .val (.int (Int32.ofNat o)), .val (.int (Int32.ofNat len)), .val .null, .val (.ref s.heap.size)] [.ref s.heap.size, .ref a])) rfl (rest := []) rfl (hb hbytes d54)
  have c16 : Steps p.tables e below (s₁.setTop (entryFrame m #[.ref a, .ref b, .int (Int32.ofNat o), .int (Int32.ofNat len), .null] 6)) (T15.setTop (mkF m 57 #[.val (.ref a), .val (.ref b), .val (.int (Int32.ofNat o)), .val (.int (Int32.ofNat len)), .val .null, .val (.ref s.heap.size)] [])) := c14.trans (st15 _ (Steps.refl _))
  have ap := apart (Or.inr ⟨_, (wk W (.laysFinal "java/lang/String" "java/lang/String" "value" "[B"))⟩) (Or.inr ⟨_, (wk W (.laysFinal "java/lang/String" "java/lang/String" "coder" "B"))⟩) f1 f2 (t₁ := .array .byte) (t₂ := .byte) (by decide +kernel) (by decide +kernel) (by decide)
  have al := X8.warmed.alike.symm.trans X15.warmed.alike
  have n7 : T11.heap[s.heap.size]? = some N := by rw [q11]; exact n1.1
  exact ⟨T15, none, _, _, _, X15, by simp, rfl, by omega, (fun _ => rfl), ⟨rfl, _, N, bl15, ((Same.refl D _).set _ (by simp)).set _ (by simp), sl15, (Cell.slots_setSlot_ne _ ap).trans sl13, n1.keep al (p15.other hne (p13.other hne n7)), n2, by rw [al.findClass]; exact n3, n4, n5, fun y c h1 h2 => p15.other h1 (p13.other h1 (by rw [q11]; exact n6 y c h2)), by rw [p15.2.2, p13.2.2, q11]; exact z8⟩, fun fs hl => c16.trans (X15.returnOut hexec hret (hb hbytes d57) hl)⟩
end New4
namespace New1
def yN : MethodName := ⟨"java/lang/String", "<init>", "([C)V"⟩
abbrev yB : ByteArray := jdk_42_method_3_code
theorem d0 : decode yB 0 = .ok (.aload_n 0, 1) := by decide +kernel
theorem d1 : decode yB 1 = .ok (.aload_n 1, 1) := by decide +kernel
theorem d2 : decode yB 2 = .ok (.iconst 0, 1) := by decide +kernel
theorem d3 : decode yB 3 = .ok (.aload_n 1, 1) := by decide +kernel
theorem d4 : decode yB 4 = .ok (.arraylength, 1) := by decide +kernel
theorem d5 : decode yB 5 = .ok (.aconst_null, 1) := by decide +kernel
theorem d6 : decode yB 6 = .ok (.invokespecial 27, 3) := by decide +kernel
theorem d9 : decode yB 9 = .ok (.return_, 1) := by decide +kernel
def site : List Cond := [New4.tab] ++ initW "java/lang/String" 27 New4.yN
def tab : Cond := tabOf yN yB 2 none site
def P (a : Addr) (D : Cell) (fV fC : Field) (b : Addr) (A : Cell) (z : Int32) (args : Array Value) (s : State) : Prop := args = #[.ref a, .ref b] ∧ Blank "java/lang/String" a D s ∧ Found "java/lang/String" "value" "[B" fV s ∧ Found "java/lang/String" "coder" "B" fC s ∧ Ch b A s ∧ StaticIs s "java/lang/String" "COMPACT_STRINGS" "Z" (.int z) ∧ ¬ z = 0 ∧ 0 < A.slots.size ∧ A.slots.size ≤ 536870912 ∧ ∀ i, i < A.slots.size → ¬ 255 < cv A i
def E (a : Addr) (D : Cell) (fV fC : Field) (A : Cell) (r : Option Value) (s u : State) : Prop := Got a D fV fC A 0 A.slots.size r s u
/-- new String(chars), not empty, no char above 255: a Latin-1 String of their low bytes -/
theorem law (l : Launch) (a : Addr) (D : Cell) (fV fC : Field) (b : Addr) (A : Cell) (z : Int32) : Law l yN 2 1 3 52 yB 2 none site (P a D fV fC b A z) (E a D fV fC A) [⟨a, fC.slot⟩, ⟨a, fV.slot⟩] 1 A.slots.size := by
  refine Law.of_walk (plainFor_of_name (by decide +kernel)) (by decide +kernel) (by decide +kernel) (by decide) (fun _ _ h => by rw [h.1]; rfl) (fun _ U U' hal hh h => ⟨h.1, h.2.1.mv hal hh, h.2.2.1.al hal, h.2.2.2.1.al hal, h.2.2.2.2.1.mv hal hh, h.2.2.2.2.2.1.there hal hh, h.2.2.2.2.2.2⟩) (fun r U U' V V' h1 hal h2 h => Got.mv r U U' V V' h1 hal h2 h) ?_
  intro p e s m args below meth c s₁ X0 hexec hbytes hml hret hlk hnm hown hh0 W hP
  obtain ⟨rfl, hB, f1, f2, hA, s1, hz, l0, l2, hp⟩ := hP
  have c1 : Steps p.tables e below (s₁.setTop (entryFrame m #[.ref a, .ref b] 2)) (s₁.setTop (mkF m 0 #[.val (.ref a), .val (.ref b)] [])) := entry rfl
  have c2 : Steps p.tables e below (s₁.setTop (entryFrame m #[.ref a, .ref b] 2)) (s₁.setTop (mkF m 6 #[.val (.ref a), .val (.ref b)] [.null, .int (Int32.ofNat A.slots.size), .int 0, .ref b, .ref a])) := c1.trans (by
    refine XS.aloadN X0.here hexec rfl (hb hbytes d0) rfl rfl ?_
    refine XS.aloadN X0.here hexec rfl (hb hbytes d1) rfl rfl ?_
    refine iconstV X0.here hexec rfl 0 (hb hbytes d2) (by decide) ?_
    refine XS.aloadN X0.here hexec rfl (hb hbytes d3) rfl rfl ?_
    refine X0.alen hexec (hA.1.mv X0.warmed.alike hh0) rfl rfl (hb hbytes d4) ?_
    refine XS.aconstNull X0.here hexec rfl (hb hbytes d5) ?_
    exact Steps.refl _)
  obtain ⟨v3, T3, X3, E3, g3⟩ := X0.callN hexec (New4.law l a D fV fC b A z 0 A.slots.size) rfl hown (wks W (initW "java/lang/String" 27 New4.yN)) (W New4.tab (by simp only [site, List.mem_cons, List.mem_append, true_or, or_true])) (W := 0) (Nat.le_of_ble_eq_true rfl) (Nat.le_of_ble_eq_true rfl) (Nat.le_refl _) (by show 0 + A.slots.size ≤ A.slots.size; omega) (g := (mkF m 6 #[.val (.ref a), .val (.ref b)] [.null, .int (Int32.ofNat A.slots.size), .int (Int32.ofNat 0), .ref b, .ref a])) rfl (by rw [hml]; rfl) c2 (argsL := [.ref b, .int (Int32.ofNat 0), .int (Int32.ofNat A.slots.size), .null]) (rest := []) rfl rfl (by show 2 * 0 + 0 ≤ _; decide) (hb hbytes d6) (⟨rfl, hB.mv X0.warmed.alike hh0, f1.al X0.warmed.alike, f2.al X0.warmed.alike, hA.mv X0.warmed.alike hh0, s1.there X0.warmed.alike hh0, hz, l0, by omega, l2, fun i hi => by rw [Nat.zero_add]; exact hp i hi⟩)
  have e0 := Got.mv _ s₁ s _ _ hh0.symm (Vm.Alike.refl _) rfl E3
  obtain rfl := e0.1
  have c4 : Steps p.tables e below (s₁.setTop (entryFrame m #[.ref a, .ref b] 2)) (T3.setTop (mkF m 9 #[.val (.ref a), .val (.ref b)] [])) := g3
  exact ⟨T3, none, _, _, _, X3, by simp, rfl, by omega, (fun _ => rfl), e0, fun fs hl => c4.trans (X3.returnOut hexec hret (hb hbytes d9) hl)⟩
theorem pays {l : Launch} {R : Room} {p : Program} {e : Env} {below : List Frame} {s : State} {sargs : Array Value} {len W : Nat} (a : Addr) (D : Cell) (fV fC : Field) (b : Addr) (A : Cell) (z : Int32) (htab : tab.before sargs s = true) (hfr : 4 ≤ R.frames) (hlo : W + 65 ≤ R.locals) :
    Back l R p e below s sargs yN len W (fun A₁ a₁ => A₁.cells + 1 ≤ R.cells ∧ A₁.slots + A.slots.size ≤ R.slots ∧ P a D fV fC b A z a₁ A₁.U) (fun A₁ _ v₁ B₁ => E a D fV fC A v₁ A₁.U B₁.U ∧ B₁.locs = A₁.locs ++ [⟨a, fC.slot⟩, ⟨a, fV.slot⟩] ∧ B₁.cells = A₁.cells + 1 ∧ B₁.slots = A₁.slots + A.slots.size) :=
  (law l a D fV fC b A z).pays htab hfr (by omega)
end New1
end StrChars
namespace StrChars.Road
open Jvm Sem ClassFile Op Lib Jvm.Stand Jvm.Free Jvm.Free.XT
open Jvm.Lib.Cold (StaticIs)
abbrev ST : String := "java/lang/String"
/-- every table word that New1's law asks, flat -/
abbrev words : List Jvm.Cond := [.code New1.yN New1.yB 2 none, .initialized ST, .methodLink ST 27 New4.yN, .instanceMethod New4.yN,
  .code New4.yN New4.yB 6 none, .fieldLink ST 38 ST "COMPACT_STRINGS" "Z", .laysFinal ST ST "value" "[B", .fieldLink ST 9 ST "value" "[B", .laysFinal ST ST "coder" "B", .fieldLink ST 15 ST "coder" "B",
  .methodLink ST 1 Lib.objectInit, .instanceMethod Lib.objectInit, .code Lib.objectInit ⟨#[0xb1]⟩ 1 none, .methodLink ST 177 Cmp3.yN, .static Cmp3.yN, .methodLink ST 47 CodL.yN, .static CodL.yN,
  .code Cmp3.yN Cmp3.yB 6 (some (.array .byte)), .initialized U16, .arrayClass .byte, .methodLink U16 115 Cmp5.yN, .static Cmp5.yN, .code Cmp5.yN Cmp5.yB 7 (some .int), .code CodL.yN CodL.yB 2 (some .byte)]
theorem tab_of {a : Array Value} {s : State} (h : ∀ w ∈ words, w.before a s = true) : New1.tab.before a s = true := by
  have h5 : Cmp5.tab.before a s = true := unparts (wk h (.code Cmp5.yN Cmp5.yB 7 (some .int))) (wks h (.initialized Cmp5.yN.cls :: Cmp5.site))
  have hc : CodL.tab.before a s = true := unparts (wk h (.code CodL.yN CodL.yB 2 (some .byte))) (wks h (.initialized CodL.yN.cls :: CodL.site))
  have q5 : ∀ w ∈ Cmp5.tab :: words, w.before a s = true := fun w hw => (List.mem_cons.mp hw).elim (fun e => e ▸ h5) (h w)
  have h3 : Cmp3.tab.before a s = true := unparts (wk q5 (.code Cmp3.yN Cmp3.yB 6 (some (.array .byte)))) (wks q5 (.initialized Cmp3.yN.cls :: Cmp3.site))
  have q3 : ∀ w ∈ Cmp3.tab :: CodL.tab :: words, w.before a s = true := fun w hw => (List.mem_cons.mp hw).elim (fun e => e ▸ h3) fun hw => (List.mem_cons.mp hw).elim (fun e => e ▸ hc) (h w)
  have h4 : New4.tab.before a s = true := unparts (wk q3 (.code New4.yN New4.yB 6 none)) (wks q3 (.initialized New4.yN.cls :: New4.site))
  have q4 : ∀ w ∈ New4.tab :: words, w.before a s = true := fun w hw => (List.mem_cons.mp hw).elim (fun e => e ▸ h4) (h w)
  exact unparts (wk q4 (.code New1.yN New1.yB 2 none)) (wks q4 (.initialized New1.yN.cls :: New1.site))
/-- the words ride from the start Z to the walk's own state -/
theorem moved {Z s : State} {a0 args : Array Value} (hZ : Z.Warmed39 s.vm) (hw : ∀ d ∈ words, d.before a0 Z = true) : ∀ d ∈ words, d.before args s = true := fun d hd => by
  have q := hw d hd
  have t : ∀ d ∈ words, d = .arrayClass .byte ∨ (d.onTables && d.keepsFace) = true := by decide +kernel
  rcases t d hd with rfl | t
  · exact RoadKit.mvA hZ q
  · exact RoadKit.mv hZ q t
/-- WHAT COMES BACK, over the tables of the start Z: h the heap at the call, h' behind it -/
def Q (Z : State) (x : Addr) (A : Cell) (h : Heap) (v : Option Value) (h' : Heap) (L : List Loc) : Prop := v = none ∧ (∀ y ∈ L, y.base = x) ∧ RoadKit.Keep h h' [x] ∧ h'.size = h.size + 1 ∧ RoadKit.Exa Z h' x ST ∧ RoadKit.Fld Z h' x ST "value" "[B" (.ref h.size) ∧ RoadKit.Fld Z h' x ST "coder" "B" (.int 0) ∧
  (∃ V : Cell, RoadKit.Arr Z h' h.size V .byte ∧ V.vm = .none ∧ Z.vm.findClass "[B" = some V.cls ∧ V.slots.size = A.slots.size ∧ ∀ j, j < A.slots.size → V.slots[j]? = some (.int (lo8 (cv A j)))) ∧
  ∀ (O n d : String) (w : Value), RoadKit.Fld Z h x O n d w → RoadKit.slotOf Z O n d ≠ RoadKit.slotOf Z ST "value" "[B" → RoadKit.slotOf Z O n d ≠ RoadKit.slotOf Z ST "coder" "B" → RoadKit.Fld Z h' x O n d w
/-- **new String(chars) AT A CALL, IN THE ROAD'S FORM**: for specialBack behind newO: x the fresh String, b the char[] with the cell A -/
theorem back {p : Program} {l : Launch} {e : Env} {R : Room} {s : State} {args : Array Value} {below : List Frame} {len W : Nat} {Z : State} {a0 : Array Value} {h : Heap} (hZ : Z.Warmed39 s.vm) (hw : ∀ d ∈ words, d.before a0 Z = true) {kI : Nat} (wi : (Jvm.Cond.instantiable ST kI).before a0 Z = true)
    {x b : Addr} {A : Cell} {z : Int32} {v0 c0 : Value} (E : RoadKit.Exa Z h x ST) (V : RoadKit.Fld Z h x ST "value" "[B" v0) (C : RoadKit.Fld Z h x ST "coder" "B" c0) (K : RoadKit.Arr Z h b A .char) (hty : Typed .char A) (S : RoadKit.Sta Z h ST "COMPACT_STRINGS" "Z" (.int z)) (hz : ¬ z = 0)
    (l0 : 0 < A.slots.size) (l2 : A.slots.size ≤ 536870912) (hp : ∀ i, i < A.slots.size → ¬ 255 < cv A i) (hfr : 4 ≤ R.frames) (hlo : W + 65 ≤ R.locals) :
    Back l R p e below s args New1.yN len W (fun P a => a = #[.ref x, .ref b] ∧ P.U.heap = h ∧ P.cells + 1 ≤ R.cells ∧ P.slots + A.slots.size ≤ R.slots)
      (fun P _ v B => ∃ L, Q Z x A h v B.U.heap L ∧ B.locs = P.locs ++ L ∧ B.cells = P.cells + 1 ∧ B.slots = P.slots + A.slots.size) := by
  intro m meth c P g ig mk a X hg hsize hdg hW hn hp'
  obtain ⟨rfl, rfl, r1, r2⟩ := hp'
  have al : Z.vm.Alike P.U.vm := hZ.alike.trans X.warmed.alike
  obtain ⟨D, cfV, kV, iV, fV, hD, gV, stV, knV, obV, asV, slV⟩ := id V
  obtain ⟨D', cfC, kC, iC, fC, hD', gC, stC, -, -, asC, slC⟩ := id C
  cases hD.symm.trans hD'
  obtain ⟨D2, kD, e1, e2, e3, e4, e5⟩ := id E
  cases hD.symm.trans e1
  obtain ⟨c2, k2, i1, i2, i3, -⟩ := Cond.instantiable_spec wi
  cases e2.symm.trans i1
  cases e3.symm.trans i2
  obtain ⟨kU, u1, u2⟩ := al.2.2 _ _ e3
  have hB : Blank ST x D P.U := ⟨hD, ⟨knV, fun q hq => by rw [hq] at obV; cases obV⟩, by rw [al.findClass]; exact e2, kU, u1, by rw [u2]; exact i3, by rw [u2]; exact e5 i3⟩
  have F1 : Found ST "value" "[B" fV P.U := ⟨SBG.found_only al ⟨cfV, kV, iV, gV⟩, stV⟩
  have F2 : Found ST "coder" "B" fC P.U := ⟨SBG.found_only al ⟨cfC, kC, iC, gC⟩, stC⟩
  have hA : Ch b A P.U := ⟨⟨K.1, State.isArrayOf_alike al K.2.1, K.2.2, by omega⟩, hty⟩
  have hS : StaticIs P.U ST "COMPACT_STRINGS" "Z" (.int z) := by
    obtain ⟨cfS, iS, kS, fS, st, cS, t1, t2, t3, t4, t5, t6, t7⟩ := S
    exact StaticIs.there (s := { Z with heap := P.U.heap }) ⟨cfS, iS, kS, fS, st, cS, t1, t2, t3, t4, t5, (fun q => by rw [q] at t6; cases t6), t7⟩ al rfl
  obtain ⟨v, B, X', ⟨⟨hv, E', V', q1, q2, q3, q4, q5, q6, q7, q8, q9, q10, q11⟩, hl, hc, hs⟩, st⟩ := New1.pays x D fV fC b A z (tab_of (moved hZ hw)) hfr hlo m meth c P g ig mk _ X hg hsize hdg hW hn ⟨r1, r2, rfl, hB, F1, F2, hA, hS, hz, l0, l2, hp⟩
  have al' : Z.vm.Alike B.U.vm := hZ.alike.trans X'.warmed.alike
  have hsz : E'.slots.size = D.slots.size := by
    obtain ⟨-, -, -, kB, w1, w2, w3⟩ := q1
    obtain ⟨kB', y1, y2⟩ := al'.2.2 _ _ e3
    rw [q2.2.1] at w1
    cases w1.symm.trans y1
    rw [w3, e5 i3, y2]
  refine ⟨v, B, X', ⟨_, ⟨hv, ?_, ⟨by omega, fun y cy hy hn' => q10 y cy (by simpa using hn') hy, fun y cy hy => ?_⟩, q11, ⟨E', _, q1.1, by rw [q2.2.1]; exact e2, by rw [q2.2.1]; exact e3, by rw [q2.1]; exact obV, fun _ => by rw [hsz]; exact e5 i3⟩,
    ⟨E', cfV, kV, iV, fV, q1.1, gV, stV, by rw [q2.1]; exact knV, by rw [q2.1]; exact obV, by rw [q2.2.1]; exact asV, q3⟩, ⟨E', cfC, kC, iC, fC, q1.1, gC, stC, by rw [q2.1]; exact knV, by rw [q2.1]; exact obV, by rw [q2.2.1]; exact asC, q4⟩,
    ⟨V', ⟨q5.1, State.isArrayOf_alike al'.symm q5.2.1, q5.2.2.1⟩, q6, by rw [← al'.findClass]; exact q7, q8, fun j hj => by have := q9 j hj; rwa [Nat.zero_add] at this⟩, fun O n d w F n1 n2 => ?_⟩, hl, hc, hs⟩, st⟩
  · intro y hy
    simp only [List.mem_cons, List.not_mem_nil, or_false] at hy
    rcases hy with rfl | rfl <;> rfl
  · by_cases q : y = x
    · subst q
      cases hD.symm.trans hy
      exact ⟨E', q1.1, q2.2.1, q2.1, hsz⟩
    · exact ⟨cy, q10 y cy q hy, rfl, rfl, rfl⟩
  · obtain ⟨D3, cf, k, i, f, g1, g2, g3, g4, g5, g6, g7⟩ := F
    cases hD.symm.trans g1
    simp only [RoadKit.slotOf, g2, gV, gC, Option.map_some, Option.getD_some] at n1 n2
    exact ⟨E', cf, k, i, f, q1.1, g2, g3, by rw [q2.1]; exact g4, by rw [q2.1]; exact g5, by rw [q2.2.1]; exact g6, by rw [q2.2.2 f.slot (by simp [n1, n2])]; exact g7⟩
end StrChars.Road
namespace StrChars.Road
open Jvm Sem ClassFile Op Lib Jvm.Stand Jvm.Free Jvm.Free.XT
/-- WHAT COMES BACK, the byte[] as a list of values -/
def QA (Z : State) (x : Addr) (zn : Int32) (cs : List Int32) (h : Heap) (v : Option Value) (h' : Heap) (L : List Loc) : Prop := v = none ∧ (∀ y ∈ L, y.base = x) ∧ RoadKit.Keep h h' [x] ∧ h'.size = h.size + 1 ∧ RoadKit.Exa Z h' x ST ∧ RoadKit.Fld Z h' x ST "value" "[B" (.ref h.size) ∧ RoadKit.Fld Z h' x ST "coder" "B" (.int 0) ∧
  (∃ kb, Z.vm.findClass "[B" = some kb ∧ RoadKit.Arv Z h' h.size kb .byte zn (cs.map fun c => .int (lo8 c)) (.int 0)) ∧
  ∀ (O n d : String) (w : Value), RoadKit.Fld Z h x O n d w → RoadKit.slotOf Z O n d ≠ RoadKit.slotOf Z ST "value" "[B" → RoadKit.slotOf Z O n d ≠ RoadKit.slotOf Z ST "coder" "B" → RoadKit.Fld Z h' x O n d w
/-- **new String(chars) AT A CALL, THE ARRAYS AS LISTS**: the char[] at b holds cs, not empty, no char above 255 -/
theorem backArv {p : Program} {l : Launch} {e : Env} {R : Room} {s : State} {args : Array Value} {below : List Frame} {len W : Nat} {Z : State} {a0 : Array Value} {h : Heap} (hZ : Z.Warmed39 s.vm) (hw : ∀ d ∈ words, d.before a0 Z = true) {kI : Nat} (wi : (Jvm.Cond.instantiable ST kI).before a0 Z = true)
    {x b : Addr} {k : ClassId} {zn z : Int32} {cs : List Int32} {dv v0 c0 : Value} (E : RoadKit.Exa Z h x ST) (V : RoadKit.Fld Z h x ST "value" "[B" v0) (C : RoadKit.Fld Z h x ST "coder" "B" c0) (K : RoadKit.Arv Z h b k .char zn (cs.map Value.int) dv) (S : RoadKit.Sta Z h ST "COMPACT_STRINGS" "Z" (.int z)) (hz : ¬ z = 0)
    (hlen : zn.toNatClampNeg = cs.length) (h0 : 0 < cs.length) (hbig : cs.length ≤ 536870912) (hall : ∀ c ∈ cs, ¬ 255 < c) (hfr : 4 ≤ R.frames) (hlo : W + 65 ≤ R.locals) :
    Back l R p e below s args New1.yN len W (fun P a => a = #[.ref x, .ref b] ∧ P.U.heap = h ∧ P.cells + 1 ≤ R.cells ∧ P.slots + cs.length ≤ R.slots)
      (fun P _ v B => ∃ L, QA Z x zn cs h v B.U.heap L ∧ B.locs = P.locs ++ L ∧ B.cells = P.cells + 1 ∧ B.slots = P.slots + cs.length) := by
  obtain ⟨A, K1, K2, K3, K4, K5, K6⟩ := K
  have e : A.slots.size = cs.length := K3.trans hlen
  have hat : ∀ (i : Nat) (hi : i < cs.length), A.slots[i]? = some (.int cs[i]) := fun i hi => by rw [K5 i (by omega)]; simp [List.getD_eq_getElem?_getD, hi]
  have hcv : ∀ (i : Nat) (hi : i < cs.length), cv A i = cs[i] := fun i hi => by unfold cv; rw [hat i hi]
  have hty : Typed .char A := fun i v hv => by
    have hi : i < A.slots.size := (Array.getElem?_eq_some_iff.mp hv).1
    have q := K5 i hi
    rw [hv] at q
    rw [Option.some.inj q]
    exact K6 i hi
  refine Back.mono (back hZ hw wi E V C K1 hty S hz (by omega) (by omega) (fun i hi => by rw [hcv i (by omega)]; exact hall _ (List.getElem_mem _)) hfr hlo) (fun P a hp => ⟨hp.1, hp.2.1, hp.2.2.1, by rw [e]; exact hp.2.2.2⟩) (fun P a v B hp hq => ?_)
  obtain ⟨L, ⟨q1, q2, q3, q4, q5, q6, q7, ⟨V', v1, v2, v3, v4, v5⟩, q9⟩, hl, hc, hs⟩ := hq
  refine ⟨L, ⟨q1, q2, q3, q4, q5, q6, q7, ⟨V'.cls, v3, V', v1, rfl, by rw [v4, e, hlen], K4, fun i hi => ?_, fun i hi => ?_⟩, q9⟩, hl, hc, by rw [hs, e]⟩
  · have hi' : i < cs.length := by omega
    rw [v5 i (by omega), hcv i hi']; simp [List.getD_eq_getElem?_getD, hi']
  · have hi' : i < cs.length := by omega
    simp only [List.getD_eq_getElem?_getD, List.getElem?_map, List.getElem?_eq_getElem hi', Option.map_some, Option.getD_some]
    exact fits_lo8 _
end StrChars.Road
namespace StrChars.Road
open Jvm Sem ClassFile Op Lib Jvm.Stand Jvm.Free Jvm.Free.XT
/-- WHAT COMES BACK, in the writer's own shape -/
def QV (Z : State) (x : Addr) (N : Int32) (bs : List Int32) (h : Heap) (n0 : Nat) (v : Option Value) (h' : Heap) (L : List Loc) : Prop := v = none ∧ RoadKit.Fr n0 L ∧ RoadKit.Keep h h' [x] ∧ RoadKit.Exa Z h' x ST ∧ RoadKit.Fld Z h' x ST "coder" "B" (.int 0) ∧
  ∃ (t : Addr) (kb : ClassId), n0 ≤ t ∧ h.size ≤ t ∧ ¬ t = x ∧ RoadKit.Fld Z h' x ST "value" "[B" (.ref t) ∧ RoadKit.Arv Z h' t kb .byte N (bs.map Value.int) (.int 0)
/-- **new String(chars) AT A CALL, FOR THE WRITER**: a char[] of n known ints, each 0 to 255 -/
theorem backV {p : Program} {l : Launch} {e : Env} {R : Room} {s : State} {args : Array Value} {below : List Frame} {len W : Nat} {Z : State} {a0 : Array Value} {h : Heap} (hZ : Z.Warmed39 s.vm) (hw : ∀ d ∈ words, d.before a0 Z = true) {kI : Nat} (wi : (Jvm.Cond.instantiable ST kI).before a0 Z = true)
    {x b : Addr} {kC : ClassId} {cs bs : List Int32} {d v0 c0 : Value} {z N : Int32} {n n0 : Nat} (hx0 : n0 ≤ x) (hh0 : n0 ≤ h.size) (E : RoadKit.Exa Z h x ST) (V : RoadKit.Fld Z h x ST "value" "[B" v0) (C : RoadKit.Fld Z h x ST "coder" "B" c0) (K : RoadKit.Arv Z h b kC .char N (cs.map Value.int) d) (S : RoadKit.Sta Z h ST "COMPACT_STRINGS" "Z" (.int z)) (hz : ¬ z = 0)
    (hn : cs.length = n) (hN : N = Int32.ofNat n) (l0 : 0 < n) (l2 : n ≤ 4000) (hp : ∀ c ∈ cs, ¬ c < 0 ∧ ¬ (255 : Int32) < c) (hb : bs = cs.map (fun c => c.toInt8.toInt32)) (hfr : 4 ≤ R.frames) (hlo : W + 65 ≤ R.locals) :
    Back l R p e below s args (⟨"java/lang/String", "<init>", "([C)V"⟩ : MethodName) len W (fun P a => a = #[.ref x, .ref b] ∧ P.U.heap = h ∧ P.cells + 1 ≤ R.cells ∧ P.slots + n ≤ R.slots)
      (fun P _ v B => ∃ L, QV Z x N bs h n0 v B.U.heap L ∧ B.locs = P.locs ++ L ∧ B.cells = P.cells + 1 ∧ B.slots = P.slots + n) := by
  subst hn hN hb
  refine Back.mono (backArv hZ hw wi E V C K S hz (n32 (by omega)) l0 (by omega) (fun c hc => (hp c hc).2) hfr hlo) (fun P a hp => hp) (fun P a v B hp hq => ?_)
  obtain ⟨L, ⟨q1, q2, q3, q4, q5, q6, q7, ⟨kb, v1, v2⟩, q9⟩, hl, hc, hs⟩ := hq
  exact ⟨L, ⟨q1, fun y hy => by rw [q2 y hy]; exact hx0, q3, q5, q7, h.size, kb, hh0, Nat.le_refl _, Nat.ne_of_gt E.lt, q6, by rw [List.map_map]; exact v2⟩, hl, hc, hs⟩
end StrChars.Road
end Jvm.Pilot.@@N@@

namespace Jvm.Pilot.@@N@@
open Jvm Jvm.ClassFile Sem Op Lib Jvm.Free Jvm.Stand Jvm.LawKit Jvm.RoadKit Bundle Jvm.Pilot.@@N@@.Jvm.D
theorem own_w {Z : State} {a0 : Array Value} (hw : ∀ d ∈ tables_1, d.before a0 Z = true) (i : Nat) {d : Jvm.Cond} (h : tables_1[i]? = some d) : d.before a0 Z = true := hw _ (List.mem_of_getElem? h)
/-! own layer: a body's rest as one predicate (OFin), a contract (OMet), calls that give the plain facts back -/
def OFin (p : Program) (e : Env) (below : List Frame) (s : State) (kc ks : Nat) (Q : Option Value → Heap → List Loc → Prop) (S : State) : Prop :=
  ∃ s₂ o, Steps p.tables e below S s₂ ∧ s₂.status = .running ∧ Ended s₂ below o ∧ ∃ v L, o = .returned v ∧ Q v s₂.heap L ∧ FrameEnd s o s₂ L kc ks
def OMet (l : Launch) (Z : State) (y : MethodName) (bytes : ByteArray) (maxL : Nat) (ret : Option FieldType) (rm : Room) (as' : Array Value) (h0 : Heap) (Q : Option Value → Heap → List Loc → Prop) : Prop :=
  ∀ ws : List Jvm.Cond, MetFree l y (head1 (Jvm.Cond.code y bytes maxL ret :: ws) rm) (fun a U => a = as' ∧ Z.Warmed39 U.vm ∧ U.heap = h0) (fun _ _ _ _ _ => True) (fun _ U o U' => ∃ v L, o = .returned v ∧ Q v U'.heap L ∧ FrameEnd U o U' L rm.cells rm.slots)
def OCtx (Z : State) (p : Program) (s : State) (m : MethodId) (meth : Method) (c : Code) (cls nam : String) (bytes : ByteArray) (maxL : Nat) (ret : Option FieldType) : Prop :=
  p.tables.exec = Jvm.exec ∧ Z.Warmed39 s.vm ∧ c.code = bytes ∧ c.maxLocals = maxL ∧ s.vm.findClass cls = some m.cls ∧ meth.sig.returnType = ret ∧ meth.locks = false ∧ meth.name = nam
section OwnLayer
variable {p : Program} {l : Launch} {e : Env} {R : Room} {s : State} {m : MethodId} {args : Array Value} {below : List Frame} {meth : Method} {c : Code} {T : State} {locs : List Loc} {cells slots : Nat} {Z : State} {a0 : Array Value} {h : Heap}
variable {kc ks : Nat} {Q : Option Value → Heap → List Loc → Prop}
theorem own_st {A B : State} (hs : ∀ t, Steps p.tables e below B t → Steps p.tables e below A t) (k : OFin p e below s kc ks Q B) : OFin p e below s kc ks Q A := by
  obtain ⟨s₂, o, h1, r⟩ := k; exact ⟨s₂, o, hs _ h1, r⟩
theorem own_at {g g' : JFrame} (q : g = g') (k : OFin p e below s kc ks Q (T.setTop g')) : OFin p e below s kc ks Q (T.setTop g) := q ▸ k
theorem own_mono {Q' : Option Value → Heap → List Loc → Prop} {S : State} (k : OFin p e below s kc ks Q S) (q : ∀ v h L, Q v h L → Q' v h L) : OFin p e below s kc ks Q' S := by
  obtain ⟨s₂, o, h1, h2, h3, v, L, h4, h5, h6⟩ := k; exact ⟨s₂, o, h1, h2, h3, v, L, h4, q _ _ _ h5, h6⟩
theorem own_enter {y : MethodName} {bytes : ByteArray} {maxL : Nat} {ret : Option FieldType} {rm : Room} {as' : Array Value} {h0 : Heap} (hp : plainFor y = true)
    (hB : ∀ (p : Program) (e : Env) (s : State) (m : MethodId) (below : List Frame) (meth : Method) (c : Code) (T : State), Stand p l e rm s m as' below meth c T [] 0 0 → OCtx Z p s m meth c y.cls y.name bytes maxL ret → T.heap = h0 → OFin p e below s rm.cells rm.slots Q (T.setTop (entryFrame m as' maxL))) :
    OMet l Z y bytes maxL ret rm as' h0 Q := by
  intro ws
  refine MetFree.of_bodySF hp hisR ?_
  intro p e s m args below meth c s₁ Bd hml0 hP hK
  obtain ⟨rfl, hZ, hh⟩ := hP
  exact hB p e s m below meth c s₁ (Stand.of_body Bd) ⟨Bd.exec, hZ, Bd.bytes, hml0, findClass_of_methodNamed Bd.named, Bd.returns, BodyLoose.notSynchronized Bd, (name_of_methodNamed Bd.named Bd.method).1⟩ (by rw [← hh, Bd.state]; rfl)
theorem own_ret (X : Stand p l e R s m args below meth c T locs cells slots) (hx : p.tables.exec = Jvm.exec) {t : FieldType} (hret : meth.sig.returnType = some t) (hlk : meth.locks = false) {pc : Nat} {Ls : Array Slot} {w : Value} {i : Instr} {rest : List Value} (hn : narrow t w = w)
    (hi : (i = .ireturn ∧ (t = .int ∨ t = .boolean ∨ t = .byte ∨ t = .char ∨ t = .short) ∧ ∃ z, w = .int z) ∨ (i = .lreturn ∧ t = .long ∧ ∃ z, w = .long z) ∨ (i = .dreturn ∧ t = .double ∧ ∃ z, w = .double z) ∨ (i = .freturn ∧ t = .float ∧ ∃ z, w = .float z) ∨ (i = .areturn ∧ t.isReference = true ∧ w.isRef = true))
    (hd : decode c.code pc = .ok (i, 1)) (hc : cells ≤ kc) (hs : slots ≤ ks) (hq : Q (some w) T.heap locs) : OFin p e below s kc ks Q (T.setTop (mkF m pc Ls (w :: rest))) := by
  obtain ⟨fs, hr, hrun, hended, hW, hsame⟩ := X.leave (v := some w) (fun h => by rw [hret] at h; cases h) hlk
  exact ⟨_, _, retOut X hx hret hn hi hd hr, hrun, hended, _, _, rfl, hq, ⟨_, rfl⟩, hW, hsame.mono hc hs⟩
theorem own_retV (X : Stand p l e R s m args below meth c T locs cells slots) (hx : p.tables.exec = Jvm.exec) (hret : meth.sig.returnType = none) (hlk : meth.locks = false) {pc : Nat} {Ls : Array Slot}
    (hd : decode c.code pc = .ok (.return_, 1)) (hc : cells ≤ kc) (hs : slots ≤ ks) (hq : Q none T.heap locs) : OFin p e below s kc ks Q (T.setTop (mkF m pc Ls [])) := by
  obtain ⟨fs, hr, hrun, hended, hW, hsame⟩ := X.leave (v := none) (fun _ => rfl) hlk
  exact ⟨_, _, X.returnOut hx hret hd hr, hrun, hended, _, _, rfl, hq, ⟨_, rfl⟩, hW, hsame.mono hc hs⟩
theorem own_back {y : MethodName} {bytes : ByteArray} {maxL : Nat} {ret : Option FieldType} {rm : Room} {len W : Nat} {as' : Array Value} (hM : OMet l Z y bytes maxL ret rm as' h Q) (hZ : Z.Warmed39 s.vm) (wc : (Jvm.Cond.code y bytes maxL ret).before a0 Z = true) (wz : (Jvm.Cond.initialized y.cls).before a0 Z = true) (hf : rm.frames + 1 ≤ R.frames) (hl : W + (maxL + 11) + rm.locals ≤ R.locals) :
    Back l R p e below s args y len W (fun A a => a = as' ∧ A.U.heap = h ∧ A.cells + rm.cells ≤ R.cells ∧ A.slots + rm.slots ≤ R.slots)
      (fun A _ v B => ∃ L, Q v B.U.heap L ∧ B.locs = A.locs ++ L ∧ B.cells = A.cells + rm.cells ∧ B.slots = A.slots + rm.slots) := backOf (hM []) hZ wc wz hf hl
theorem own_static (X : Stand p l e R s m args below meth c T locs cells slots) (hx : p.tables.exec = Jvm.exec) (hZ : Z.Warmed39 s.vm) {own : String} {index : Nat} {y : MethodName} {bytes : ByteArray} {maxL : Nat} {ret : Option FieldType} {rm : Room} {W : Nat} {argsL rest : List Value}
    (hown : s.vm.findClass own = some m.cls) (w1 : (Jvm.Cond.methodLink own index y).before a0 Z = true) (w2 : (Jvm.Cond.static y).before a0 Z = true) (wz : (Jvm.Cond.initialized y.cls).before a0 Z = true) (wc : (Jvm.Cond.code y bytes maxL ret).before a0 Z = true)
    (hM : OMet l Z y bytes maxL ret rm argsL.toArray h Q) (eT : T.heap = h) {g : JFrame} (hg : g.method = m) (hsize : g.locals.size = c.maxLocals) (hlen : ∀ sig, parseMethodDescriptor y.desc = some sig → argsL.length = sig.parameters.length)
    (hstack : g.stack = argsL.reverse ++ rest) (hW : 2 * g.monitorRoom + (rest.map fun v => v.category).sum ≤ W) (hdg : decode c.code g.pc = .ok (.invokestatic index, 3))
    (hf : rm.frames + 1 ≤ R.frames) (hl : W + (maxL + 11) + rm.locals ≤ R.locals) (hc : cells + rm.cells ≤ R.cells) (hs : slots + rm.slots ≤ R.slots)
    (hy : y.cls ≠ "java/lang/invoke/MethodHandle" ∧ y.cls ≠ "java/lang/invoke/VarHandle" := by decide) :
    ∃ (v : Option Value) (T' : State) (L : List Loc), Stand p l e R s m args below meth c T' (locs ++ L) (cells + rm.cells) (slots + rm.slots) ∧ Q v T'.heap L ∧
      ∀ target, Steps p.tables e below (T'.setTop { g with pc := g.pc + 3, stack := v.toList ++ rest }) target → Steps p.tables e below (T.setTop g) target := by
  obtain ⟨v, vm₁, ⟨T', L', k', n'⟩, -, X', ⟨L, hQ, l1, y1, z1⟩, st⟩ := Jvm.LawKit.callS X hx hown (mvT hZ w1) (mvT hZ w2) (mvT hZ wz) (mvT hZ wc) hy (own_back (W := W) hM hZ wc wz hf hl) hg hsize hlen hstack hW hdg (fun _ _ => ⟨rfl, eT, hc, hs⟩)
  dsimp only [Pt.U, Pt.locs, Pt.cells, Pt.slots] at X' l1 y1 z1 st hQ
  subst l1 y1 z1
  exact ⟨v, T', L, X', hQ, st⟩
theorem own_init (X : Stand p l e R s m args below meth c T locs cells slots) (hx : p.tables.exec = Jvm.exec) (hZ : Z.Warmed39 s.vm) {own : String} {index : Nat} {y : MethodName} {bytes : ByteArray} {maxL : Nat} {rm : Room} {W : Nat} {a : Addr} {argsL rest : List Value} (hy1 : y.name = "<init>")
    (hown : s.vm.findClass own = some m.cls) (w1 : (Jvm.Cond.methodLink own index y).before a0 Z = true) (w2 : (Jvm.Cond.instanceMethod y).before a0 Z = true) (wz : (Jvm.Cond.initialized y.cls).before a0 Z = true) (wc : (Jvm.Cond.code y bytes maxL none).before a0 Z = true)
    (hM : OMet l Z y bytes maxL none rm (.ref a :: argsL).toArray h Q) (eT : T.heap = h) {g : JFrame} (hg : g.method = m) (hsize : g.locals.size = c.maxLocals) (hlen : ∀ sig, parseMethodDescriptor y.desc = some sig → argsL.length = sig.parameters.length)
    (hstack : g.stack = argsL.reverse ++ .ref a :: rest) (hW : 2 * g.monitorRoom + (rest.map fun v => v.category).sum ≤ W) (hdg : decode c.code g.pc = .ok (.invokespecial index, 3))
    (hf : rm.frames + 1 ≤ R.frames) (hl : W + (maxL + 11) + rm.locals ≤ R.locals) (hc : cells + rm.cells ≤ R.cells) (hs : slots + rm.slots ≤ R.slots)
    (hy : y.cls ≠ "java/lang/invoke/MethodHandle" ∧ y.cls ≠ "java/lang/invoke/VarHandle" := by decide) :
    ∃ (v : Option Value) (T' : State) (L : List Loc), Stand p l e R s m args below meth c T' (locs ++ L) (cells + rm.cells) (slots + rm.slots) ∧ Q v T'.heap L ∧
      ∀ target, Steps p.tables e below (T'.setTop { g with pc := g.pc + 3, stack := v.toList ++ rest }) target → Steps p.tables e below (T.setTop g) target := by
  obtain ⟨v, vm₁, ⟨T', L', k', n'⟩, -, X', ⟨L, hQ, l1, y1, z1⟩, st⟩ := X.specialBack hx hy1 hown (mvT hZ w1) (mvT hZ w2) (mvT hZ wc) hy (own_back (W := W) hM hZ wc wz hf hl) hg hsize (Steps.refl _) hlen hstack hW hdg (fun _ _ => ⟨rfl, eT, hc, hs⟩)
  dsimp only [Pt.U, Pt.locs, Pt.cells, Pt.slots] at X' l1 y1 z1 st hQ
  subst l1 y1 z1
  exact ⟨v, T', L, X', hQ, fun t k => st.trans k⟩
theorem own_virtual (X : Stand p l e R s m args below meth c T locs cells slots) (hx : p.tables.exec = Jvm.exec) (hZ : Z.Warmed39 s.vm) {own C : String} {index : Nat} {y z : MethodName} {bytes : ByteArray} {maxL : Nat} {ret : Option FieldType} {rm : Room} {W : Nat} {a : Addr} {argsL rest : List Value}
    (hown : s.vm.findClass own = some m.cls) (w1 : (Jvm.Cond.methodLink own index y).before a0 Z = true) (w2 : (Jvm.Cond.declares y).before a0 Z = true) (hnf : NotFace s y) (w3 : (Jvm.Cond.selects C y z).before a0 Z = true) (w4 : (Jvm.Cond.instanceMethod z).before a0 Z = true) (wz : (Jvm.Cond.initialized z.cls).before a0 Z = true) (wc : (Jvm.Cond.code z bytes maxL ret).before a0 Z = true)
    (hM : OMet l Z z bytes maxL ret rm (.ref a :: argsL).toArray h Q) (eT : T.heap = h) (E : Exa Z h a C) {g : JFrame} (hg : g.method = m) (hsize : g.locals.size = c.maxLocals) (hlen : ∀ sig, parseMethodDescriptor y.desc = some sig → argsL.length = sig.parameters.length)
    (hstack : g.stack = argsL.reverse ++ .ref a :: rest) (hW : 2 * g.monitorRoom + (rest.map fun v => v.category).sum ≤ W) (hdg : decode c.code g.pc = .ok (.invokevirtual index, 3))
    (hf : rm.frames + 1 ≤ R.frames) (hl : W + (maxL + 11) + rm.locals ≤ R.locals) (hc : cells + rm.cells ≤ R.cells) (hs : slots + rm.slots ≤ R.slots)
    (hy : y.cls ≠ "java/lang/invoke/MethodHandle" ∧ y.cls ≠ "java/lang/invoke/VarHandle" := by decide) :
    ∃ (v : Option Value) (T' : State) (L : List Loc), Stand p l e R s m args below meth c T' (locs ++ L) (cells + rm.cells) (slots + rm.slots) ∧ Q v T'.heap L ∧
      ∀ target, Steps p.tables e below (T'.setTop { g with pc := g.pc + 3, stack := v.toList ++ rest }) target → Steps p.tables e below (T.setTop g) target := by
  obtain ⟨cq, kq, qa, qb, qc⟩ := isOf hZ eT E
  obtain ⟨v, vm₁, ⟨T', L', k', n'⟩, -, X', ⟨L, hQ, l1, y1, z1⟩, st⟩ := X.virtualBack hx hown (mvT hZ w1) (mvT hZ w2) hnf (mvT hZ w3) (mvT hZ w4) hy (own_back (W := W) hM hZ wc wz hf hl) qa qc hg hsize (Steps.refl _) hlen hstack hW hdg (fun _ _ => ⟨rfl, eT, hc, hs⟩)
  dsimp only [Pt.U, Pt.locs, Pt.cells, Pt.slots] at X' l1 y1 z1 st hQ
  subst l1 y1 z1
  exact ⟨v, T', L, X', hQ, fun t k => st.trans k⟩
end OwnLayer
/-! own layer 2: an array as a function of the place -/
def OArr (Z : State) (h : Heap) (a : Addr) (ty : FieldType) (N : Nat) (f : Nat → Value) : Prop := ∃ c : Cell, Arr Z h a c ty ∧ c.slots.size = N ∧ N < 2 ^ 31 ∧ ∀ i, i < N → c.slots[i]? = some (f i)
section OwnArr
variable {Z : State} {h h' : Heap} {a b : Addr} {ty : FieldType} {N : Nat} {f : Nat → Value} {ws : List Addr} {sl : Nat} {v : Value}
theorem OArr.lt (F : OArr Z h a ty N f) : a < h.size := by obtain ⟨c, A, -⟩ := F; exact A.lt
theorem OArr.ext (F : OArr Z h a ty N f) (E : Ext h h') : OArr Z h' a ty N f := by obtain ⟨c, A, r⟩ := F; exact ⟨c, A.ext E, r⟩
theorem OArr.other (F : OArr Z h b ty N f) (W : Wr h h' a sl v) (q : b ≠ a) : OArr Z h' b ty N f := by obtain ⟨c, A, r⟩ := F; exact ⟨c, A.other W q, r⟩
theorem OArr.keep (F : OArr Z h a ty N f) (K : Keep h h' ws) (q : a ∉ ws) : OArr Z h' a ty N f := by obtain ⟨c, A, r⟩ := F; exact ⟨c, ⟨K.2.1 a c A.1 q, A.2⟩, r⟩
theorem OArr.set (F : OArr Z h a ty N f) {j : Nat} (W : Wr h h' a j v) : OArr Z h' a ty N (fun i => if i = j then v else f i) := by
  obtain ⟨c, A, S, B, H⟩ := F
  refine ⟨_, A.same W, by rw [sz_set]; exact S, B, fun i hi => ?_⟩
  show (c.slots.setIfInBounds j v)[i]? = some (if i = j then v else f i)
  by_cases q : i = j
  · subst q; simp [S, hi]
  · rw [Array.getElem?_setIfInBounds_ne (Ne.symm q), if_neg q]; exact H i hi
theorem OArr.setI {g : Nat → Int32} (F : OArr Z h a ty N (fun i => .int (g i))) {j : Nat} {x : Int32} (W : Wr h h' a j (.int x)) : OArr Z h' a ty N (fun i => .int (if i = j then x else g i)) := by
  have q := F.set W
  have e : (fun i => if i = j then Value.int x else Value.int (g i)) = fun i => Value.int (if i = j then x else g i) := by funext i; split <;> rfl
  rw [e] at q; exact q
theorem OArr.setJ {g : Nat → Int64} (F : OArr Z h a ty N (fun i => .long (g i))) {j : Nat} {x : Int64} (W : Wr h h' a j (.long x)) : OArr Z h' a ty N (fun i => .long (if i = j then x else g i)) := by
  have q := F.set W
  have e : (fun i => if i = j then Value.long x else Value.long (g i)) = fun i => Value.long (if i = j then x else g i) := by funext i; split <;> rfl
  rw [e] at q; exact q
theorem own_clamp (z : Int32) : z.toNatClampNeg < 2 ^ 31 := by have := z.toInt_lt; simp only [Int32.toNatClampNeg]; omega
theorem OArr.new {k : ClassId} {z : Int32} (A : Arr Z h a (newA k ty z) ty) (q : z.toNatClampNeg = N) : OArr Z h a ty N (fun _ => defaultValue ty) :=
  ⟨_, A, by rw [sz_new]; exact q, by rw [← q]; exact own_clamp z, fun i hi => by rw [← q] at hi; simp [newA, hi]⟩
theorem OArr.of {k : ClassId} {z : Int32} {vs : List Value} {dv : Value} (A : Arv Z h a k ty z vs dv) (q : z.toNatClampNeg = N) (r : ∀ i, i < N → vs.getD i dv = f i) : OArr Z h a ty N f := by
  obtain ⟨c, A1, -, S, -, H, -⟩ := A
  exact ⟨c, A1, by rw [S]; exact q, by rw [← q]; exact own_clamp z, fun i hi => by rw [← r i hi]; exact H i (by rw [S, q]; exact hi)⟩
theorem OArr.congr {g : Nat → Value} (F : OArr Z h a ty N f) (r : ∀ i, i < N → f i = g i) : OArr Z h a ty N g := by
  obtain ⟨c, A, S, B, H⟩ := F; exact ⟨c, A, S, B, fun i hi => by rw [← r i hi]; exact H i hi⟩
theorem own_inb {c : Cell} {j : Int32} {i : Nat} (S : c.slots.size = N) (h0 : ¬ j < 0) (hj : j.toNatClampNeg = i) (hi : i < N) : ¬ (j < 0 ∨ c.slots.size ≤ j.toNatClampNeg) := by
  rintro (q | q)
  · exact h0 q
  · rw [S, hj] at q; omega
theorem own_hv {c : Cell} {j : Int32} {i : Nat} (H : ∀ i, i < N → c.slots[i]? = some (f i)) (hj : j.toNatClampNeg = i) (hi : i < N) : c.slots[j.toNatClampNeg]? = some (f i) := by rw [hj]; exact H i hi
theorem own_len {c : Cell} {z : Int32} (S : c.slots.size = N) (q : N.toInt32 = z) : c.slots.size.toInt32 = z := by rw [S]; exact q
theorem own_wrj {j : Int32} {i : Nat} (W : Wr h h' a j.toNatClampNeg v) (hj : j.toNatClampNeg = i) : Wr h h' a i v := hj ▸ W
theorem own_nb (x : Int32) : nar .byte (x.toInt8.toInt32) = x.toInt8.toInt32 := by show (x.toInt8.toInt32).toInt8.toInt32 = _; simp
theorem own_nwb (x : Int32) : narrow .byte (.int x.toInt8.toInt32) = .int x.toInt8.toInt32 := by show Value.int ((x.toInt8.toInt32).toInt8.toInt32) = _; simp
end OwnArr
/-! own layer 5: a call that a 'Back' of the pasted String laws pays -/
section OwnBack
variable {p : Program} {l : Launch} {e : Env} {R : Room} {s : State} {m : MethodId} {args : Array Value} {below : List Frame} {meth : Method} {c : Code} {T : State} {locs : List Loc} {cells slots : Nat} {Z : State} {a0 : Array Value} {h : Heap}
theorem own_initB (Q : Option Value → Heap → List Loc → Prop) (kc ks : Nat) (X : Stand p l e R s m args below meth c T locs cells slots) (hx : p.tables.exec = Jvm.exec) (hZ : Z.Warmed39 s.vm) {own : String} {index : Nat} {y : MethodName} {bytes : ByteArray} {maxL : Nat} {W : Nat} {a : Addr} {argsL rest : List Value} (hy1 : y.name = "<init>")
    (hown : s.vm.findClass own = some m.cls) (w1 : (Jvm.Cond.methodLink own index y).before a0 Z = true) (w2 : (Jvm.Cond.instanceMethod y).before a0 Z = true) (wc : (Jvm.Cond.code y bytes maxL none).before a0 Z = true)
    (hK : Back l R p e below s args y 3 W (fun A b => b = (.ref a :: argsL).toArray ∧ A.U.heap = h ∧ A.cells + kc ≤ R.cells ∧ A.slots + ks ≤ R.slots) (fun A _ v B => ∃ L, Q v B.U.heap L ∧ B.locs = A.locs ++ L ∧ B.cells = A.cells + kc ∧ B.slots = A.slots + ks))
    (eT : T.heap = h) {g : JFrame} (hg : g.method = m) (hsize : g.locals.size = c.maxLocals) (hlen : ∀ sig, parseMethodDescriptor y.desc = some sig → argsL.length = sig.parameters.length)
    (hstack : g.stack = argsL.reverse ++ .ref a :: rest) (hW : 2 * g.monitorRoom + (rest.map fun v => v.category).sum ≤ W) (hdg : decode c.code g.pc = .ok (.invokespecial index, 3))
    (hc : cells + kc ≤ R.cells) (hs : slots + ks ≤ R.slots)
    (hy : y.cls ≠ "java/lang/invoke/MethodHandle" ∧ y.cls ≠ "java/lang/invoke/VarHandle" := by decide) :
    ∃ (v : Option Value) (T' : State) (L : List Loc), Stand p l e R s m args below meth c T' (locs ++ L) (cells + kc) (slots + ks) ∧ Q v T'.heap L ∧
      ∀ target, Steps p.tables e below (T'.setTop { g with pc := g.pc + 3, stack := v.toList ++ rest }) target → Steps p.tables e below (T.setTop g) target := by
  obtain ⟨v, vm₁, ⟨T', L', k', n'⟩, -, X', ⟨L, hQ, l1, y1, z1⟩, st⟩ := X.specialBack hx hy1 hown (mvT hZ w1) (mvT hZ w2) (mvT hZ wc) hy hK hg hsize (Steps.refl _) hlen hstack hW hdg (fun _ _ => ⟨rfl, eT, hc, hs⟩)
  dsimp only [Pt.U, Pt.locs, Pt.cells, Pt.slots] at X' l1 y1 z1 st hQ
  subst l1 y1 z1
  exact ⟨v, T', L, X', hQ, fun t k => st.trans k⟩
theorem own_virtualB (Q : Option Value → Heap → List Loc → Prop) (kc ks : Nat) (X : Stand p l e R s m args below meth c T locs cells slots) (hx : p.tables.exec = Jvm.exec) (hZ : Z.Warmed39 s.vm) {own C : String} {index : Nat} {y z : MethodName} {W : Nat} {a : Addr} {argsL rest : List Value}
    (hown : s.vm.findClass own = some m.cls) (w1 : (Jvm.Cond.methodLink own index y).before a0 Z = true) (w2 : (Jvm.Cond.declares y).before a0 Z = true) (hnf : NotFace s y) (w3 : (Jvm.Cond.selects C y z).before a0 Z = true) (w4 : (Jvm.Cond.instanceMethod z).before a0 Z = true)
    (hK : Back l R p e below s args z 3 W (fun A b => b = (.ref a :: argsL).toArray ∧ A.U.heap = h ∧ A.cells + kc ≤ R.cells ∧ A.slots + ks ≤ R.slots) (fun A _ v B => ∃ L, Q v B.U.heap L ∧ B.locs = A.locs ++ L ∧ B.cells = A.cells + kc ∧ B.slots = A.slots + ks))
    (eT : T.heap = h) (E : Exa Z h a C) {g : JFrame} (hg : g.method = m) (hsize : g.locals.size = c.maxLocals) (hlen : ∀ sig, parseMethodDescriptor y.desc = some sig → argsL.length = sig.parameters.length)
    (hstack : g.stack = argsL.reverse ++ .ref a :: rest) (hW : 2 * g.monitorRoom + (rest.map fun v => v.category).sum ≤ W) (hdg : decode c.code g.pc = .ok (.invokevirtual index, 3))
    (hc : cells + kc ≤ R.cells) (hs : slots + ks ≤ R.slots)
    (hy : y.cls ≠ "java/lang/invoke/MethodHandle" ∧ y.cls ≠ "java/lang/invoke/VarHandle" := by decide) :
    ∃ (v : Option Value) (T' : State) (L : List Loc), Stand p l e R s m args below meth c T' (locs ++ L) (cells + kc) (slots + ks) ∧ Q v T'.heap L ∧
      ∀ target, Steps p.tables e below (T'.setTop { g with pc := g.pc + 3, stack := v.toList ++ rest }) target → Steps p.tables e below (T.setTop g) target := by
  obtain ⟨cq, kq, qa, qb, qc⟩ := isOf hZ eT E
  obtain ⟨v, vm₁, ⟨T', L', k', n'⟩, -, X', ⟨L, hQ, l1, y1, z1⟩, st⟩ := X.virtualBack hx hown (mvT hZ w1) (mvT hZ w2) hnf (mvT hZ w3) (mvT hZ w4) hy hK qa qc hg hsize (Steps.refl _) hlen hstack hW hdg (fun _ _ => ⟨rfl, eT, hc, hs⟩)
  dsimp only [Pt.U, Pt.locs, Pt.cells, Pt.slots] at X' l1 y1 z1 st hQ
  subst l1 y1 z1
  exact ⟨v, T', L, X', hQ, fun t k => st.trans k⟩
end OwnBack
/-! own layer 7: THE WIDE END: a body that may intern a String constant (OFinE, OEnd, OMetW), and the way from the narrow end to it -/
def OFinE (p : Program) (e : Env) (below : List Frame) (E : Option Value → State → List Loc → Prop) (S : State) : Prop :=
  ∃ s₂ o, Steps p.tables e below S s₂ ∧ s₂.status = .running ∧ Ended s₂ below o ∧ ∃ v L, o = .returned v ∧ E v s₂ L
def OEnd (s : State) (kc ks : Nat) (Q : Option Value → Vm → Heap → List Loc → Prop) : Option Value → State → List Loc → Prop := fun v u L => Q v u.vm u.heap L ∧ ReturnedEndW s (.returned v) u L kc ks
def OMetW (l : Launch) (Z : State) (P : Vm → Prop) (y : MethodName) (bytes : ByteArray) (maxL : Nat) (ret : Option FieldType) (rm : Room) (as' : Array Value) (h0 : Heap) (Q : Option Value → Vm → Heap → List Loc → Prop) : Prop :=
  ∀ ws : List Jvm.Cond, MetFree l y (head1 (Jvm.Cond.code y bytes maxL ret :: ws) rm) (fun a U => a = as' ∧ Z.Warmed39 U.vm ∧ U.heap = h0 ∧ P U.vm) (fun _ _ _ _ _ => True) (fun _ U o U' => ∃ v L, o = .returned v ∧ Q v U'.vm U'.heap L ∧ ReturnedEndW U o U' L rm.cells rm.slots)
section OwnWide
variable {p : Program} {l : Launch} {e : Env} {R : Room} {s : State} {m : MethodId} {args : Array Value} {below : List Frame} {meth : Method} {c : Code} {T : State} {locs : List Loc} {cells slots : Nat} {Z : State} {a0 : Array Value} {h : Heap}
variable {kc ks : Nat} {Q : Option Value → Vm → Heap → List Loc → Prop} {E : Option Value → State → List Loc → Prop} {P : Vm → Prop}
theorem own_stE {A B : State} (hs : ∀ t, Steps p.tables e below B t → Steps p.tables e below A t) (k : OFinE p e below E B) : OFinE p e below E A := by
  obtain ⟨s₂, o, h1, r⟩ := k; exact ⟨s₂, o, hs _ h1, r⟩
theorem own_atE {g g' : JFrame} (q : g = g') (k : OFinE p e below E (T.setTop g')) : OFinE p e below E (T.setTop g) := q ▸ k
theorem own_enterW {y : MethodName} {bytes : ByteArray} {maxL : Nat} {ret : Option FieldType} {rm : Room} {as' : Array Value} {h0 : Heap} (hp : plainFor y = true)
    (hB : ∀ (p : Program) (e : Env) (s : State) (m : MethodId) (below : List Frame) (meth : Method) (c : Code) (T : State), Stand p l e rm s m as' below meth c T [] 0 0 → OCtx Z p s m meth c y.cls y.name bytes maxL ret → T.heap = h0 → s.heap = h0 → P s.vm → OFinE p e below (OEnd s rm.cells rm.slots Q) (T.setTop (entryFrame m as' maxL))) :
    OMetW l Z P y bytes maxL ret rm as' h0 Q := by
  intro ws
  refine MetFree.of_bodySF hp hisR ?_
  intro p e s m args below meth c s₁ Bd hml0 hP hK
  obtain ⟨rfl, hZ, hh, hpv⟩ := hP
  obtain ⟨s₂, o, h1, h2, h3, v, L, rfl, h4, h5⟩ := hB p e s m below meth c s₁ (Stand.of_body Bd) ⟨Bd.exec, hZ, Bd.bytes, hml0, findClass_of_methodNamed Bd.named, Bd.returns, BodyLoose.notSynchronized Bd, (name_of_methodNamed Bd.named Bd.method).1⟩ (by rw [← hh, Bd.state]; rfl) hh hpv
  exact ⟨s₂, _, h1, h2, h3, v, L, rfl, h4, h5⟩
/-- the rest of a walk that has interned is a narrow walk over the start with the tables at hand -/
theorem own_narrow {vm1 : Vm} {n : Nat} (hS : s.Since vm1 n) {Q' : Option Value → Heap → List Loc → Prop} {S : State} (k : OFin p e below (s.setVm vm1) kc ks Q' S)
    (q : ∀ v vm h L, (s.setVm vm1).WarmedH vm → Q' v h L → n ≤ h.size ∧ Q v vm h L) : OFinE p e below (OEnd s kc ks Q) S := by
  obtain ⟨s₂, o, h1, h2, h3, v, L, rfl, h5, -, hW, hs⟩ := k
  obtain ⟨q1, q2⟩ := q _ _ _ _ hW h5
  obtain ⟨a, b, c'⟩ := hS.ended (U := s₂) hW q1 hs
  exact ⟨s₂, _, h1, h2, h3, v, L, rfl, q2, ⟨v, rfl⟩, a, b, c'⟩
/-- a walk that has not interned and will not -/
theorem own_narrow0 {Q' : Option Value → Heap → List Loc → Prop} {S : State} (k : OFin p e below s kc ks Q' S) (q : ∀ v vm h L, s.WarmedH vm → Q' v h L → Q v vm h L) : OFinE p e below (OEnd s kc ks Q) S := by
  obtain ⟨s₂, o, h1, h2, h3, v, L, rfl, h5, -, hW, hs⟩ := k
  exact ⟨s₂, _, h1, h2, h3, v, L, rfl, q _ _ _ _ hW h5, ReturnedEndW.of_narrow ⟨v, rfl⟩ hW hs⟩
/-- the rest of a walk that has interned may intern again -/
theorem own_rebase {vm1 : Vm} {n : Nat} (hS : s.Since vm1 n) {Q' : Option Value → Vm → Heap → List Loc → Prop} {S : State} (k : OFinE p e below (OEnd (s.setVm vm1) kc ks Q') S)
    (q : ∀ v vm h L, Q' v vm h L → n ≤ h.size ∧ Q v vm h L) : OFinE p e below (OEnd s kc ks Q) S := by
  obtain ⟨s₂, o, h1, h2, h3, v, L, rfl, h5, -, a, b, c'⟩ := k
  obtain ⟨q1, q2⟩ := q _ _ _ _ h5
  have hS2 : s.Since s₂.vm s₂.heap.size := hS.trans (vm₂ := s₂.vm) (n₂ := s₂.heap.size) ⟨a, b⟩ q1
  exact ⟨s₂, _, h1, h2, h3, v, L, rfl, q2, ⟨v, rfl⟩, hS2.1, hS2.2, c'.setVm s.vm⟩
theorem own_retW (X : Stand p l e R s m args below meth c T locs cells slots) (hx : p.tables.exec = Jvm.exec) {t : FieldType} (hret : meth.sig.returnType = some t) (hlk : meth.locks = false) {pc : Nat} {Ls : Array Slot} {w : Value} {i : Instr} {rest : List Value} (hn : narrow t w = w)
    (hi : (i = .ireturn ∧ (t = .int ∨ t = .boolean ∨ t = .byte ∨ t = .char ∨ t = .short) ∧ ∃ z, w = .int z) ∨ (i = .lreturn ∧ t = .long ∧ ∃ z, w = .long z) ∨ (i = .dreturn ∧ t = .double ∧ ∃ z, w = .double z) ∨ (i = .freturn ∧ t = .float ∧ ∃ z, w = .float z) ∨ (i = .areturn ∧ t.isReference = true ∧ w.isRef = true))
    (hd : decode c.code pc = .ok (i, 1)) (hc : cells ≤ kc) (hs : slots ≤ ks) {Q' : Option Value → Heap → List Loc → Prop} (hq : Q' (some w) T.heap locs) : OFin p e below s kc ks Q' (T.setTop (mkF m pc Ls (w :: rest))) := own_ret X hx hret hlk hn hi hd hc hs hq
theorem own_backW {y : MethodName} {bytes : ByteArray} {maxL : Nat} {ret : Option FieldType} {rm : Room} {len W : Nat} {as' : Array Value} (hM : OMetW l Z P y bytes maxL ret rm as' h Q) (hZ : Z.Warmed39 s.vm) (hP : ∀ vm, s.WarmedH vm → P vm) (wc : (Jvm.Cond.code y bytes maxL ret).before a0 Z = true) (wz : (Jvm.Cond.initialized y.cls).before a0 Z = true) (hf : rm.frames + 1 ≤ R.frames) (hl : W + (maxL + 11) + rm.locals ≤ R.locals) :
    BackS l R p e below s args y len W (fun A a => a = as' ∧ A.U.heap = h ∧ A.cells + rm.cells ≤ R.cells ∧ A.slots + rm.slots ≤ R.slots)
      (fun A _ v B => ∃ L, Q v B.U.vm B.U.heap L ∧ B.locs = A.locs ++ L ∧ B.cells = A.cells + rm.cells ∧ B.slots = A.slots + rm.slots) :=
  BackS.of_freeW (bytes := bytes) (maxL := maxL) (ret := ret) (E := fun _ _ o t L k n => k = rm.cells ∧ n = rm.slots ∧ ∃ v, o = .returned v ∧ Q v t.vm t.heap L) (hM []) hf hl
    (fun m meth c A a Y hp => have hU : Z.Warmed39 A.U.vm := wtrans hZ Y.warmed
      ⟨by show (Jvm.Cond.and _ .tt).before a A.U = true; rw [Cond.before_and, mv hU wc]; rfl, mv hU wc, mv hU wz, hp.2.2.1, hp.2.2.2⟩)
    (fun m meth c A a g mk Y hp => ⟨hp.1, wtrans hZ Y.warmed, hp.2.1, hP _ Y.warmed⟩) (fun _ _ _ _ _ _ _ _ _ => trivial)
    (fun _ _ _ _ ⟨v, L, h1, h2, h3⟩ => ⟨L, _, _, h3, rfl, rfl, v, h1, h2⟩)
    (fun m meth c A a g mk v t L k n Y hp _ _ ⟨e1, e2, v', e3, e4⟩ => by cases e3; subst e1 e2; exact ⟨L, e4, rfl, rfl, rfl⟩)
theorem own_initW (X : Stand p l e R s m args below meth c T locs cells slots) (hx : p.tables.exec = Jvm.exec) (hZ : Z.Warmed39 s.vm) {own : String} {index : Nat} {y : MethodName} {bytes : ByteArray} {maxL : Nat} {rm : Room} {W : Nat} {a : Addr} {argsL rest : List Value} (hy1 : y.name = "<init>")
    (hown : s.vm.findClass own = some m.cls) (w1 : (Jvm.Cond.methodLink own index y).before a0 Z = true) (w2 : (Jvm.Cond.instanceMethod y).before a0 Z = true) (wz : (Jvm.Cond.initialized y.cls).before a0 Z = true) (wc : (Jvm.Cond.code y bytes maxL none).before a0 Z = true)
    (hM : OMetW l Z P y bytes maxL none rm (.ref a :: argsL).toArray h Q) (hP : ∀ vm, s.WarmedH vm → P vm) (eT : T.heap = h) {g : JFrame} (hg : g.method = m) (hsize : g.locals.size = c.maxLocals) (hlen : ∀ sig, parseMethodDescriptor y.desc = some sig → argsL.length = sig.parameters.length)
    (hstack : g.stack = argsL.reverse ++ .ref a :: rest) (hW : 2 * g.monitorRoom + (rest.map fun v => v.category).sum ≤ W) (hdg : decode c.code g.pc = .ok (.invokespecial index, 3))
    (hf : rm.frames + 1 ≤ R.frames) (hl : W + (maxL + 11) + rm.locals ≤ R.locals) (hc : cells + rm.cells ≤ R.cells) (hs : slots + rm.slots ≤ R.slots)
    (hy : y.cls ≠ "java/lang/invoke/MethodHandle" ∧ y.cls ≠ "java/lang/invoke/VarHandle" := by decide) :
    ∃ (v : Option Value) (T' : State) (L : List Loc), Stand p l e R (s.setVm T'.vm) m args below meth c T' (locs ++ L) (cells + rm.cells) (slots + rm.slots) ∧ s.Since T'.vm T'.heap.size ∧ Z.Warmed39 (s.setVm T'.vm).vm ∧ (s.setVm T'.vm).vm.findClass own = some m.cls ∧ Q v T'.vm T'.heap L ∧
      ∀ target, Steps p.tables e below (T'.setTop { g with pc := g.pc + 3, stack := v.toList ++ rest }) target → Steps p.tables e below (T.setTop g) target := by
  obtain ⟨v, vm₁, ⟨T', L', k', n'⟩, -, X', hS, -, ⟨L, hQ, l1, y1, z1⟩, st⟩ := X.specialBackS hx hy1 hown (mvT hZ w1) (mvT hZ w2) (mvT hZ wc) hy (own_backW (W := W) hM hZ hP wc wz hf hl) hg hsize (Steps.refl _) hlen hstack hW hdg (fun _ _ => ⟨rfl, eT, hc, hs⟩)
  dsimp only [Pt.U, Pt.locs, Pt.cells, Pt.slots] at X' l1 y1 z1 st hQ hS
  subst l1 y1 z1
  exact ⟨v, T', L, X', hS, State.Warmed39.trans hZ hS.1, by rw [show (s.setVm T'.vm).vm = T'.vm from rfl, hS.1.alike.findClass]; exact hown, hQ, fun t k => st.trans k⟩
theorem own_staticW (X : Stand p l e R s m args below meth c T locs cells slots) (hx : p.tables.exec = Jvm.exec) (hZ : Z.Warmed39 s.vm) {own : String} {index : Nat} {y : MethodName} {bytes : ByteArray} {maxL : Nat} {ret : Option FieldType} {rm : Room} {W : Nat} {argsL rest : List Value}
    (hown : s.vm.findClass own = some m.cls) (w1 : (Jvm.Cond.methodLink own index y).before a0 Z = true) (w2 : (Jvm.Cond.static y).before a0 Z = true) (wz : (Jvm.Cond.initialized y.cls).before a0 Z = true) (wc : (Jvm.Cond.code y bytes maxL ret).before a0 Z = true)
    (hM : OMetW l Z P y bytes maxL ret rm argsL.toArray h Q) (hP : ∀ vm, s.WarmedH vm → P vm) (eT : T.heap = h) {g : JFrame} (hg : g.method = m) (hsize : g.locals.size = c.maxLocals) (hlen : ∀ sig, parseMethodDescriptor y.desc = some sig → argsL.length = sig.parameters.length)
    (hstack : g.stack = argsL.reverse ++ rest) (hW : 2 * g.monitorRoom + (rest.map fun v => v.category).sum ≤ W) (hdg : decode c.code g.pc = .ok (.invokestatic index, 3))
    (hf : rm.frames + 1 ≤ R.frames) (hl : W + (maxL + 11) + rm.locals ≤ R.locals) (hc : cells + rm.cells ≤ R.cells) (hs : slots + rm.slots ≤ R.slots)
    (hy : y.cls ≠ "java/lang/invoke/MethodHandle" ∧ y.cls ≠ "java/lang/invoke/VarHandle" := by decide) :
    ∃ (v : Option Value) (T' : State) (L : List Loc), Stand p l e R (s.setVm T'.vm) m args below meth c T' (locs ++ L) (cells + rm.cells) (slots + rm.slots) ∧ s.Since T'.vm T'.heap.size ∧ Z.Warmed39 (s.setVm T'.vm).vm ∧ (s.setVm T'.vm).vm.findClass own = some m.cls ∧ Q v T'.vm T'.heap L ∧
      ∀ target, Steps p.tables e below (T'.setTop { g with pc := g.pc + 3, stack := v.toList ++ rest }) target → Steps p.tables e below (T.setTop g) target := by
  obtain ⟨v, vm₁, ⟨T', L', k', n'⟩, -, X', hS, -, ⟨L, hQ, l1, y1, z1⟩, st⟩ := callSS X hx hown (mvT hZ w1) (mvT hZ w2) (mvT hZ wz) (mvT hZ wc) hy (own_backW (W := W) hM hZ hP wc wz hf hl) hg hsize hlen hstack hW hdg (fun _ _ => ⟨rfl, eT, hc, hs⟩)
  dsimp only [Pt.U, Pt.locs, Pt.cells, Pt.slots] at X' l1 y1 z1 st hQ hS
  subst l1 y1 z1
  exact ⟨v, T', L, X', hS, State.Warmed39.trans hZ hS.1, by rw [show (s.setVm T'.vm).vm = T'.vm from rfl, hS.1.alike.findClass]; exact hown, hQ, fun t k => st.trans k⟩
/-- what the tables and the heap say of the empty String constant of java/lang/String: nothing has been loaded since Z's time, or it has been loaded and here it lies -/
def OLitAt (Z : State) (vm : Vm) (h : Heap) (la lb : Addr) (lk : ClassId) : Prop := Lit (Z.setVm vm) "java/lang/String" 7 la ∧ Exa Z h la "java/lang/String" ∧ Fld Z h la "java/lang/String" "coder" "B" (.int 0) ∧ Fld Z h la "java/lang/String" "value" "[B" (.ref lb) ∧ Arv Z h lb lk .byte (0 : Int32) [] (.int 0)
def OLit (Z : State) (h : Heap) (vm : Vm) : Prop := IB Z vm [] ∨ ∃ la lb lk, OLitAt Z vm h la lb lk
theorem OLit.start : OLit Z Z.heap Z.vm := Or.inl IB.start
theorem IB.warm {Ts : List String} {vm : Vm} (hW : s.WarmedH vm) (I : IB Z s.vm Ts) : IB Z vm Ts := by obtain ⟨more, e1, e2⟩ := I; exact ⟨more, hW.interned_eq.trans e1, e2⟩
theorem OLitAt.warm {la lb : Addr} {lk : ClassId} {vm : Vm} (hW : s.WarmedH vm) (F : OLitAt Z s.vm h la lb lk) : OLitAt Z vm h la lb lk := ⟨State.resolvedAt?_warmed39 (s := s) hW.wide F.1, F.2⟩
theorem OLit.warm {vm : Vm} (hW : s.WarmedH vm) (F : OLit Z h s.vm) : OLit Z h vm := F.imp (IB.warm hW) (fun ⟨a, b, k, F⟩ => ⟨a, b, k, F.warm hW⟩)
theorem OLitAt.keep {h' : Heap} {ws : List Addr} {la lb : Addr} {lk : ClassId} {vm : Vm} (F : OLitAt Z vm h la lb lk) (K : Keep h h' ws) (n1 : la ∉ ws) (n2 : lb ∉ ws) : OLitAt Z vm h' la lb lk := ⟨F.1, F.2.1.keep K, F.2.2.1.keep K n1, F.2.2.2.1.keep K n1, F.2.2.2.2.keep K n2⟩
theorem OLit.keep {h' : Heap} {vm : Vm} (F : OLit Z h vm) (K : Keep h h' []) : OLit Z h' vm := F.imp id (fun ⟨a, b, k, F⟩ => ⟨a, b, k, F.keep K nin0 nin0⟩)
/-- 'ldc' of the empty String constant in java/lang/String's own code -/
theorem own_ldcE (X : Stand p l e R s m args below meth c T [] cells slots) (hx : p.tables.exec = Jvm.exec) (hZ : Z.Warmed39 s.vm) (hown : s.vm.findClass "java/lang/String" = some m.cls) (w : (Jvm.Cond.stringLink "java/lang/String" 7 "").before a0 Z = true) (wS : ∀ a ∈ Bundle.stringAtoms, a.before a0 Z = true)
    (eT : T.heap = h) (eS : s.heap = h) {n0 : Nat} (O : Old Z n0 h) (F : OLit Z h s.vm) (hh : Jvm.Lit.constHeld Z "java/lang/String" 7) (hcw : Jvm.Lit.compactW.before a0 Z = true)
    {g : JFrame} (hg : g.method = m) (hd : decode c.code g.pc = .ok (.ldc 7, 2)) (hc : cells + 2 ≤ R.cells) (hl' : slots + 4 ≤ R.slots) :
    ∃ (la lb : Addr) (lk : ClassId) (T' : State) (h' : Heap) (k1 : Nat), Stand p l e R (s.setVm T'.vm) m args below meth c T' [] (cells + 2) (slots + 4) ∧ T'.heap = h' ∧ Ext h h' ∧ s.Since T'.vm k1 ∧ k1 ≤ h'.size ∧ Z.Warmed39 (s.setVm T'.vm).vm ∧ (s.setVm T'.vm).vm.findClass "java/lang/String" = some m.cls ∧ OLitAt Z T'.vm h' la lb lk ∧
      ∀ target, Steps p.tables e below (T'.setTop { g with pc := g.pc + 2, stack := .ref la :: g.stack }) target → Steps p.tables e below (T.setTop g) target := by
  rcases F with I | ⟨la, lb, lk, F⟩
  · obtain ⟨a, T', h', k1, b, k, X', e', E', S', hk', Z', own', Ex, Co, Va, Ar, -, -, -, Li, st⟩ := ldcSVL (s := s) (vm0 := s.vm) (Ts := []) X hx hZ hown w wS eT ((State.WarmedH.refl s).since 0) (Nat.zero_le _) (Fr.nil _) (fun b cl q => by rw [eS]; exact O.2.2 b cl q) I (by simp) hh hcw (vs := []) (z := 0) ⟨by decide, rfl⟩ (by decide) (by decide) hg hd (n := 0) (by decide) (by decide) hc hl'
    exact ⟨a, b, k, T', h', k1, X', e', E', S', hk', Z', own', ⟨Li, Ex, Co, Va, Ar⟩, st⟩
  · have F' : OLitAt Z T.vm h la lb lk := F.warm X.warmed
    exact ⟨la, lb, lk, T, h, 0, (X.mono (by omega) (by omega)).retabled X.warmed.wide, eT, ⟨Nat.le_refl _, fun _ _ q => q⟩, X.warmed.since 0, Nat.zero_le _, State.Warmed39.trans (t := s) hZ X.warmed.wide, by rw [show (s.setVm T.vm).vm = T.vm from rfl, X.warmed.wide.alike.findClass]; exact hown, F', ldcAgain (s := s) (vm0 := s.vm) X hx hZ hown w F.1 hg hd⟩
/-- .. a second time -/
theorem own_ldcA (X : Stand p l e R s m args below meth c T locs cells slots) (hx : p.tables.exec = Jvm.exec) (hZ : Z.Warmed39 s.vm) (hown : s.vm.findClass "java/lang/String" = some m.cls) (w : (Jvm.Cond.stringLink "java/lang/String" 7 "").before a0 Z = true) {la : Addr} (F : Lit s "java/lang/String" 7 la)
    {g : JFrame} (hg : g.method = m) (hd : decode c.code g.pc = .ok (.ldc 7, 2)) : ∀ target, Steps p.tables e below (T.setTop { g with pc := g.pc + 2, stack := .ref la :: g.stack }) target → Steps p.tables e below (T.setTop g) target :=
  ldcAgain (s := s) (vm0 := s.vm) X hx hZ hown w F hg hd
end OwnWide
theorem own_d2_11 : decode jdk_42_method_149_code 11 = .ok (.getfield 9, 3) := by decide +kernel
theorem own_d2_14 : decode jdk_42_method_149_code 14 = .ok (.putfield 9, 3) := by decide +kernel
theorem own_d2_17 : decode jdk_42_method_149_code 17 = .ok (.aload_n 0, 1) := by decide +kernel
theorem own_d2_18 : decode jdk_42_method_149_code 18 = .ok (.ldc 7, 2) := by decide +kernel
theorem own_d2_20 : decode jdk_42_method_149_code 20 = .ok (.getfield 15, 3) := by decide +kernel
theorem own_d2_23 : decode jdk_42_method_149_code 23 = .ok (.putfield 15, 3) := by decide +kernel
theorem own_d2_26 : decode jdk_42_method_149_code 26 = .ok (.return_, 1) := by decide +kernel
theorem own_pn2 : plainFor (⟨"java/lang/String", "<init>", "([CIILjava/lang/Void;)V"⟩ : MethodName) = true := plainFor_of_name (by first | (simp [plainName, overriddenIn]; done) | decide +kernel)
theorem own_ef2_RRIIN (m : MethodId) (x0 : Addr) (x1 : Addr) (x2 : Int32) (x3 : Int32) : entryFrame m #[(.ref x0), (.ref x1), (.int x2), (.int x3), .null] 6 = mkF m 0 #[.val (.ref x0), .val (.ref x1), .val (.int x2), .val (.int x3), .val .null, .unset] [] := by first | (simp [entryFrame, mkF, argsToLocals, Value.category]; done) | rfl
theorem own_d2_0 : decode jdk_42_method_149_code 0 = .ok (.aload_n 0, 1) := by decide +kernel
theorem own_d2_1 : decode jdk_42_method_149_code 1 = .ok (.invokespecial 1, 3) := by decide +kernel
theorem own_d2_4 : decode jdk_42_method_149_code 4 = .ok (.iload_n 3, 1) := by decide +kernel
theorem own_d2_5 : decode jdk_42_method_149_code 5 = .ok (.ifCond .ne 22, 3) := by decide +kernel
theorem own_d2_8 : decode jdk_42_method_149_code 8 = .ok (.aload_n 0, 1) := by decide +kernel
theorem own_d2_9 : decode jdk_42_method_149_code 9 = .ok (.ldc 7, 2) := by decide +kernel
theorem own_pn1 : plainFor (⟨"java/lang/String", "<init>", "([C)V"⟩ : MethodName) = true := plainFor_of_name (by first | (simp [plainName, overriddenIn]; done) | decide +kernel)
theorem own_ef1_RR (m : MethodId) (x0 : Addr) (x1 : Addr) : entryFrame m #[(.ref x0), (.ref x1)] 2 = mkF m 0 #[.val (.ref x0), .val (.ref x1)] [] := by first | (simp [entryFrame, mkF, argsToLocals, Value.category]; done) | rfl
theorem own_d1_0 : decode jdk_42_method_3_code 0 = .ok (.aload_n 0, 1) := by decide +kernel
theorem own_d1_1 : decode jdk_42_method_3_code 1 = .ok (.aload_n 1, 1) := by decide +kernel
theorem own_d1_2 : decode jdk_42_method_3_code 2 = .ok (.iconst 0, 1) := by decide +kernel
theorem own_d1_3 : decode jdk_42_method_3_code 3 = .ok (.aload_n 1, 1) := by decide +kernel
theorem own_d1_4 : decode jdk_42_method_3_code 4 = .ok (.arraylength, 1) := by decide +kernel
theorem own_d1_5 : decode jdk_42_method_3_code 5 = .ok (.aconst_null, 1) := by decide +kernel
theorem own_d1_6 : decode jdk_42_method_3_code 6 = .ok (.invokespecial 27, 3) := by decide +kernel
theorem own_pd0 : parseMethodDescriptor "([CIILjava/lang/Void;)V" = some ⟨[(.array .char), .int, .int, (.object "java/lang/Void")], none⟩ := by decide +kernel
theorem own_d1_9 : decode jdk_42_method_3_code 9 = .ok (.return_, 1) := by decide +kernel
theorem own_pn11 : plainFor (⟨"java/lang/StringLatin1", "canEncode", "(C)Z"⟩ : MethodName) = true := plainFor_of_name (by first | (simp [plainName, overriddenIn]; done) | decide +kernel)
theorem own_ef11_I (m : MethodId) (x0 : Int32) : entryFrame m #[(.int x0)] 1 = mkF m 0 #[.val (.int x0)] [] := by first | (simp [entryFrame, mkF, argsToLocals, Value.category]; done) | rfl
theorem own_d11_0 : decode jdk_43_method_3_code 0 = .ok (.iload_n 0, 1) := by decide +kernel
theorem own_d11_1 : decode jdk_43_method_3_code 1 = .ok (.sipush 255, 3) := by decide +kernel
theorem own_d11_4 : decode jdk_43_method_3_code 4 = .ok (.if_icmp .gt 7, 3) := by decide +kernel
theorem own_d11_7 : decode jdk_43_method_3_code 7 = .ok (.iconst 1, 1) := by decide +kernel
theorem own_d11_8 : decode jdk_43_method_3_code 8 = .ok (.goto 4, 3) := by decide +kernel
theorem own_d11_12 : decode jdk_43_method_3_code 12 = .ok (.ireturn, 1) := by decide +kernel
theorem own_pn12 : plainFor (⟨"java/lang/StringLatin1", "toBytes", "(C)[B"⟩ : MethodName) = true := plainFor_of_name (by first | (simp [plainName, overriddenIn]; done) | decide +kernel)
theorem own_ef12_I (m : MethodId) (x0 : Int32) : entryFrame m #[(.int x0)] 1 = mkF m 0 #[.val (.int x0)] [] := by first | (simp [entryFrame, mkF, argsToLocals, Value.category]; done) | rfl
theorem own_d12_0 : decode jdk_43_method_46_code 0 = .ok (.iconst 1, 1) := by decide +kernel
theorem own_d12_1 : decode jdk_43_method_46_code 1 = .ok (.newarray .byte, 2) := by decide +kernel
theorem own_d12_3 : decode jdk_43_method_46_code 3 = .ok (.dup, 1) := by decide +kernel
theorem own_d12_4 : decode jdk_43_method_46_code 4 = .ok (.iconst 0, 1) := by decide +kernel
theorem own_d12_5 : decode jdk_43_method_46_code 5 = .ok (.iload_n 0, 1) := by decide +kernel
theorem own_d12_6 : decode jdk_43_method_46_code 6 = .ok (.i2b, 1) := by decide +kernel
theorem own_d12_7 : decode jdk_43_method_46_code 7 = .ok (.bastore, 1) := by decide +kernel
theorem own_d12_8 : decode jdk_43_method_46_code 8 = .ok (.areturn, 1) := by decide +kernel
theorem own_pn13 : plainFor (⟨"java/lang/String", "<init>", "([BB)V"⟩ : MethodName) = true := plainFor_of_name (by first | (simp [plainName, overriddenIn]; done) | decide +kernel)
theorem own_ef13_RRI (m : MethodId) (x0 : Addr) (x1 : Addr) (x2 : Int32) : entryFrame m #[(.ref x0), (.ref x1), (.int x2)] 3 = mkF m 0 #[.val (.ref x0), .val (.ref x1), .val (.int x2)] [] := by first | (simp [entryFrame, mkF, argsToLocals, Value.category]; done) | rfl
theorem own_d13_0 : decode jdk_42_method_151_code 0 = .ok (.aload_n 0, 1) := by decide +kernel
theorem own_d13_1 : decode jdk_42_method_151_code 1 = .ok (.invokespecial 1, 3) := by decide +kernel
theorem own_d13_4 : decode jdk_42_method_151_code 4 = .ok (.aload_n 0, 1) := by decide +kernel
theorem own_d13_5 : decode jdk_42_method_151_code 5 = .ok (.aload_n 1, 1) := by decide +kernel
theorem own_d13_6 : decode jdk_42_method_151_code 6 = .ok (.putfield 9, 3) := by decide +kernel
theorem own_d13_9 : decode jdk_42_method_151_code 9 = .ok (.aload_n 0, 1) := by decide +kernel
theorem own_d13_10 : decode jdk_42_method_151_code 10 = .ok (.iload_n 2, 1) := by decide +kernel
theorem own_d13_11 : decode jdk_42_method_151_code 11 = .ok (.putfield 15, 3) := by decide +kernel
theorem own_d13_14 : decode jdk_42_method_151_code 14 = .ok (.return_, 1) := by decide +kernel
theorem own_pn10 : plainFor (⟨"java/lang/String", "valueOf", "(C)Ljava/lang/String;"⟩ : MethodName) = true := plainFor_of_name (by first | (simp [plainName, overriddenIn]; done) | decide +kernel)
theorem own_ef10_I (m : MethodId) (x0 : Int32) : entryFrame m #[(.int x0)] 1 = mkF m 0 #[.val (.int x0)] [] := by first | (simp [entryFrame, mkF, argsToLocals, Value.category]; done) | rfl
theorem own_d10_0 : decode jdk_42_method_139_code 0 = .ok (.getstatic 38, 3) := by decide +kernel
theorem own_d10_3 : decode jdk_42_method_139_code 3 = .ok (.ifCond .eq 23, 3) := by decide +kernel
theorem own_d10_6 : decode jdk_42_method_139_code 6 = .ok (.iload_n 0, 1) := by decide +kernel
theorem own_d10_7 : decode jdk_42_method_139_code 7 = .ok (.invokestatic 1015, 3) := by decide +kernel
theorem own_pd1 : parseMethodDescriptor "(C)Z" = some ⟨[.char], some .boolean⟩ := by decide +kernel
theorem own_d10_10 : decode jdk_42_method_139_code 10 = .ok (.ifCond .eq 16, 3) := by decide +kernel
theorem own_d10_13 : decode jdk_42_method_139_code 13 = .ok (.new 10, 3) := by decide +kernel
theorem own_d10_16 : decode jdk_42_method_139_code 16 = .ok (.dup, 1) := by decide +kernel
theorem own_d10_17 : decode jdk_42_method_139_code 17 = .ok (.iload_n 0, 1) := by decide +kernel
theorem own_d10_18 : decode jdk_42_method_139_code 18 = .ok (.invokestatic 1018, 3) := by decide +kernel
theorem own_pd2 : parseMethodDescriptor "(C)[B" = some ⟨[.char], some (.array .byte)⟩ := by decide +kernel
theorem own_d10_21 : decode jdk_42_method_139_code 21 = .ok (.iconst 0, 1) := by decide +kernel
theorem own_d10_22 : decode jdk_42_method_139_code 22 = .ok (.invokespecial 209, 3) := by decide +kernel
theorem own_pd3 : parseMethodDescriptor "([BB)V" = some ⟨[(.array .byte), .byte], none⟩ := by decide +kernel
theorem own_d10_25 : decode jdk_42_method_139_code 25 = .ok (.areturn, 1) := by decide +kernel
theorem own_pn5 : plainFor (⟨"java/lang/Record", "<init>", "()V"⟩ : MethodName) = true := plainFor_of_name (by first | (simp [plainName, overriddenIn]; done) | decide +kernel)
theorem own_ef5_R (m : MethodId) (x0 : Addr) : entryFrame m #[(.ref x0)] 1 = mkF m 0 #[.val (.ref x0)] [] := by first | (simp [entryFrame, mkF, argsToLocals, Value.category]; done) | rfl
theorem own_d5_0 : decode jdk_30_method_1_code 0 = .ok (.aload_n 0, 1) := by decide +kernel
theorem own_d5_1 : decode jdk_30_method_1_code 1 = .ok (.invokespecial 1, 3) := by decide +kernel
theorem own_d5_4 : decode jdk_30_method_1_code 4 = .ok (.return_, 1) := by decide +kernel
theorem own_pn4 : plainFor (⟨"com/example/ordinate/ordinate/client/ServerStatus", "<init>", "(Ljava/lang/String;Ljava/util/Map;)V"⟩ : MethodName) = true := plainFor_of_name (by first | (simp [plainName, overriddenIn]; done) | decide +kernel)
theorem own_ef4_RRN (m : MethodId) (x0 : Addr) (x1 : Addr) : entryFrame m #[(.ref x0), (.ref x1), .null] 3 = mkF m 0 #[.val (.ref x0), .val (.ref x1), .val .null] [] := by first | (simp [entryFrame, mkF, argsToLocals, Value.category]; done) | rfl
theorem own_d4_0 : decode prog_33_method_1_code 0 = .ok (.aload_n 0, 1) := by decide +kernel
theorem own_d4_1 : decode prog_33_method_1_code 1 = .ok (.invokespecial 1, 3) := by decide +kernel
theorem own_pd4 : parseMethodDescriptor "()V" = some ⟨[], none⟩ := by decide +kernel
theorem own_d4_4 : decode prog_33_method_1_code 4 = .ok (.aload_n 0, 1) := by decide +kernel
theorem own_d4_5 : decode prog_33_method_1_code 5 = .ok (.aload_n 1, 1) := by decide +kernel
theorem own_d4_6 : decode prog_33_method_1_code 6 = .ok (.putfield 7, 3) := by decide +kernel
theorem own_d4_9 : decode prog_33_method_1_code 9 = .ok (.aload_n 0, 1) := by decide +kernel
theorem own_d4_10 : decode prog_33_method_1_code 10 = .ok (.aload_n 2, 1) := by decide +kernel
theorem own_d4_11 : decode prog_33_method_1_code 11 = .ok (.putfield 13, 3) := by decide +kernel
theorem own_d4_14 : decode prog_33_method_1_code 14 = .ok (.return_, 1) := by decide +kernel
theorem own_ef4_RNN (m : MethodId) (x0 : Addr) : entryFrame m #[(.ref x0), .null, .null] 3 = mkF m 0 #[.val (.ref x0), .val .null, .val .null] [] := by first | (simp [entryFrame, mkF, argsToLocals, Value.category]; done) | rfl
theorem own_pn6 : plainFor (⟨"com/example/ordinate/ordinate/client/ServerStatus", "isStandby", "()Z"⟩ : MethodName) = true := plainFor_of_name (by first | (simp [plainName, overriddenIn]; done) | decide +kernel)
theorem own_ef6_R (m : MethodId) (x0 : Addr) : entryFrame m #[(.ref x0)] 1 = mkF m 0 #[.val (.ref x0)] [] := by first | (simp [entryFrame, mkF, argsToLocals, Value.category]; done) | rfl
theorem own_d6_0 : decode prog_33_method_2_code 0 = .ok (.aload_n 0, 1) := by decide +kernel
theorem own_d6_1 : decode prog_33_method_2_code 1 = .ok (.getfield 7, 3) := by decide +kernel
theorem own_d6_4 : decode prog_33_method_2_code 4 = .ok (.ifnull 7, 3) := by decide +kernel
theorem own_d6_7 : decode prog_33_method_2_code 7 = .ok (.iconst 1, 1) := by decide +kernel
theorem own_d6_8 : decode prog_33_method_2_code 8 = .ok (.goto 4, 3) := by decide +kernel
theorem own_d6_12 : decode prog_33_method_2_code 12 = .ok (.ireturn, 1) := by decide +kernel
theorem own_d6_11 : decode prog_33_method_2_code 11 = .ok (.iconst 0, 1) := by decide +kernel
theorem own_pd5 : parseMethodDescriptor "(Ljava/lang/String;Ljava/util/Map;)V" = some ⟨[(.object "java/lang/String"), (.object "java/util/Map")], none⟩ := by decide +kernel
theorem own_pd6 : parseMethodDescriptor "()Z" = some ⟨[], some .boolean⟩ := by decide +kernel
theorem own_pd7 : parseMethodDescriptor "([C)V" = some ⟨[(.array .char)], none⟩ := by decide +kernel
theorem own_pd8 : parseMethodDescriptor "(C)Ljava/lang/String;" = some ⟨[.char], some (.object "java/lang/String")⟩ := by decide +kernel
theorem own_pn0 : plainFor (⟨"com/example/ordinate/ordinate/client/ServerStatusIsStandbyPinLaw", "law", "(IIII)Z"⟩ : MethodName) = true := plainFor_of_name (by first | (simp [plainName, overriddenIn]; done) | decide +kernel)
theorem own_ef0_IIII (m : MethodId) (x0 : Int32) (x1 : Int32) (x2 : Int32) (x3 : Int32) : entryFrame m #[(.int x0), (.int x1), (.int x2), (.int x3)] maxLocals = mkF m 0 #[.val (.int x0), .val (.int x1), .val (.int x2), .val (.int x3), .unset, .unset, .unset, .unset, .unset, .unset, .unset, .unset, .unset] [] := by first | (simp [entryFrame, mkF, argsToLocals, Value.category, maxLocals]; done) | rfl
theorem own_u16 (x : Int32) : ¬ x.toUInt32.toUInt16.toUInt32.toInt32 < 0 ∧ x.toUInt32.toUInt16.toUInt32.toInt32.toBitVec.toNat = x.toBitVec.toNat % 65536 := by
  have e : x.toUInt32.toUInt16.toUInt32.toInt32.toBitVec.toNat = x.toUInt32.toUInt16.toNat := UInt16.toNat_toUInt32 _
  have e2 : x.toUInt32.toUInt16.toNat = x.toBitVec.toNat % 65536 := UInt32.toNat_toUInt16 _
  have h := x.toUInt32.toUInt16.toNat_lt
  refine ⟨?_, by rw [e, e2]⟩
  rw [Int32.lt_iff_toInt_lt, show x.toUInt32.toUInt16.toUInt32.toInt32.toInt = x.toUInt32.toUInt16.toUInt32.toInt32.toBitVec.toInt from rfl, BitVec.toInt_eq_toNat_bmod, e, Int.bmod_def]
  show ¬ _ < 0
  omega
theorem own_i2c {x : Int32} (h0 : 0 ≤ x.toInt) (h1 : x.toInt ≤ 255) : x.toUInt32.toUInt16.toUInt32.toInt32 = x := by
  apply Int32.toInt_inj.mp
  have e := (own_u16 x).2
  have hn : x.toInt = x.toBitVec.toNat := by
    rw [show x.toInt = x.toBitVec.toInt from rfl, BitVec.toInt_eq_toNat_cond]
    rw [show x.toInt = x.toBitVec.toInt from rfl, BitVec.toInt_eq_toNat_cond] at h0
    split
    · rfl
    · rename_i hq; rw [if_neg hq] at h0; have := x.toBitVec.isLt; omega
  rw [show x.toUInt32.toUInt16.toUInt32.toInt32.toInt = x.toUInt32.toUInt16.toUInt32.toInt32.toBitVec.toInt from rfl, BitVec.toInt_eq_toNat_cond, e]
  split <;> omega
theorem own_c8 (x : Int32) : 0 ≤ (x &&& 255).toUInt32.toUInt16.toUInt32.toInt32.toInt ∧ (x &&& 255).toUInt32.toUInt16.toUInt32.toInt32.toInt ≤ 255 := by
  have e : (x &&& 255).toInt = x.toInt % 2 ^ 8 := Jvm.Kit.i32_mask x 255 (k := 8) (by decide) (by decide)
  rw [own_i2c (by omega) (by omega)]; omega
theorem own_lt {x y : Int32} : x < y ↔ x.toInt < y.toInt := Int32.lt_iff_toInt_lt
theorem own_ncE {c : Int32} (h : 0 ≤ c.toInt ∧ c.toInt ≤ 255) : nar .char c = c := own_i2c h.1 h.2
theorem own_nc0 {c : Int32} (h : 0 ≤ c.toInt ∧ c.toInt ≤ 255) : ¬ c < 0 ∧ ¬ (255 : Int32) < c := by
  rw [own_lt, own_lt]
  have e0 : (0 : Int32).toInt = 0 := rfl
  have e1 : (255 : Int32).toInt = 255 := rfl
  omega
theorem own_nc {c : Int32} (h : 0 ≤ c.toInt ∧ c.toInt ≤ 255) : ¬ nar .char c < 0 ∧ ¬ (255 : Int32) < nar .char c := by
  rw [own_ncE h]; exact own_nc0 h
theorem own_nq {c : Int32} (h : 0 ≤ c.toInt ∧ c.toInt ≤ 255) : ¬ (255 : Int32) < c := (own_nc0 h).2
set_option maxRecDepth 65536 in
set_option maxHeartbeats 40000000 in
theorem own_pSE {l : Launch} {Z : State} {a0 : Array Value} (hw : ∀ d ∈ tables_1, d.before a0 Z = true) {p : Program} {e : Env} {s : State} {m : MethodId} {args : Array Value} {below : List Frame} {meth : Method} {c : Code} (hC : OCtx Z p s m meth c "java/lang/String" "<init>" jdk_42_method_149_code 6 none) {T0 : State} {locs : List Loc} {cells slots : Nat} (X0 : Stand p l e (⟨1, 2, 4, 12⟩ : Room) s m args below meth c T0 locs cells slots) {h0 : Heap} (e0 : T0.heap = h0) (x b la lb : Addr) (lk : ClassId) (q1 q2 : Int32) (n0 : Nat) (Li : Lit s "java/lang/String" 7 la) (F : Exa Z h0 la "java/lang/String" ∧ Fld Z h0 la "java/lang/String" "coder" "B" (.int 0) ∧ Fld Z h0 la "java/lang/String" "value" "[B" (.ref lb) ∧ Arv Z h0 lb lk .byte (0 : Int32) [] (.int 0)) (E_x : Exa Z h0 x "java/lang/String") (F_v : Fld Z h0 x "java/lang/String" "value" "[B" .null) (F_c : Fld Z h0 x "java/lang/String" "coder" "B" (.int (0 : Int32))) (g_x : n0 ≤ x) (N0 : Fr n0 locs) (ne_la_x : la ≠ x) (ne_lb_x : lb ≠ x) (hcs : cells ≤ 2) (hss : slots ≤ 4) :
    OFin p e below s 2 4 (fun v h L => v = none ∧ Fr n0 L ∧ Keep h0 h [x] ∧ (Exa Z h x "java/lang/String" ∧ Fld Z h x "java/lang/String" "value" "[B" (.ref lb) ∧ Fld Z h x "java/lang/String" "coder" "B" (.int 0)) ∧ Exa Z h la "java/lang/String" ∧ Fld Z h la "java/lang/String" "coder" "B" (.int 0) ∧ Fld Z h la "java/lang/String" "value" "[B" (.ref lb) ∧ Arv Z h lb lk .byte (0 : Int32) [] (.int 0)) (T0.setTop (mkF m 11 #[.val (.ref x), .val (.ref b), .val (.int q1), .val (.int q2), .val .null, .unset] [(.ref la), (.ref x)])) := by
  have hC0 := hC
  obtain ⟨hx, hZ, hby, hml, hown, hret, hlk, hnm⟩ := hC
  obtain ⟨E_l, C_l, V_l, A_l⟩ := F
  have kp0 := Keep.refl h0 [x]
  obtain ⟨T1, X1, e1, st1⟩ := getF X0 hx hZ hown (host := "") (Or.inl (own_w hw 20 rfl)) Via.refl e0 V_l (g := (mkF m 11 #[.val (.ref x), .val (.ref b), .val (.int q1), .val (.int q2), .val .null, .unset] [(.ref la), (.ref x)])) rfl rfl (hb hby own_d2_11)
  refine own_st (st1) ?_
  clear st1 X0 e0
  show OFin p e below s _ _ _ (T1.setTop (mkF m 14 #[.val (.ref x), .val (.ref b), .val (.int q1), .val (.int q2), .val .null, .unset] [(.ref lb), (.ref x)]))
  obtain ⟨T2, h2, X2, e2, W2, st2⟩ := putF X1 hx hZ hown (host := "") (Or.inl (own_w hw 20 rfl)) Via.refl e1 F_v E_x (Or.inr ⟨(own_w hw 16 rfl), rfl, hnm⟩) (own_w hw 1 rfl) (ty := (.array .byte)) (by decide) rfl rfl (g := (mkF m 14 #[.val (.ref x), .val (.ref b), .val (.int q1), .val (.int q2), .val .null, .unset] [(.ref lb), (.ref x)])) rfl rfl (hb hby own_d2_14)
  have f3 := F_v.same W2
  have f4 := E_x.wr W2
  have f6 := F_c.other W2 (Or.inr (slot_ne (Or.inr (own_w hw 17 rfl)) (Or.inr (own_w hw 16 rfl)) (by decide) (t := .byte) (t' := (.array .byte)) (by decide) (by decide)))
  have f7 := E_l.wr W2
  have f8 := V_l.other W2 (Or.inl ne_la_x)
  have f9 := C_l.other W2 (Or.inl ne_la_x)
  have f10 := A_l.other W2 ne_lb_x
  have fr2 := Fr.snoc X2 N0 g_x
  clear N0
  have kp2 := kp0.wr W2 (Or.inl (List.mem_of_getElem? (i := 0) rfl))
  clear kp0
  refine own_st (st2) ?_
  clear st2 X1 e1 W2
  show OFin p e below s _ _ _ (T2.setTop (mkF m 17 #[.val (.ref x), .val (.ref b), .val (.int q1), .val (.int q2), .val .null, .unset] []))
  refine own_st (fun _ kS => XS.aloadN X2.here hx rfl (hb hby own_d2_17) rfl rfl kS) ?_
  show OFin p e below s _ _ _ (T2.setTop (mkF m 18 #[.val (.ref x), .val (.ref b), .val (.int q1), .val (.int q2), .val .null, .unset] [(.ref x)]))
  refine own_st (own_ldcA X2 hx hZ hown (own_w hw 14 rfl) Li (g := (mkF m 18 #[.val (.ref x), .val (.ref b), .val (.int q1), .val (.int q2), .val .null, .unset] [(.ref x)])) rfl (hb hby own_d2_18)) ?_
  show OFin p e below s _ _ _ (T2.setTop (mkF m 20 #[.val (.ref x), .val (.ref b), .val (.int q1), .val (.int q2), .val .null, .unset] [(.ref la), (.ref x)]))
  obtain ⟨T11, X11, e11, st11⟩ := getF X2 hx hZ hown (host := "") (Or.inl (own_w hw 21 rfl)) Via.refl e2 f9 (g := (mkF m 20 #[.val (.ref x), .val (.ref b), .val (.int q1), .val (.int q2), .val .null, .unset] [(.ref la), (.ref x)])) rfl rfl (hb hby own_d2_20)
  refine own_st (st11) ?_
  clear st11 X2 e2
  show OFin p e below s _ _ _ (T11.setTop (mkF m 23 #[.val (.ref x), .val (.ref b), .val (.int q1), .val (.int q2), .val .null, .unset] [(.int (0 : Int32)), (.ref x)]))
  obtain ⟨T12, h12, X12, e12, W12, st12⟩ := putFN X11 hx hZ hown (own_w hw 21 rfl) Via.refl e11 f6 f4 (Or.inr ⟨(own_w hw 17 rfl), rfl, hnm⟩) (own_w hw 1 rfl) (ty := .byte) (v' := (.int (nar .byte (0 : Int32)))) (by decide) rfl (fits_nar_byte _) (g := (mkF m 23 #[.val (.ref x), .val (.ref b), .val (.int q1), .val (.int q2), .val .null, .unset] [(.int (0 : Int32)), (.ref x)])) rfl rfl (hb hby own_d2_23)
  have f13 := f6.same W12
  have f14 := f4.wr W12
  clear f4
  have f15 := f3.other W12 (Or.inr (slot_ne (Or.inr (own_w hw 16 rfl)) (Or.inr (own_w hw 17 rfl)) (by decide) (t := (.array .byte)) (t' := .byte) (by decide) (by decide)))
  clear f3
  have f17 := f7.wr W12
  clear f7
  have f18 := f8.other W12 (Or.inl ne_la_x)
  clear f8
  have f19 := f9.other W12 (Or.inl ne_la_x)
  clear f9
  have f20 := f10.other W12 ne_lb_x
  clear f10
  have fr12 := Fr.snoc X12 fr2 g_x
  clear fr2
  have kp12 := kp2.wr W12 (Or.inl (List.mem_of_getElem? (i := 0) rfl))
  clear kp2
  refine own_st (st12) ?_
  clear st12 X11 e11 W12 f6
  show OFin p e below s _ _ _ (T12.setTop (mkF m 26 #[.val (.ref x), .val (.ref b), .val (.int q1), .val (.int q2), .val .null, .unset] []))
  exact own_retV X12 hx hret hlk (hb hby own_d2_26) hcs hss (by show _ ∧ _ ∧ Keep h0 T12.heap _ ∧ _ ∧ _; rw [e12]; exact ⟨rfl, fr12, kp12, ⟨f14, f15, f13⟩, f17, f19, f18, f20⟩)
set_option maxRecDepth 65536 in
set_option maxHeartbeats 40000000 in
theorem rmSE (l : Launch) (Z : State) (a0 : Array Value) (hw : ∀ d ∈ tables_1, d.before a0 Z = true) (x : Addr) (b : Addr) (q1 : Int32) (q2 : Int32) (h0 : Heap) (n0 : Nat) (E_x : Exa Z h0 x "java/lang/String") (F_v : Fld Z h0 x "java/lang/String" "value" "[B" .null) (F_c : Fld Z h0 x "java/lang/String" "coder" "B" (.int (0 : Int32))) (g_x : n0 ≤ x) (O : Old Z n0 h0) (hh : Jvm.Lit.constHeld Z "java/lang/String" 7) (hcw : Jvm.Lit.compactW.before a0 Z = true) (hq : q2 = 0) :
    OMetW l Z (OLit Z h0) (⟨"java/lang/String", "<init>", "([CIILjava/lang/Void;)V"⟩ : MethodName) jdk_42_method_149_code 6 none (⟨1, 2, 4, 12⟩ : Room) #[(.ref x), (.ref b), (.int q1), (.int q2), .null] h0 (fun v vm h L => v = none ∧ Fr n0 L ∧ Keep h0 h [x] ∧ ∃ la lb lk, OLitAt Z vm h la lb lk ∧ Exa Z h x "java/lang/String" ∧ Fld Z h x "java/lang/String" "value" "[B" (.ref lb) ∧ Fld Z h x "java/lang/String" "coder" "B" (.int 0)) := by
  refine own_enterW own_pn2 ?_
  intro p e s m below meth c T0 X0 hC e0 eS hPv
  have hC0 := hC
  obtain ⟨hx, hZ, hby, hml, hown, hret, hlk, hnm⟩ := hC
  have hown : s.vm.findClass "java/lang/String" = some m.cls := hown
  refine own_atE (own_ef2_RRIIN m x b q1 q2) ?_
  show OFinE p e below _ (T0.setTop (mkF m 0 #[.val (.ref x), .val (.ref b), .val (.int q1), .val (.int q2), .val .null, .unset] []))
  refine own_stE (fun _ kS => XS.aloadN X0.here hx rfl (hb hby own_d2_0) rfl rfl kS) ?_
  show OFinE p e below _ (T0.setTop (mkF m 1 #[.val (.ref x), .val (.ref b), .val (.int q1), .val (.int q2), .val .null, .unset] [(.ref x)]))
  obtain ⟨T21, X21, e21, st21⟩ := initO X0 hx hZ hown (own_w hw 11 rfl) (own_w hw 12 rfl) (own_w hw 13 rfl) e0 (g := (mkF m 1 #[.val (.ref x), .val (.ref b), .val (.int q1), .val (.int q2), .val .null, .unset] [(.ref x)])) rfl (by rw [hml]; rfl) rfl (hb hby own_d2_1) (by decide) (W := 0) (by show 2 * 0 + _ ≤ _; exact Nat.le_of_eq rfl) (by decide)
  refine own_stE (st21) ?_
  clear st21 X0 e0
  show OFinE p e below _ (T21.setTop (mkF m 4 #[.val (.ref x), .val (.ref b), .val (.int q1), .val (.int q2), .val .null, .unset] []))
  refine own_stE (fun _ kS => XS.iloadN X21.here hx rfl (hb hby own_d2_4) rfl kS) ?_
  show OFinE p e below _ (T21.setTop (mkF m 5 #[.val (.ref x), .val (.ref b), .val (.int q1), .val (.int q2), .val .null, .unset] [(.int q2)]))
  refine own_stE (fun _ kS => XS.ifNo X21.here hx rfl (hb hby own_d2_5) rfl ((if0 _ _).trans (teq hq).2) kS) ?_
  show OFinE p e below _ (T21.setTop (mkF m 8 #[.val (.ref x), .val (.ref b), .val (.int q1), .val (.int q2), .val .null, .unset] []))
  refine own_stE (fun _ kS => XS.aloadN X21.here hx rfl (hb hby own_d2_8) rfl rfl kS) ?_
  show OFinE p e below _ (T21.setTop (mkF m 9 #[.val (.ref x), .val (.ref b), .val (.int q1), .val (.int q2), .val .null, .unset] [(.ref x)]))
  have wS : ∀ a ∈ Bundle.stringAtoms, a.before a0 Z = true := fun d hd => hw d ((by decide +kernel : ∀ d ∈ Bundle.stringAtoms, d ∈ tables_1) d hd)
  obtain ⟨la, lb, lk, T9, h9, k9, X9, e9, E9, S9, hk9, hZ, hown, F9, st9⟩ := own_ldcE X21 hx hZ hown (own_w hw 14 rfl) wS e21 eS O hPv hh hcw (g := (mkF m 9 #[.val (.ref x), .val (.ref b), .val (.int q1), .val (.int q2), .val .null, .unset] [(.ref x)])) rfl (hb hby own_d2_9) (by decide) (by decide)
  refine own_stE (st9) ?_
  exact own_narrow S9 (own_pSE hw ⟨hx, hZ, hby, hml, hown, hret, hlk, hnm⟩ X9 e9 x b la lb lk q1 q2 n0 F9.1 F9.2 (E_x.ext E9) (F_v.ext E9) (F_c.ext E9) g_x (Fr.nil n0) (Fld.ne F9.2.2.2.1 (F_v.ext E9) (by intro q; cases q)) (Ne.symm (Exa.neArv (E_x.ext E9) F9.2.2.2.2 (own_w hw 1 rfl))) (by decide) (by decide)) (fun v vm h L hW q => ⟨Nat.le_trans hk9 q.2.2.1.1, q.1, q.2.1, ((Keep.refl h0 [x]).ext E9).trans q.2.2.1 (allS (Or.inl (List.mem_of_getElem? (i := 0) rfl)) all0), la, lb, lk, ⟨State.resolvedAt?_warmed39 (s := s.setVm T9.vm) hW.wide F9.1, q.2.2.2.2⟩, q.2.2.2.1⟩)
set_option maxRecDepth 65536 in
set_option maxHeartbeats 40000000 in
theorem rmSC (l : Launch) (Z : State) (a0 : Array Value) (hw : ∀ d ∈ tables_1, d.before a0 Z = true) (x : Addr) (b : Addr) (h0 : Heap) (n0 : Nat) (kb : ClassId) (E_x : Exa Z h0 x "java/lang/String") (F_v : Fld Z h0 x "java/lang/String" "value" "[B" .null) (F_c : Fld Z h0 x "java/lang/String" "coder" "B" (.int (0 : Int32))) (g_x : n0 ≤ x) (O : Old Z n0 h0) (hh : Jvm.Lit.constHeld Z "java/lang/String" 7) (hcw : Jvm.Lit.compactW.before a0 Z = true) (V_b : Arv Z h0 b kb .char (0 : Int32) [] (.int (0 : Int32))) :
    OMetW l Z (OLit Z h0) (⟨"java/lang/String", "<init>", "([C)V"⟩ : MethodName) jdk_42_method_3_code 2 none (⟨2, 2, 4, 29⟩ : Room) #[(.ref x), (.ref b)] h0 (fun v vm h L => v = none ∧ Fr n0 L ∧ Keep h0 h [x] ∧ ∃ la lb lk, OLitAt Z vm h la lb lk ∧ Exa Z h x "java/lang/String" ∧ Fld Z h x "java/lang/String" "value" "[B" (.ref lb) ∧ Fld Z h x "java/lang/String" "coder" "B" (.int 0)) := by
  refine own_enterW own_pn1 ?_
  intro p e s m below meth c T0 X0 hC e0 eS hPv
  have hC0 := hC
  obtain ⟨hx, hZ, hby, hml, hown, hret, hlk, hnm⟩ := hC
  have hown : s.vm.findClass "java/lang/String" = some m.cls := hown
  refine own_atE (own_ef1_RR m x b) ?_
  show OFinE p e below _ (T0.setTop (mkF m 0 #[.val (.ref x), .val (.ref b)] []))
  refine own_stE (fun _ kS => XS.aloadN X0.here hx rfl (hb hby own_d1_0) rfl rfl kS) ?_
  show OFinE p e below _ (T0.setTop (mkF m 1 #[.val (.ref x), .val (.ref b)] [(.ref x)]))
  refine own_stE (fun _ kS => XS.aloadN X0.here hx rfl (hb hby own_d1_1) rfl rfl kS) ?_
  show OFinE p e below _ (T0.setTop (mkF m 2 #[.val (.ref x), .val (.ref b)] [(.ref b), (.ref x)]))
  refine own_stE (fun _ kS => XS.iconst X0.here hx rfl (hb hby own_d1_2) kS) ?_
  show OFinE p e below _ (T0.setTop (mkF m 3 #[.val (.ref x), .val (.ref b)] [(.int (0 : Int32)), (.ref b), (.ref x)]))
  refine own_stE (fun _ kS => XS.aloadN X0.here hx rfl (hb hby own_d1_3) rfl rfl kS) ?_
  show OFinE p e below _ (T0.setTop (mkF m 4 #[.val (.ref x), .val (.ref b)] [(.ref b), (.int (0 : Int32)), (.ref b), (.ref x)]))
  obtain ⟨cl22, Ar22, -, S22, B22, H22, -⟩ := id V_b
  have hl22 := len_of S22 B22
  refine own_stE (X0.arraylength hx (by rw [e0]; exact Ar22.1) (State.isArrayOf_alike hZ.alike Ar22.2.1) (g := (mkF m 4 #[.val (.ref x), .val (.ref b)] [(.ref b), (.int (0 : Int32)), (.ref b), (.ref x)])) rfl rfl (hb hby own_d1_4)) ?_
  rw [hl22]
  clear hl22 Ar22 S22 B22
  show OFinE p e below _ (T0.setTop (mkF m 5 #[.val (.ref x), .val (.ref b)] [(.int (0 : Int32)), (.int (0 : Int32)), (.ref b), (.ref x)]))
  refine own_stE (fun _ kS => XS.aconstNull X0.here hx rfl (hb hby own_d1_5) kS) ?_
  show OFinE p e below _ (T0.setTop (mkF m 6 #[.val (.ref x), .val (.ref b)] [.null, (.int (0 : Int32)), (.int (0 : Int32)), (.ref b), (.ref x)]))
  obtain ⟨v23, T23, L23, X23, SS23, hZ, hown, hQ23, st23⟩ := own_initW X0 hx hZ (y := (⟨"java/lang/String", "<init>", "([CIILjava/lang/Void;)V"⟩ : MethodName)) (rm := ⟨1, 2, 4, 12⟩) (W := 0) (a := x) (argsL := [(.ref b), (.int (0 : Int32)), (.int (0 : Int32)), .null]) (rest := []) rfl hown (own_w hw 7 rfl) (own_w hw 8 rfl) (own_w hw 2 rfl) (own_w hw 10 rfl) (rmSE l Z a0 hw x b _ _ h0 n0 E_x F_v F_c g_x O hh hcw rfl) (fun vm hW => OLit.warm hW hPv) e0 (g := (mkF m 6 #[.val (.ref x), .val (.ref b)] [.null, (.int (0 : Int32)), (.int (0 : Int32)), (.ref b), (.ref x)])) rfl (by rw [hml]; rfl) (lenOf own_pd0 rfl) rfl (by show 2 * 0 + _ ≤ _; exact Nat.le_of_eq rfl) (hb hby own_d1_6) (by decide) (by decide) (by decide) (by decide)
  obtain ⟨rfl, N1, K1, la, lb, lk, F1, G1⟩ := hQ23
  refine own_stE (st23) ?_
  clear X0 e0
  refine own_narrow SS23 (Q' := (fun v h L => v = none ∧ h = T23.heap ∧ L = L23)) ?_ (by rintro v vm h L hW ⟨rfl, rfl, rfl⟩; exact ⟨Nat.le_refl _, rfl, N1, K1, la, lb, lk, OLitAt.warm hW F1, G1⟩)
  show OFin p e below (s.setVm T23.vm) _ _ _ (T23.setTop (mkF m 9 #[.val (.ref x), .val (.ref b)] []))
  exact own_retV X23 hx hret hlk (hb hby own_d1_9) (by decide) (by decide) ⟨rfl, rfl, rfl⟩
set_option maxRecDepth 65536 in
set_option maxHeartbeats 40000000 in
theorem rmCE (l : Launch) (Z : State) (a0 : Array Value) (hw : ∀ d ∈ tables_1, d.before a0 Z = true) (q : Int32) (h0 : Heap) (hq : ¬ (255 : Int32) < q) :
    OMet l Z (⟨"java/lang/StringLatin1", "canEncode", "(C)Z"⟩ : MethodName) jdk_43_method_3_code 1 (some .boolean) (⟨0, 0, 0, 0⟩ : Room) #[(.int q)] h0 (fun v h L => v = some (.int (1 : Int32)) ∧ h = h0 ∧ L = []) := by
  refine own_enter own_pn11 ?_
  intro p e s m below meth c T0 X0 hC e0
  obtain ⟨hx, hZ, hby, hml, hown, hret, hlk, hnm⟩ := hC
  have hown : s.vm.findClass "java/lang/StringLatin1" = some m.cls := hown
  refine own_at (own_ef11_I m q) ?_
  show OFin p e below s _ _ _ (T0.setTop (mkF m 0 #[.val (.int q)] []))
  refine own_st (fun _ kS => XS.iloadN X0.here hx rfl (hb hby own_d11_0) rfl kS) ?_
  show OFin p e below s _ _ _ (T0.setTop (mkF m 1 #[.val (.int q)] [(.int q)]))
  refine own_st (fun _ kS => XS.sipush X0.here hx rfl (hb hby own_d11_1) kS) ?_
  show OFin p e below s _ _ _ (T0.setTop (mkF m 4 #[.val (.int q)] [(.int (255 : Int32)), (.int q)]))
  refine own_st (fun _ kS => XS.icmpNo X0.here hx rfl (hb hby own_d11_4) rfl (flt hq).2.2.1 kS) ?_
  show OFin p e below s _ _ _ (T0.setTop (mkF m 7 #[.val (.int q)] []))
  refine own_st (fun _ kS => XS.iconst X0.here hx rfl (hb hby own_d11_7) kS) ?_
  show OFin p e below s _ _ _ (T0.setTop (mkF m 8 #[.val (.int q)] [(.int (1 : Int32))]))
  refine own_st (fun _ kS => XS.goto X0.here hx rfl (pc0 := 8) (pc' := 12) rfl (hb hby own_d11_8) (by decide) (by decide) kS) ?_
  show OFin p e below s _ _ _ (T0.setTop (mkF m 12 #[.val (.int q)] [(.int (1 : Int32))]))
  exact own_ret X0 hx (t := .boolean) hret hlk rfl (Or.inl ⟨rfl, by simp, _, rfl⟩) (hb hby own_d11_12) (by decide) (by decide) ⟨rfl, e0, rfl⟩
set_option maxRecDepth 65536 in
set_option maxHeartbeats 40000000 in
theorem rmTB (l : Launch) (Z : State) (a0 : Array Value) (hw : ∀ d ∈ tables_1, d.before a0 Z = true) (q : Int32) (h0 : Heap) (n0 : Nat) (Z0 : n0 ≤ h0.size)  :
    OMet l Z (⟨"java/lang/StringLatin1", "toBytes", "(C)[B"⟩ : MethodName) jdk_43_method_46_code 1 (some (.array .byte)) (⟨0, 1, 1, 0⟩ : Room) #[(.int q)] h0 (fun v h L => ∃ t, v = some (.ref t) ∧ Fr n0 L ∧ Keep h0 h []) := by
  refine own_enter own_pn12 ?_
  intro p e s m below meth c T0 X0 hC e0
  obtain ⟨hx, hZ, hby, hml, hown, hret, hlk, hnm⟩ := hC
  have hown : s.vm.findClass "java/lang/StringLatin1" = some m.cls := hown
  refine own_at (own_ef12_I m q) ?_
  show OFin p e below s _ _ _ (T0.setTop (mkF m 0 #[.val (.int q)] []))
  have N0 := Fr.nil n0
  have kp0 := Keep.refl h0 []
  refine own_st (fun _ kS => XS.iconst X0.here hx rfl (hb hby own_d12_0) kS) ?_
  show OFin p e below s _ _ _ (T0.setTop (mkF m 1 #[.val (.int q)] [(.int (1 : Int32))]))
  obtain ⟨T24, h24, k24, X24, e24, E24, A24, st24⟩ := newP X0 hx hZ (own_w hw 15 rfl) e0 (g := (mkF m 1 #[.val (.int q)] [(.int (1 : Int32))])) rfl (hb hby own_d12_1) rfl (by decide) (cap := 1) (by decide) (by decide) (by decide) (by decide)
  obtain ⟨t, g24⟩ : ∃ z, z = h0.size := ⟨_, rfl⟩
  rw [← g24] at A24 st24
  have g_t : n0 ≤ t := Nat.le_trans Z0 (Nat.le_of_eq g24.symm)
  have f25 : Arv Z h24 t k24 .byte (1 : Int32) [(.int (0 : Int32))] (.int (0 : Int32)) := (Arv.new A24 (by decide)).pad (pad_rep [] (.int (0 : Int32)) 1)
  have sz24 : n0 ≤ h24.size := Nat.le_trans Z0 E24.1
  have kp24 := kp0.ext E24
  have kz_t := Nat.le_trans kp0.1 (Nat.le_of_eq g24.symm)
  clear kp0
  refine own_st (st24) ?_
  clear st24 X0 e0 E24 g24
  show OFin p e below s _ _ _ (T24.setTop (mkF m 3 #[.val (.int q)] [(.ref t)]))
  refine own_st (fun _ kS => XS.dup X24.here hx rfl (hb hby own_d12_3) rfl rfl kS) ?_
  show OFin p e below s _ _ _ (T24.setTop (mkF m 4 #[.val (.int q)] [(.ref t), (.ref t)]))
  refine own_st (fun _ kS => XS.iconst X24.here hx rfl (hb hby own_d12_4) kS) ?_
  show OFin p e below s _ _ _ (T24.setTop (mkF m 5 #[.val (.int q)] [(.int (0 : Int32)), (.ref t), (.ref t)]))
  refine own_st (fun _ kS => XS.iloadN X24.here hx rfl (hb hby own_d12_5) rfl kS) ?_
  show OFin p e below s _ _ _ (T24.setTop (mkF m 6 #[.val (.int q)] [(.int q), (.int (0 : Int32)), (.ref t), (.ref t)]))
  refine own_st (fun _ kS => XS.i2b X24.here hx rfl (hb hby own_d12_6) rfl kS) ?_
  show OFin p e below s _ _ _ (T24.setTop (mkF m 7 #[.val (.int q)] [(.int (q.toInt8.toInt32)), (.int (0 : Int32)), (.ref t), (.ref t)]))
  obtain ⟨cl26, Ar26, q26, S26, N26, H26, G26⟩ := id f25
  have hin26 : ¬ ((0 : Int32) < 0 ∨ cl26.slots.size ≤ ((0 : Int32)).toNatClampNeg) := inb_of S26 ⟨by decide, by decide⟩
  obtain ⟨T26, h26, X26, e26, W26, st26⟩ := stB X24 hx hZ e24 Ar26 (j := (0 : Int32)) hin26 (g := (mkF m 7 #[.val (.int q)] [(.int (q.toInt8.toInt32)), (.int (0 : Int32)), (.ref t), (.ref t)])) rfl rfl (hb hby own_d12_7)
  have f27 := Arv.set Ar26 q26 S26 N26 H26 G26 (fits_nar_byte _) W26 0 rfl (Nat.le_of_ble_eq_true rfl)
  have sz26 : n0 ≤ h26.size := by rw [W26.size]; exact sz24
  clear sz24
  have fr26 := Fr.snoc X26 N0 g_t
  clear N0
  have kp26 := kp24.wr W26 (Or.inr kz_t)
  clear kp24
  refine own_st (st26) ?_
  clear st26 X24 e24 W26 Ar26 q26 S26 N26 H26 G26 hin26 f25
  show OFin p e below s _ _ _ (T26.setTop (mkF m 8 #[.val (.int q)] [(.ref t)]))
  exact own_ret X26 hx (t := (.array .byte)) hret hlk rfl (Or.inr (Or.inr (Or.inr (Or.inr ⟨rfl, rfl, rfl⟩)))) (hb hby own_d12_8) (by decide) (by decide) (by show ∃ t, _ ∧ _ ∧ Keep h0 T26.heap _; rw [e26]; exact ⟨t, rfl, fr26, kp26⟩)
set_option maxRecDepth 65536 in
set_option maxHeartbeats 40000000 in
theorem rmSI (l : Launch) (Z : State) (a0 : Array Value) (hw : ∀ d ∈ tables_1, d.before a0 Z = true) (a : Addr) (t : Addr) (q : Int32) (h0 : Heap) (n0 : Nat) (E_a : Exa Z h0 a "java/lang/String") (F_v : Fld Z h0 a "java/lang/String" "value" "[B" .null) (F_c : Fld Z h0 a "java/lang/String" "coder" "B" (.int (0 : Int32))) (g_a : n0 ≤ a) :
    OMet l Z (⟨"java/lang/String", "<init>", "([BB)V"⟩ : MethodName) jdk_42_method_151_code 3 none (⟨1, 0, 0, 12⟩ : Room) #[(.ref a), (.ref t), (.int q)] h0 (fun v h L => v = none ∧ Fr n0 L ∧ Keep h0 h [a]) := by
  refine own_enter own_pn13 ?_
  intro p e s m below meth c T0 X0 hC e0
  obtain ⟨hx, hZ, hby, hml, hown, hret, hlk, hnm⟩ := hC
  have hown : s.vm.findClass "java/lang/String" = some m.cls := hown
  refine own_at (own_ef13_RRI m a t q) ?_
  show OFin p e below s _ _ _ (T0.setTop (mkF m 0 #[.val (.ref a), .val (.ref t), .val (.int q)] []))
  have N0 := Fr.nil n0
  have kp0 := Keep.refl h0 [a]
  refine own_st (fun _ kS => XS.aloadN X0.here hx rfl (hb hby own_d13_0) rfl rfl kS) ?_
  show OFin p e below s _ _ _ (T0.setTop (mkF m 1 #[.val (.ref a), .val (.ref t), .val (.int q)] [(.ref a)]))
  obtain ⟨T29, X29, e29, st29⟩ := initO X0 hx hZ hown (own_w hw 11 rfl) (own_w hw 12 rfl) (own_w hw 13 rfl) e0 (g := (mkF m 1 #[.val (.ref a), .val (.ref t), .val (.int q)] [(.ref a)])) rfl (by rw [hml]; rfl) rfl (hb hby own_d13_1) (by decide) (W := 0) (by show 2 * 0 + _ ≤ _; exact Nat.le_of_eq rfl) (by decide)
  refine own_st (st29) ?_
  clear st29 X0 e0
  show OFin p e below s _ _ _ (T29.setTop (mkF m 4 #[.val (.ref a), .val (.ref t), .val (.int q)] []))
  refine own_st (fun _ kS => XS.aloadN X29.here hx rfl (hb hby own_d13_4) rfl rfl kS) ?_
  show OFin p e below s _ _ _ (T29.setTop (mkF m 5 #[.val (.ref a), .val (.ref t), .val (.int q)] [(.ref a)]))
  refine own_st (fun _ kS => XS.aloadN X29.here hx rfl (hb hby own_d13_5) rfl rfl kS) ?_
  show OFin p e below s _ _ _ (T29.setTop (mkF m 6 #[.val (.ref a), .val (.ref t), .val (.int q)] [(.ref t), (.ref a)]))
  obtain ⟨T30, h30, X30, e30, W30, st30⟩ := putF X29 hx hZ hown (host := "") (Or.inl (own_w hw 20 rfl)) Via.refl e29 F_v E_a (Or.inr ⟨(own_w hw 16 rfl), rfl, hnm⟩) (own_w hw 1 rfl) (ty := (.array .byte)) (by decide) rfl rfl (g := (mkF m 6 #[.val (.ref a), .val (.ref t), .val (.int q)] [(.ref t), (.ref a)])) rfl rfl (hb hby own_d13_6)
  have f31 := F_v.same W30
  have f32 := E_a.wr W30
  have f34 := F_c.other W30 (Or.inr (slot_ne (Or.inr (own_w hw 17 rfl)) (Or.inr (own_w hw 16 rfl)) (by decide) (t := .byte) (t' := (.array .byte)) (by decide) (by decide)))
  have fr30 := Fr.snoc X30 N0 g_a
  clear N0
  have kp30 := kp0.wr W30 (Or.inl (List.mem_of_getElem? (i := 0) rfl))
  clear kp0
  refine own_st (st30) ?_
  clear st30 X29 e29 W30
  show OFin p e below s _ _ _ (T30.setTop (mkF m 9 #[.val (.ref a), .val (.ref t), .val (.int q)] []))
  refine own_st (fun _ kS => XS.aloadN X30.here hx rfl (hb hby own_d13_9) rfl rfl kS) ?_
  show OFin p e below s _ _ _ (T30.setTop (mkF m 10 #[.val (.ref a), .val (.ref t), .val (.int q)] [(.ref a)]))
  refine own_st (fun _ kS => XS.iloadN X30.here hx rfl (hb hby own_d13_10) rfl kS) ?_
  show OFin p e below s _ _ _ (T30.setTop (mkF m 11 #[.val (.ref a), .val (.ref t), .val (.int q)] [(.int q), (.ref a)]))
  obtain ⟨T35, h35, X35, e35, W35, st35⟩ := putFN X30 hx hZ hown (own_w hw 21 rfl) Via.refl e30 f34 f32 (Or.inr ⟨(own_w hw 17 rfl), rfl, hnm⟩) (own_w hw 1 rfl) (ty := .byte) (v' := (.int (nar .byte q))) (by decide) rfl (fits_nar_byte _) (g := (mkF m 11 #[.val (.ref a), .val (.ref t), .val (.int q)] [(.int q), (.ref a)])) rfl rfl (hb hby own_d13_11)
  have f36 := f34.same W35
  have f37 := f32.wr W35
  clear f32
  have f38 := f31.other W35 (Or.inr (slot_ne (Or.inr (own_w hw 16 rfl)) (Or.inr (own_w hw 17 rfl)) (by decide) (t := (.array .byte)) (t' := .byte) (by decide) (by decide)))
  clear f31
  have fr35 := Fr.snoc X35 fr30 g_a
  clear fr30
  have kp35 := kp30.wr W35 (Or.inl (List.mem_of_getElem? (i := 0) rfl))
  clear kp30
  refine own_st (st35) ?_
  clear st35 X30 e30 W35 f34
  show OFin p e below s _ _ _ (T35.setTop (mkF m 14 #[.val (.ref a), .val (.ref t), .val (.int q)] []))
  exact own_retV X35 hx hret hlk (hb hby own_d13_14) (by decide) (by decide) (by show _ ∧ _ ∧ Keep h0 T35.heap _; rw [e35]; exact ⟨rfl, fr35, kp35⟩)
set_option maxRecDepth 65536 in
set_option maxHeartbeats 40000000 in
theorem rmVO (l : Launch) (Z : State) (a0 : Array Value) (hw : ∀ d ∈ tables_1, d.before a0 Z = true) (q : Int32) (h0 : Heap) (n0 : Nat) (Z0 : n0 ≤ h0.size) (z : Int32) (hq : ¬ (255 : Int32) < q) (S_c : Sta Z Z.heap "java/lang/String" "COMPACT_STRINGS" "Z" (.int z)) (hz : ¬ (z = (0 : Int32))) (O : Old Z n0 h0) :
    OMet l Z (⟨"java/lang/String", "valueOf", "(C)Ljava/lang/String;"⟩ : MethodName) jdk_42_method_139_code 1 (some (.object "java/lang/String")) (⟨2, 2, 5, 27⟩ : Room) #[(.int q)] h0 (fun v h L => ∃ t, v = some (.ref t) ∧ Fr n0 L ∧ Keep h0 h []) := by
  refine own_enter own_pn10 ?_
  intro p e s m below meth c T0 X0 hC e0
  obtain ⟨hx, hZ, hby, hml, hown, hret, hlk, hnm⟩ := hC
  have hown : s.vm.findClass "java/lang/String" = some m.cls := hown
  refine own_at (own_ef10_I m q) ?_
  show OFin p e below s _ _ _ (T0.setTop (mkF m 0 #[.val (.int q)] []))
  have N0 := Fr.nil n0
  have kp0 := Keep.refl h0 []
  obtain ⟨T40, X40, e40, st40⟩ := getS2 X0 hx hZ hown (host := "") (Or.inl (own_w hw 43 rfl)) Via.refl e0 (Sta.ext O.2 S_c) (g := (mkF m 0 #[.val (.int q)] [])) rfl (hb hby own_d10_0)
  refine own_st (st40) ?_
  clear st40 X0 e0
  show OFin p e below s _ _ _ (T40.setTop (mkF m 3 #[.val (.int q)] [(.int z)]))
  refine own_st (fun _ kS => XS.ifNo X40.here hx rfl (hb hby own_d10_3) rfl ((if0 _ _).trans (feq hz).1) kS) ?_
  show OFin p e below s _ _ _ (T40.setTop (mkF m 6 #[.val (.int q)] []))
  refine own_st (fun _ kS => XS.iloadN X40.here hx rfl (hb hby own_d10_6) rfl kS) ?_
  show OFin p e below s _ _ _ (T40.setTop (mkF m 7 #[.val (.int q)] [(.int q)]))
  obtain ⟨v41, T41, L41, X41, hQ41, st41⟩ := own_static X40 hx hZ (y := (⟨"java/lang/StringLatin1", "canEncode", "(C)Z"⟩ : MethodName)) (rm := ⟨0, 0, 0, 0⟩) (W := 0) (argsL := [(.int q)]) (rest := []) hown (own_w hw 57 rfl) (own_w hw 58 rfl) (own_w hw 59 rfl) (own_w hw 60 rfl) (rmCE l Z a0 hw q h0 hq) e40 (g := (mkF m 7 #[.val (.int q)] [(.int q)])) rfl (by rw [hml]; rfl) (lenOf own_pd1 rfl) rfl (by show 2 * 0 + _ ≤ _; exact Nat.le_of_eq rfl) (hb hby own_d10_7) (by decide) (by decide) (by decide) (by decide)
  obtain ⟨rfl, e41, rfl⟩ := hQ41
  rw [List.append_nil] at X41
  refine own_st (st41) ?_
  clear st41 X40 e40
  show OFin p e below s _ _ _ (T41.setTop (mkF m 10 #[.val (.int q)] [(.int (1 : Int32))]))
  refine own_st (fun _ kS => XS.ifNo X41.here hx rfl (hb hby own_d10_10) rfl ((if0 _ _).trans (feq (by decide)).1) kS) ?_
  show OFin p e below s _ _ _ (T41.setTop (mkF m 13 #[.val (.int q)] []))
  obtain ⟨T42, h42, X42, e42, E42, A42, D42, -, st42⟩ := newO X41 hx hZ hown (own_w hw 61 rfl) (own_w hw 1 rfl) (own_w hw 2 rfl) e41 (g := (mkF m 13 #[.val (.int q)] [])) rfl (hb hby own_d10_13) (by decide) (by decide)
  obtain ⟨a, g42⟩ : ∃ z, z = h0.size := ⟨_, rfl⟩
  rw [← g42] at A42 D42 st42
  have g_a : n0 ≤ a := Nat.le_trans Z0 (Nat.le_of_eq g42.symm)
  have od42 := O.ext E42
  have f43 : Fld Z h42 a "java/lang/String" "value" "[B" .null := D42 (Or.inr (own_w hw 16 rfl)) (ty := (.array .byte)) (by decide)
  have f44 : Fld Z h42 a "java/lang/String" "coder" "B" (.int (0 : Int32)) := D42 (Or.inr (own_w hw 17 rfl)) (ty := .byte) (by decide)
  have sz42 : n0 ≤ h42.size := Nat.le_trans Z0 E42.1
  have kp42 := kp0.ext E42
  have kz_a := Nat.le_trans kp0.1 (Nat.le_of_eq g42.symm)
  clear kp0
  refine own_st (st42) ?_
  clear st42 X41 e41 E42 D42 g42
  show OFin p e below s _ _ _ (T42.setTop (mkF m 16 #[.val (.int q)] [(.ref a)]))
  refine own_st (fun _ kS => XS.dup X42.here hx rfl (hb hby own_d10_16) rfl rfl kS) ?_
  show OFin p e below s _ _ _ (T42.setTop (mkF m 17 #[.val (.int q)] [(.ref a), (.ref a)]))
  refine own_st (fun _ kS => XS.iloadN X42.here hx rfl (hb hby own_d10_17) rfl kS) ?_
  show OFin p e below s _ _ _ (T42.setTop (mkF m 18 #[.val (.int q)] [(.int q), (.ref a), (.ref a)]))
  obtain ⟨v45, T45, L45, X45, hQ45, st45⟩ := own_static X42 hx hZ (y := (⟨"java/lang/StringLatin1", "toBytes", "(C)[B"⟩ : MethodName)) (rm := ⟨0, 1, 1, 0⟩) (W := 2) (argsL := [(.int q)]) (rest := [(.ref a), (.ref a)]) hown (own_w hw 62 rfl) (own_w hw 63 rfl) (own_w hw 59 rfl) (own_w hw 64 rfl) (rmTB l Z a0 hw q h42 n0 sz42) e42 (g := (mkF m 18 #[.val (.int q)] [(.int q), (.ref a), (.ref a)])) rfl (by rw [hml]; rfl) (lenOf own_pd2 rfl) rfl (by show 2 * 0 + _ ≤ _; exact Nat.le_of_eq rfl) (hb hby own_d10_18) (by decide) (by decide) (by decide) (by decide)
  obtain ⟨t, rfl, N45, K45⟩ := hQ45
  have fr45 := Fr.app N0 N45
  have kp45 := kp42.trans K45 all0
  have od45 := od42.keep K45 all0
  clear od42
  have f46 := A42.keep K45
  have f47 := f43.keep K45 nin0
  clear f43
  have f48 := f44.keep K45 nin0
  clear f44
  have sz45 : n0 ≤ T45.heap.size := Nat.le_trans sz42 K45.1
  clear sz42
  refine own_st (st45) ?_
  clear st45 X42 e42
  show OFin p e below s _ _ _ (T45.setTop (mkF m 21 #[.val (.int q)] [(.ref t), (.ref a), (.ref a)]))
  refine own_st (fun _ kS => XS.iconst X45.here hx rfl (hb hby own_d10_21) kS) ?_
  show OFin p e below s _ _ _ (T45.setTop (mkF m 22 #[.val (.int q)] [(.int (0 : Int32)), (.ref t), (.ref a), (.ref a)]))
  obtain ⟨v49, T49, L49, X49, hQ49, st49⟩ := own_init X45 hx hZ (y := (⟨"java/lang/String", "<init>", "([BB)V"⟩ : MethodName)) (rm := ⟨1, 0, 0, 12⟩) (W := 1) (a := a) (argsL := [(.ref t), (.int (0 : Int32))]) (rest := [(.ref a)]) rfl hown (own_w hw 65 rfl) (own_w hw 66 rfl) (own_w hw 2 rfl) (own_w hw 67 rfl) (rmSI l Z a0 hw a t _ T45.heap n0 f46 f47 f48 g_a) rfl (g := (mkF m 22 #[.val (.int q)] [(.int (0 : Int32)), (.ref t), (.ref a), (.ref a)])) rfl (by rw [hml]; rfl) (lenOf own_pd3 rfl) rfl (by show 2 * 0 + _ ≤ _; exact Nat.le_of_eq rfl) (hb hby own_d10_22) (by decide) (by decide) (by decide) (by decide)
  obtain ⟨rfl, N49, K49⟩ := hQ49
  have fr49 := Fr.app fr45 N49
  have kp49 := kp45.trans K49 (allS (Or.inr kz_a) all0)
  have od49 := od45.keep K49 (allS g_a all0)
  clear od45
  have f50 := f46.keep K49
  clear f46
  clear f47
  clear f48
  have sz49 : n0 ≤ T49.heap.size := Nat.le_trans sz45 K49.1
  clear sz45
  refine own_st (st49) ?_
  clear st49 X45
  show OFin p e below s _ _ _ (T49.setTop (mkF m 25 #[.val (.int q)] [(.ref a)]))
  exact own_ret X49 hx (t := (.object "java/lang/String")) hret hlk rfl (Or.inr (Or.inr (Or.inr (Or.inr ⟨rfl, rfl, rfl⟩)))) (hb hby own_d10_25) (by decide) (by decide) ⟨a, rfl, fr49, kp49⟩
set_option maxRecDepth 65536 in
set_option maxHeartbeats 40000000 in
theorem rmRI (l : Launch) (Z : State) (a0 : Array Value) (hw : ∀ d ∈ tables_1, d.before a0 Z = true) (a : Addr) (h0 : Heap)  :
    OMet l Z (⟨"java/lang/Record", "<init>", "()V"⟩ : MethodName) jdk_30_method_1_code 1 none (⟨1, 0, 0, 12⟩ : Room) #[(.ref a)] h0 (fun v h L => v = none ∧ h = h0 ∧ L = []) := by
  refine own_enter own_pn5 ?_
  intro p e s m below meth c T0 X0 hC e0
  obtain ⟨hx, hZ, hby, hml, hown, hret, hlk, hnm⟩ := hC
  have hown : s.vm.findClass "java/lang/Record" = some m.cls := hown
  refine own_at (own_ef5_R m a) ?_
  show OFin p e below s _ _ _ (T0.setTop (mkF m 0 #[.val (.ref a)] []))
  refine own_st (fun _ kS => XS.aloadN X0.here hx rfl (hb hby own_d5_0) rfl rfl kS) ?_
  show OFin p e below s _ _ _ (T0.setTop (mkF m 1 #[.val (.ref a)] [(.ref a)]))
  obtain ⟨T53, X53, e53, st53⟩ := initO X0 hx hZ hown (own_w hw 33 rfl) (own_w hw 12 rfl) (own_w hw 13 rfl) e0 (g := (mkF m 1 #[.val (.ref a)] [(.ref a)])) rfl (by rw [hml]; rfl) rfl (hb hby own_d5_1) (by decide) (W := 0) (by show 2 * 0 + _ ≤ _; exact Nat.le_of_eq rfl) (by decide)
  refine own_st (st53) ?_
  clear st53 X0 e0
  show OFin p e below s _ _ _ (T53.setTop (mkF m 4 #[.val (.ref a)] []))
  exact own_retV X53 hx hret hlk (hb hby own_d5_4) (by decide) (by decide) ⟨rfl, e53, rfl⟩
set_option maxRecDepth 65536 in
set_option maxHeartbeats 40000000 in
theorem rmSSR (l : Launch) (Z : State) (a0 : Array Value) (hw : ∀ d ∈ tables_1, d.before a0 Z = true) (a : Addr) (d : Addr) (h0 : Heap) (n0 : Nat) (E_a : Exa Z h0 a "com/example/ordinate/ordinate/client/ServerStatus") (F_p : Fld Z h0 a "com/example/ordinate/ordinate/client/ServerStatus" "primary" "Ljava/lang/String;" .null) (F_s : Fld Z h0 a "com/example/ordinate/ordinate/client/ServerStatus" "standbys" "Ljava/util/Map;" .null) (g_a : n0 ≤ a) :
    OMet l Z (⟨"com/example/ordinate/ordinate/client/ServerStatus", "<init>", "(Ljava/lang/String;Ljava/util/Map;)V"⟩ : MethodName) prog_33_method_1_code 3 none (⟨2, 0, 0, 24⟩ : Room) #[(.ref a), (.ref d), .null] h0 (fun v h L => v = none ∧ Fr n0 L ∧ Keep h0 h [a] ∧ Exa Z h a "com/example/ordinate/ordinate/client/ServerStatus" ∧ Fld Z h a "com/example/ordinate/ordinate/client/ServerStatus" "primary" "Ljava/lang/String;" (.ref d)) := by
  refine own_enter own_pn4 ?_
  intro p e s m below meth c T0 X0 hC e0
  obtain ⟨hx, hZ, hby, hml, hown, hret, hlk, hnm⟩ := hC
  have hown : s.vm.findClass "com/example/ordinate/ordinate/client/ServerStatus" = some m.cls := hown
  refine own_at (own_ef4_RRN m a d) ?_
  show OFin p e below s _ _ _ (T0.setTop (mkF m 0 #[.val (.ref a), .val (.ref d), .val .null] []))
  have N0 := Fr.nil n0
  have kp0 := Keep.refl h0 [a]
  refine own_st (fun _ kS => XS.aloadN X0.here hx rfl (hb hby own_d4_0) rfl rfl kS) ?_
  show OFin p e below s _ _ _ (T0.setTop (mkF m 1 #[.val (.ref a), .val (.ref d), .val .null] [(.ref a)]))
  obtain ⟨v54, T54, L54, X54, hQ54, st54⟩ := own_init X0 hx hZ (y := (⟨"java/lang/Record", "<init>", "()V"⟩ : MethodName)) (rm := ⟨1, 0, 0, 12⟩) (W := 0) (a := a) (argsL := []) (rest := []) rfl hown (own_w hw 28 rfl) (own_w hw 29 rfl) (own_w hw 31 rfl) (own_w hw 32 rfl) (rmRI l Z a0 hw a h0) e0 (g := (mkF m 1 #[.val (.ref a), .val (.ref d), .val .null] [(.ref a)])) rfl (by rw [hml]; rfl) (lenOf own_pd4 rfl) rfl (by show 2 * 0 + _ ≤ _; exact Nat.le_of_eq rfl) (hb hby own_d4_1) (by decide) (by decide) (by decide) (by decide)
  obtain ⟨rfl, e54, rfl⟩ := hQ54
  rw [List.append_nil] at X54
  refine own_st (st54) ?_
  clear st54 X0 e0
  show OFin p e below s _ _ _ (T54.setTop (mkF m 4 #[.val (.ref a), .val (.ref d), .val .null] []))
  refine own_st (fun _ kS => XS.aloadN X54.here hx rfl (hb hby own_d4_4) rfl rfl kS) ?_
  show OFin p e below s _ _ _ (T54.setTop (mkF m 5 #[.val (.ref a), .val (.ref d), .val .null] [(.ref a)]))
  refine own_st (fun _ kS => XS.aloadN X54.here hx rfl (hb hby own_d4_5) rfl rfl kS) ?_
  show OFin p e below s _ _ _ (T54.setTop (mkF m 6 #[.val (.ref a), .val (.ref d), .val .null] [(.ref d), (.ref a)]))
  obtain ⟨T55, h55, X55, e55, W55, st55⟩ := putF X54 hx hZ hown (host := "") (Or.inl (own_w hw 34 rfl)) Via.refl e54 F_p E_a (Or.inr ⟨(own_w hw 35 rfl), rfl, hnm⟩) (own_w hw 23 rfl) (ty := (.object "java/lang/String")) (by decide) rfl rfl (g := (mkF m 6 #[.val (.ref a), .val (.ref d), .val .null] [(.ref d), (.ref a)])) rfl rfl (hb hby own_d4_6)
  have f56 := F_p.same W55
  have f57 := E_a.wr W55
  have f59 := F_s.other W55 (Or.inr (slot_ne (Or.inr (own_w hw 37 rfl)) (Or.inr (own_w hw 35 rfl)) (by decide) (t := (.object "java/util/Map")) (t' := (.object "java/lang/String")) (by decide) (by decide)))
  have fr55 := Fr.snoc X55 N0 g_a
  clear N0
  have kp55 := kp0.wr W55 (Or.inl (List.mem_of_getElem? (i := 0) rfl))
  clear kp0
  refine own_st (st55) ?_
  clear st55 X54 e54 W55
  show OFin p e below s _ _ _ (T55.setTop (mkF m 9 #[.val (.ref a), .val (.ref d), .val .null] []))
  refine own_st (fun _ kS => XS.aloadN X55.here hx rfl (hb hby own_d4_9) rfl rfl kS) ?_
  show OFin p e below s _ _ _ (T55.setTop (mkF m 10 #[.val (.ref a), .val (.ref d), .val .null] [(.ref a)]))
  refine own_st (fun _ kS => XS.aloadN X55.here hx rfl (hb hby own_d4_10) rfl rfl kS) ?_
  show OFin p e below s _ _ _ (T55.setTop (mkF m 11 #[.val (.ref a), .val (.ref d), .val .null] [.null, (.ref a)]))
  obtain ⟨T60, h60, X60, e60, W60, st60⟩ := putF X55 hx hZ hown (host := "") (Or.inl (own_w hw 36 rfl)) Via.refl e55 f59 f57 (Or.inr ⟨(own_w hw 37 rfl), rfl, hnm⟩) (own_w hw 23 rfl) (ty := (.object "java/util/Map")) (by decide) rfl rfl (g := (mkF m 11 #[.val (.ref a), .val (.ref d), .val .null] [.null, (.ref a)])) rfl rfl (hb hby own_d4_11)
  have f61 := f59.same W60
  have f62 := f57.wr W60
  clear f57
  have f63 := f56.other W60 (Or.inr (slot_ne (Or.inr (own_w hw 35 rfl)) (Or.inr (own_w hw 37 rfl)) (by decide) (t := (.object "java/lang/String")) (t' := (.object "java/util/Map")) (by decide) (by decide)))
  clear f56
  have fr60 := Fr.snoc X60 fr55 g_a
  clear fr55
  have kp60 := kp55.wr W60 (Or.inl (List.mem_of_getElem? (i := 0) rfl))
  clear kp55
  refine own_st (st60) ?_
  clear st60 X55 e55 W60 f59
  show OFin p e below s _ _ _ (T60.setTop (mkF m 14 #[.val (.ref a), .val (.ref d), .val .null] []))
  exact own_retV X60 hx hret hlk (hb hby own_d4_14) (by decide) (by decide) (by show _ ∧ _ ∧ Keep h0 T60.heap _ ∧ _; rw [e60]; exact ⟨rfl, fr60, kp60, f62, f63⟩)
set_option maxRecDepth 65536 in
set_option maxHeartbeats 40000000 in
theorem rmSSN (l : Launch) (Z : State) (a0 : Array Value) (hw : ∀ d ∈ tables_1, d.before a0 Z = true) (a : Addr) (h0 : Heap) (n0 : Nat) (E_a : Exa Z h0 a "com/example/ordinate/ordinate/client/ServerStatus") (F_p : Fld Z h0 a "com/example/ordinate/ordinate/client/ServerStatus" "primary" "Ljava/lang/String;" .null) (F_s : Fld Z h0 a "com/example/ordinate/ordinate/client/ServerStatus" "standbys" "Ljava/util/Map;" .null) (g_a : n0 ≤ a) :
    OMet l Z (⟨"com/example/ordinate/ordinate/client/ServerStatus", "<init>", "(Ljava/lang/String;Ljava/util/Map;)V"⟩ : MethodName) prog_33_method_1_code 3 none (⟨2, 0, 0, 24⟩ : Room) #[(.ref a), .null, .null] h0 (fun v h L => v = none ∧ Fr n0 L ∧ Keep h0 h [a] ∧ Exa Z h a "com/example/ordinate/ordinate/client/ServerStatus" ∧ Fld Z h a "com/example/ordinate/ordinate/client/ServerStatus" "primary" "Ljava/lang/String;" .null) := by
  refine own_enter own_pn4 ?_
  intro p e s m below meth c T0 X0 hC e0
  obtain ⟨hx, hZ, hby, hml, hown, hret, hlk, hnm⟩ := hC
  have hown : s.vm.findClass "com/example/ordinate/ordinate/client/ServerStatus" = some m.cls := hown
  refine own_at (own_ef4_RNN m a) ?_
  show OFin p e below s _ _ _ (T0.setTop (mkF m 0 #[.val (.ref a), .val .null, .val .null] []))
  have N0 := Fr.nil n0
  have kp0 := Keep.refl h0 [a]
  refine own_st (fun _ kS => XS.aloadN X0.here hx rfl (hb hby own_d4_0) rfl rfl kS) ?_
  show OFin p e below s _ _ _ (T0.setTop (mkF m 1 #[.val (.ref a), .val .null, .val .null] [(.ref a)]))
  obtain ⟨v65, T65, L65, X65, hQ65, st65⟩ := own_init X0 hx hZ (y := (⟨"java/lang/Record", "<init>", "()V"⟩ : MethodName)) (rm := ⟨1, 0, 0, 12⟩) (W := 0) (a := a) (argsL := []) (rest := []) rfl hown (own_w hw 28 rfl) (own_w hw 29 rfl) (own_w hw 31 rfl) (own_w hw 32 rfl) (rmRI l Z a0 hw a h0) e0 (g := (mkF m 1 #[.val (.ref a), .val .null, .val .null] [(.ref a)])) rfl (by rw [hml]; rfl) (lenOf own_pd4 rfl) rfl (by show 2 * 0 + _ ≤ _; exact Nat.le_of_eq rfl) (hb hby own_d4_1) (by decide) (by decide) (by decide) (by decide)
  obtain ⟨rfl, e65, rfl⟩ := hQ65
  rw [List.append_nil] at X65
  refine own_st (st65) ?_
  clear st65 X0 e0
  show OFin p e below s _ _ _ (T65.setTop (mkF m 4 #[.val (.ref a), .val .null, .val .null] []))
  refine own_st (fun _ kS => XS.aloadN X65.here hx rfl (hb hby own_d4_4) rfl rfl kS) ?_
  show OFin p e below s _ _ _ (T65.setTop (mkF m 5 #[.val (.ref a), .val .null, .val .null] [(.ref a)]))
  refine own_st (fun _ kS => XS.aloadN X65.here hx rfl (hb hby own_d4_5) rfl rfl kS) ?_
  show OFin p e below s _ _ _ (T65.setTop (mkF m 6 #[.val (.ref a), .val .null, .val .null] [.null, (.ref a)]))
  obtain ⟨T66, h66, X66, e66, W66, st66⟩ := putF X65 hx hZ hown (host := "") (Or.inl (own_w hw 34 rfl)) Via.refl e65 F_p E_a (Or.inr ⟨(own_w hw 35 rfl), rfl, hnm⟩) (own_w hw 23 rfl) (ty := (.object "java/lang/String")) (by decide) rfl rfl (g := (mkF m 6 #[.val (.ref a), .val .null, .val .null] [.null, (.ref a)])) rfl rfl (hb hby own_d4_6)
  have f67 := F_p.same W66
  have f68 := E_a.wr W66
  have f70 := F_s.other W66 (Or.inr (slot_ne (Or.inr (own_w hw 37 rfl)) (Or.inr (own_w hw 35 rfl)) (by decide) (t := (.object "java/util/Map")) (t' := (.object "java/lang/String")) (by decide) (by decide)))
  have fr66 := Fr.snoc X66 N0 g_a
  clear N0
  have kp66 := kp0.wr W66 (Or.inl (List.mem_of_getElem? (i := 0) rfl))
  clear kp0
  refine own_st (st66) ?_
  clear st66 X65 e65 W66
  show OFin p e below s _ _ _ (T66.setTop (mkF m 9 #[.val (.ref a), .val .null, .val .null] []))
  refine own_st (fun _ kS => XS.aloadN X66.here hx rfl (hb hby own_d4_9) rfl rfl kS) ?_
  show OFin p e below s _ _ _ (T66.setTop (mkF m 10 #[.val (.ref a), .val .null, .val .null] [(.ref a)]))
  refine own_st (fun _ kS => XS.aloadN X66.here hx rfl (hb hby own_d4_10) rfl rfl kS) ?_
  show OFin p e below s _ _ _ (T66.setTop (mkF m 11 #[.val (.ref a), .val .null, .val .null] [.null, (.ref a)]))
  obtain ⟨T71, h71, X71, e71, W71, st71⟩ := putF X66 hx hZ hown (host := "") (Or.inl (own_w hw 36 rfl)) Via.refl e66 f70 f68 (Or.inr ⟨(own_w hw 37 rfl), rfl, hnm⟩) (own_w hw 23 rfl) (ty := (.object "java/util/Map")) (by decide) rfl rfl (g := (mkF m 11 #[.val (.ref a), .val .null, .val .null] [.null, (.ref a)])) rfl rfl (hb hby own_d4_11)
  have f72 := f70.same W71
  have f73 := f68.wr W71
  clear f68
  have f74 := f67.other W71 (Or.inr (slot_ne (Or.inr (own_w hw 35 rfl)) (Or.inr (own_w hw 37 rfl)) (by decide) (t := (.object "java/lang/String")) (t' := (.object "java/util/Map")) (by decide) (by decide)))
  clear f67
  have fr71 := Fr.snoc X71 fr66 g_a
  clear fr66
  have kp71 := kp66.wr W71 (Or.inl (List.mem_of_getElem? (i := 0) rfl))
  clear kp66
  refine own_st (st71) ?_
  clear st71 X66 e66 W71 f70
  show OFin p e below s _ _ _ (T71.setTop (mkF m 14 #[.val (.ref a), .val .null, .val .null] []))
  exact own_retV X71 hx hret hlk (hb hby own_d4_14) (by decide) (by decide) (by show _ ∧ _ ∧ Keep h0 T71.heap _ ∧ _; rw [e71]; exact ⟨rfl, fr71, kp71, f73, f74⟩)
set_option maxRecDepth 65536 in
set_option maxHeartbeats 40000000 in
theorem rmIsR (l : Launch) (Z : State) (a0 : Array Value) (hw : ∀ d ∈ tables_1, d.before a0 Z = true) (a : Addr) (h0 : Heap) (d : Addr) (F_p : Fld Z h0 a "com/example/ordinate/ordinate/client/ServerStatus" "primary" "Ljava/lang/String;" (.ref d)) :
    OMet l Z (⟨"com/example/ordinate/ordinate/client/ServerStatus", "isStandby", "()Z"⟩ : MethodName) prog_33_method_2_code 1 (some .boolean) (⟨0, 0, 0, 0⟩ : Room) #[(.ref a)] h0 (fun v h L => v = some (.int (1 : Int32)) ∧ h = h0 ∧ L = []) := by
  refine own_enter own_pn6 ?_
  intro p e s m below meth c T0 X0 hC e0
  obtain ⟨hx, hZ, hby, hml, hown, hret, hlk, hnm⟩ := hC
  have hown : s.vm.findClass "com/example/ordinate/ordinate/client/ServerStatus" = some m.cls := hown
  refine own_at (own_ef6_R m a) ?_
  show OFin p e below s _ _ _ (T0.setTop (mkF m 0 #[.val (.ref a)] []))
  refine own_st (fun _ kS => XS.aloadN X0.here hx rfl (hb hby own_d6_0) rfl rfl kS) ?_
  show OFin p e below s _ _ _ (T0.setTop (mkF m 1 #[.val (.ref a)] [(.ref a)]))
  obtain ⟨T76, X76, e76, st76⟩ := getF X0 hx hZ hown (host := "") (Or.inl (own_w hw 34 rfl)) Via.refl e0 F_p (g := (mkF m 1 #[.val (.ref a)] [(.ref a)])) rfl rfl (hb hby own_d6_1)
  refine own_st (st76) ?_
  clear st76 X0 e0
  show OFin p e below s _ _ _ (T76.setTop (mkF m 4 #[.val (.ref a)] [(.ref d)]))
  refine own_st (fun _ kS => XS.ifnullNo X76.here hx rfl (hb hby own_d6_4) rfl kS) ?_
  show OFin p e below s _ _ _ (T76.setTop (mkF m 7 #[.val (.ref a)] []))
  refine own_st (fun _ kS => XS.iconst X76.here hx rfl (hb hby own_d6_7) kS) ?_
  show OFin p e below s _ _ _ (T76.setTop (mkF m 8 #[.val (.ref a)] [(.int (1 : Int32))]))
  refine own_st (fun _ kS => XS.goto X76.here hx rfl (pc0 := 8) (pc' := 12) rfl (hb hby own_d6_8) (by decide) (by decide) kS) ?_
  show OFin p e below s _ _ _ (T76.setTop (mkF m 12 #[.val (.ref a)] [(.int (1 : Int32))]))
  exact own_ret X76 hx (t := .boolean) hret hlk rfl (Or.inl ⟨rfl, by simp, _, rfl⟩) (hb hby own_d6_12) (by decide) (by decide) ⟨rfl, e76, rfl⟩
set_option maxRecDepth 65536 in
set_option maxHeartbeats 40000000 in
theorem rmIsN (l : Launch) (Z : State) (a0 : Array Value) (hw : ∀ d ∈ tables_1, d.before a0 Z = true) (a : Addr) (h0 : Heap) (F_p : Fld Z h0 a "com/example/ordinate/ordinate/client/ServerStatus" "primary" "Ljava/lang/String;" .null) :
    OMet l Z (⟨"com/example/ordinate/ordinate/client/ServerStatus", "isStandby", "()Z"⟩ : MethodName) prog_33_method_2_code 1 (some .boolean) (⟨0, 0, 0, 0⟩ : Room) #[(.ref a)] h0 (fun v h L => v = some (.int (0 : Int32)) ∧ h = h0 ∧ L = []) := by
  refine own_enter own_pn6 ?_
  intro p e s m below meth c T0 X0 hC e0
  obtain ⟨hx, hZ, hby, hml, hown, hret, hlk, hnm⟩ := hC
  have hown : s.vm.findClass "com/example/ordinate/ordinate/client/ServerStatus" = some m.cls := hown
  refine own_at (own_ef6_R m a) ?_
  show OFin p e below s _ _ _ (T0.setTop (mkF m 0 #[.val (.ref a)] []))
  refine own_st (fun _ kS => XS.aloadN X0.here hx rfl (hb hby own_d6_0) rfl rfl kS) ?_
  show OFin p e below s _ _ _ (T0.setTop (mkF m 1 #[.val (.ref a)] [(.ref a)]))
  obtain ⟨T77, X77, e77, st77⟩ := getF X0 hx hZ hown (host := "") (Or.inl (own_w hw 34 rfl)) Via.refl e0 F_p (g := (mkF m 1 #[.val (.ref a)] [(.ref a)])) rfl rfl (hb hby own_d6_1)
  refine own_st (st77) ?_
  clear st77 X0 e0
  show OFin p e below s _ _ _ (T77.setTop (mkF m 4 #[.val (.ref a)] [.null]))
  refine own_st (fun _ kS => XS.ifnullYes X77.here hx rfl (pc0 := 4) (pc' := 11) rfl (hb hby own_d6_4) rfl (by decide) (by decide) kS) ?_
  show OFin p e below s _ _ _ (T77.setTop (mkF m 11 #[.val (.ref a)] []))
  refine own_st (fun _ kS => XS.iconst X77.here hx rfl (hb hby own_d6_11) kS) ?_
  show OFin p e below s _ _ _ (T77.setTop (mkF m 12 #[.val (.ref a)] [(.int (0 : Int32))]))
  exact own_ret X77 hx (t := .boolean) hret hlk rfl (Or.inl ⟨rfl, by simp, _, rfl⟩) (hb hby own_d6_12) (by decide) (by decide) ⟨rfl, e77, rfl⟩
set_option maxRecDepth 65536 in
set_option maxHeartbeats 40000000 in
theorem own_pT {l : Launch} {Z : State} {a0 : Array Value} (hw : ∀ d ∈ tables_1, d.before a0 Z = true) {p : Program} {e : Env} {s : State} {m : MethodId} {args : Array Value} {below : List Frame} {meth : Method} {c : Code} (hC : OCtx Z p s m meth c "com/example/ordinate/ordinate/client/ServerStatusIsStandbyPinLaw" "law" code maxLocals ret) {T0 : State} {locs : List Loc} {cells slots : Nat} (X0 : Stand p l e room_1 s m args below meth c T0 locs cells slots) {h0 : Heap} (e0 : T0.heap = h0) (p1 p2 p3 p4 np k5 k6 k7 k8 : Int32) (d : Addr) (n0 : Nat) (Z0 : n0 ≤ h0.size) (N0 : Fr n0 locs) (hcs : cells ≤ 8) (hss : slots ≤ 64) :
    OFin p e below s room_1.cells room_1.slots (fun v h L => v = some (.int (1 : Int32)) ∧ Fr n0 L ∧ h0.size ≤ h.size) (T0.setTop (mkF m 138 #[.val (.int p1), .val (.int p2), .val (.int p3), .val (.int p4), .val (.int np), .val (.int k5), .val (.int k6), .val (.int k7), .val (.int k8), .val (.ref d), .unset, .unset, .unset] [])) := by
  have hC0 := hC
  obtain ⟨hx, hZ, hby, hml, hown, hret, hlk, hnm⟩ := hC
  have kp0 := Keep.refl h0 []
  replace X0 := X0.mono hcs hss
  refine own_st (fun _ kS => XS.iload X0.here hx rfl (hb hby at_138) rfl kS) ?_
  show OFin p e below s _ _ _ (T0.setTop (mkF m 140 #[.val (.int p1), .val (.int p2), .val (.int p3), .val (.int p4), .val (.int np), .val (.int k5), .val (.int k6), .val (.int k7), .val (.int k8), .val (.ref d), .unset, .unset, .unset] [(.int np)]))
  by_cases c1 : np = (0 : Int32)
  · refine own_st (fun _ kS => XS.ifYes X0.here hx rfl (pc0 := 140) (pc' := 147) rfl (hb hby at_140) rfl ((if0 _ _).trans (teq c1).1) (by decide) (by decide) kS) ?_
    show OFin p e below s _ _ _ (T0.setTop (mkF m 147 #[.val (.int p1), .val (.int p2), .val (.int p3), .val (.int p4), .val (.int np), .val (.int k5), .val (.int k6), .val (.int k7), .val (.int k8), .val (.ref d), .unset, .unset, .unset] []))
    refine own_st (fun _ kS => XS.aload X0.here hx rfl (hb hby at_147) rfl rfl kS) ?_
    show OFin p e below s _ _ _ (T0.setTop (mkF m 149 #[.val (.int p1), .val (.int p2), .val (.int p3), .val (.int p4), .val (.int np), .val (.int k5), .val (.int k6), .val (.int k7), .val (.int k8), .val (.ref d), .unset, .unset, .unset] [(.ref d)]))
    refine own_st (fun _ kS => XS.astore X0.here hx rfl (hb hby at_149) rfl rfl (l' := #[.val (.int p1), .val (.int p2), .val (.int p3), .val (.int p4), .val (.int np), .val (.int k5), .val (.int k6), .val (.int k7), .val (.int k8), .val (.ref d), .val (.ref d), .unset, .unset]) rfl kS) ?_
    show OFin p e below s _ _ _ (T0.setTop (mkF m 151 #[.val (.int p1), .val (.int p2), .val (.int p3), .val (.int p4), .val (.int np), .val (.int k5), .val (.int k6), .val (.int k7), .val (.int k8), .val (.ref d), .val (.ref d), .unset, .unset] []))
    refine own_st (fun _ kS => XS.iload X0.here hx rfl (hb hby at_151) rfl kS) ?_
    show OFin p e below s _ _ _ (T0.setTop (mkF m 153 #[.val (.int p1), .val (.int p2), .val (.int p3), .val (.int p4), .val (.int np), .val (.int k5), .val (.int k6), .val (.int k7), .val (.int k8), .val (.ref d), .val (.ref d), .unset, .unset] [(.int np)]))
    refine own_st (fun _ kS => XS.ifNo X0.here hx rfl (hb hby at_153) rfl ((if0 _ _).trans (teq c1).2) kS) ?_
    show OFin p e below s _ _ _ (T0.setTop (mkF m 156 #[.val (.int p1), .val (.int p2), .val (.int p3), .val (.int p4), .val (.int np), .val (.int k5), .val (.int k6), .val (.int k7), .val (.int k8), .val (.ref d), .val (.ref d), .unset, .unset] []))
    refine own_st (fun _ kS => XS.iconst X0.here hx rfl (hb hby at_156) kS) ?_
    show OFin p e below s _ _ _ (T0.setTop (mkF m 157 #[.val (.int p1), .val (.int p2), .val (.int p3), .val (.int p4), .val (.int np), .val (.int k5), .val (.int k6), .val (.int k7), .val (.int k8), .val (.ref d), .val (.ref d), .unset, .unset] [(.int (1 : Int32))]))
    refine own_st (fun _ kS => XS.goto X0.here hx rfl (pc0 := 157) (pc' := 161) rfl (hb hby at_157) (by decide) (by decide) kS) ?_
    show OFin p e below s _ _ _ (T0.setTop (mkF m 161 #[.val (.int p1), .val (.int p2), .val (.int p3), .val (.int p4), .val (.int np), .val (.int k5), .val (.int k6), .val (.int k7), .val (.int k8), .val (.ref d), .val (.ref d), .unset, .unset] [(.int (1 : Int32))]))
    refine own_st (fun _ kS => XS.istore X0.here hx rfl (hb hby at_161) rfl (l' := #[.val (.int p1), .val (.int p2), .val (.int p3), .val (.int p4), .val (.int np), .val (.int k5), .val (.int k6), .val (.int k7), .val (.int k8), .val (.ref d), .val (.ref d), .val (.int (1 : Int32)), .unset]) rfl kS) ?_
    show OFin p e below s _ _ _ (T0.setTop (mkF m 163 #[.val (.int p1), .val (.int p2), .val (.int p3), .val (.int p4), .val (.int np), .val (.int k5), .val (.int k6), .val (.int k7), .val (.int k8), .val (.ref d), .val (.ref d), .val (.int (1 : Int32)), .unset] []))
    obtain ⟨T78, h78, X78, e78, E78, A78, D78, -, st78⟩ := newO X0 hx hZ hown (own_w hw 22 rfl) (own_w hw 23 rfl) (own_w hw 24 rfl) e0 (g := (mkF m 163 #[.val (.int p1), .val (.int p2), .val (.int p3), .val (.int p4), .val (.int np), .val (.int k5), .val (.int k6), .val (.int k7), .val (.int k8), .val (.ref d), .val (.ref d), .val (.int (1 : Int32)), .unset] [])) rfl (hb hby at_163) (by decide) (by decide)
    obtain ⟨a, g78⟩ : ∃ z, z = h0.size := ⟨_, rfl⟩
    rw [← g78] at A78 D78 st78
    have g_a : n0 ≤ a := Nat.le_trans Z0 (Nat.le_of_eq g78.symm)
    have f79 : Fld Z h78 a "com/example/ordinate/ordinate/client/ServerStatus" "primary" "Ljava/lang/String;" .null := D78 (Or.inr (own_w hw 35 rfl)) (ty := (.object "java/lang/String")) (by decide)
    have f80 : Fld Z h78 a "com/example/ordinate/ordinate/client/ServerStatus" "standbys" "Ljava/util/Map;" .null := D78 (Or.inr (own_w hw 37 rfl)) (ty := (.object "java/util/Map")) (by decide)
    have sz78 : n0 ≤ h78.size := Nat.le_trans Z0 E78.1
    have kp78 := kp0.ext E78
    have kz_a := Nat.le_trans kp0.1 (Nat.le_of_eq g78.symm)
    clear kp0
    refine own_st (st78) ?_
    clear st78 X0 e0 E78 D78 g78
    show OFin p e below s _ _ _ (T78.setTop (mkF m 166 #[.val (.int p1), .val (.int p2), .val (.int p3), .val (.int p4), .val (.int np), .val (.int k5), .val (.int k6), .val (.int k7), .val (.int k8), .val (.ref d), .val (.ref d), .val (.int (1 : Int32)), .unset] [(.ref a)]))
    refine own_st (fun _ kS => XS.dup X78.here hx rfl (hb hby at_166) rfl rfl kS) ?_
    show OFin p e below s _ _ _ (T78.setTop (mkF m 167 #[.val (.int p1), .val (.int p2), .val (.int p3), .val (.int p4), .val (.int np), .val (.int k5), .val (.int k6), .val (.int k7), .val (.int k8), .val (.ref d), .val (.ref d), .val (.int (1 : Int32)), .unset] [(.ref a), (.ref a)]))
    refine own_st (fun _ kS => XS.aload X78.here hx rfl (hb hby at_167) rfl rfl kS) ?_
    show OFin p e below s _ _ _ (T78.setTop (mkF m 169 #[.val (.int p1), .val (.int p2), .val (.int p3), .val (.int p4), .val (.int np), .val (.int k5), .val (.int k6), .val (.int k7), .val (.int k8), .val (.ref d), .val (.ref d), .val (.int (1 : Int32)), .unset] [(.ref d), (.ref a), (.ref a)]))
    refine own_st (fun _ kS => XS.aconstNull X78.here hx rfl (hb hby at_169) kS) ?_
    show OFin p e below s _ _ _ (T78.setTop (mkF m 170 #[.val (.int p1), .val (.int p2), .val (.int p3), .val (.int p4), .val (.int np), .val (.int k5), .val (.int k6), .val (.int k7), .val (.int k8), .val (.ref d), .val (.ref d), .val (.int (1 : Int32)), .unset] [.null, (.ref d), (.ref a), (.ref a)]))
    obtain ⟨v81, T81, L81, X81, hQ81, st81⟩ := own_init X78 hx hZ (y := (⟨"com/example/ordinate/ordinate/client/ServerStatus", "<init>", "(Ljava/lang/String;Ljava/util/Map;)V"⟩ : MethodName)) (rm := ⟨2, 0, 0, 24⟩) (W := 1) (a := a) (argsL := [(.ref d), .null]) (rest := [(.ref a)]) rfl hown (own_w hw 25 rfl) (own_w hw 26 rfl) (own_w hw 24 rfl) (own_w hw 27 rfl) (rmSSR l Z a0 hw a d h78 n0 A78 f79 f80 g_a) e78 (g := (mkF m 170 #[.val (.int p1), .val (.int p2), .val (.int p3), .val (.int p4), .val (.int np), .val (.int k5), .val (.int k6), .val (.int k7), .val (.int k8), .val (.ref d), .val (.ref d), .val (.int (1 : Int32)), .unset] [.null, (.ref d), (.ref a), (.ref a)])) rfl (by rw [hml]; rfl) (lenOf own_pd5 rfl) rfl (by show 2 * 0 + _ ≤ _; exact Nat.le_of_eq rfl) (hb hby at_170) (by decide) (by decide) (by decide) (by decide)
    obtain ⟨rfl, N81, K81, EE, FP⟩ := hQ81
    have fr81 := Fr.app N0 N81
    have kp81 := kp78.trans K81 (allS (Or.inr kz_a) all0)
    have f82 := A78.keep K81
    clear f79
    clear f80
    have sz81 : n0 ≤ T81.heap.size := Nat.le_trans sz78 K81.1
    clear sz78
    refine own_st (st81) ?_
    clear st81 X78 e78
    show OFin p e below s _ _ _ (T81.setTop (mkF m 173 #[.val (.int p1), .val (.int p2), .val (.int p3), .val (.int p4), .val (.int np), .val (.int k5), .val (.int k6), .val (.int k7), .val (.int k8), .val (.ref d), .val (.ref d), .val (.int (1 : Int32)), .unset] [(.ref a)]))
    refine own_st (fun _ kS => XS.astore X81.here hx rfl (hb hby at_173) rfl rfl (l' := #[.val (.int p1), .val (.int p2), .val (.int p3), .val (.int p4), .val (.int np), .val (.int k5), .val (.int k6), .val (.int k7), .val (.int k8), .val (.ref d), .val (.ref d), .val (.int (1 : Int32)), .val (.ref a)]) rfl kS) ?_
    show OFin p e below s _ _ _ (T81.setTop (mkF m 175 #[.val (.int p1), .val (.int p2), .val (.int p3), .val (.int p4), .val (.int np), .val (.int k5), .val (.int k6), .val (.int k7), .val (.int k8), .val (.ref d), .val (.ref d), .val (.int (1 : Int32)), .val (.ref a)] []))
    refine own_st (fun _ kS => XS.aload X81.here hx rfl (hb hby at_175) rfl rfl kS) ?_
    show OFin p e below s _ _ _ (T81.setTop (mkF m 177 #[.val (.int p1), .val (.int p2), .val (.int p3), .val (.int p4), .val (.int np), .val (.int k5), .val (.int k6), .val (.int k7), .val (.int k8), .val (.ref d), .val (.ref d), .val (.int (1 : Int32)), .val (.ref a)] [(.ref a)]))
    obtain ⟨v85, T85, L85, X85, hQ85, st85⟩ := own_virtual X81 hx hZ (y := (⟨"com/example/ordinate/ordinate/client/ServerStatus", "isStandby", "()Z"⟩ : MethodName)) (z := (⟨"com/example/ordinate/ordinate/client/ServerStatus", "isStandby", "()Z"⟩ : MethodName)) (rm := ⟨0, 0, 0, 0⟩) (W := 0) (a := a) (argsL := []) (rest := []) hown (own_w hw 38 rfl) (own_w hw 39 rfl) (notFace_of_selects (args := #[]) (mvT hZ (own_w hw 41 rfl))) (own_w hw 41 rfl) (own_w hw 40 rfl) (own_w hw 24 rfl) (own_w hw 42 rfl) (rmIsR l Z a0 hw a T81.heap d FP) rfl EE (g := (mkF m 177 #[.val (.int p1), .val (.int p2), .val (.int p3), .val (.int p4), .val (.int np), .val (.int k5), .val (.int k6), .val (.int k7), .val (.int k8), .val (.ref d), .val (.ref d), .val (.int (1 : Int32)), .val (.ref a)] [(.ref a)])) rfl (by rw [hml]; rfl) (lenOf own_pd6 rfl) rfl (by show 2 * 0 + _ ≤ _; exact Nat.le_of_eq rfl) (hb hby at_177) (by decide) (by decide) (by decide) (by decide)
    obtain ⟨rfl, e85, rfl⟩ := hQ85
    rw [List.append_nil] at X85
    refine own_st (st85) ?_
    clear st85 X81
    show OFin p e below s _ _ _ (T85.setTop (mkF m 180 #[.val (.int p1), .val (.int p2), .val (.int p3), .val (.int p4), .val (.int np), .val (.int k5), .val (.int k6), .val (.int k7), .val (.int k8), .val (.ref d), .val (.ref d), .val (.int (1 : Int32)), .val (.ref a)] [(.int (1 : Int32))]))
    refine own_st (fun _ kS => XS.iload X85.here hx rfl (hb hby at_180) rfl kS) ?_
    show OFin p e below s _ _ _ (T85.setTop (mkF m 182 #[.val (.int p1), .val (.int p2), .val (.int p3), .val (.int p4), .val (.int np), .val (.int k5), .val (.int k6), .val (.int k7), .val (.int k8), .val (.ref d), .val (.ref d), .val (.int (1 : Int32)), .val (.ref a)] [(.int (1 : Int32)), (.int (1 : Int32))]))
    refine own_st (fun _ kS => XS.icmpNo X85.here hx rfl (hb hby at_182) rfl (teq rfl).2 kS) ?_
    show OFin p e below s _ _ _ (T85.setTop (mkF m 185 #[.val (.int p1), .val (.int p2), .val (.int p3), .val (.int p4), .val (.int np), .val (.int k5), .val (.int k6), .val (.int k7), .val (.int k8), .val (.ref d), .val (.ref d), .val (.int (1 : Int32)), .val (.ref a)] []))
    refine own_st (fun _ kS => XS.iconst X85.here hx rfl (hb hby at_185) kS) ?_
    show OFin p e below s _ _ _ (T85.setTop (mkF m 186 #[.val (.int p1), .val (.int p2), .val (.int p3), .val (.int p4), .val (.int np), .val (.int k5), .val (.int k6), .val (.int k7), .val (.int k8), .val (.ref d), .val (.ref d), .val (.int (1 : Int32)), .val (.ref a)] [(.int (1 : Int32))]))
    refine own_st (fun _ kS => XS.goto X85.here hx rfl (pc0 := 186) (pc' := 190) rfl (hb hby at_186) (by decide) (by decide) kS) ?_
    show OFin p e below s _ _ _ (T85.setTop (mkF m 190 #[.val (.int p1), .val (.int p2), .val (.int p3), .val (.int p4), .val (.int np), .val (.int k5), .val (.int k6), .val (.int k7), .val (.int k8), .val (.ref d), .val (.ref d), .val (.int (1 : Int32)), .val (.ref a)] [(.int (1 : Int32))]))
    exact own_ret X85 hx (t := .boolean) hret hlk rfl (Or.inl ⟨rfl, by simp, _, rfl⟩) (hb hby at_190) (by decide) (by decide) ⟨rfl, fr81, by rw [e85]; exact kp81.1⟩
  · refine own_st (fun _ kS => XS.ifNo X0.here hx rfl (hb hby at_140) rfl ((if0 _ _).trans (feq c1).1) kS) ?_
    show OFin p e below s _ _ _ (T0.setTop (mkF m 143 #[.val (.int p1), .val (.int p2), .val (.int p3), .val (.int p4), .val (.int np), .val (.int k5), .val (.int k6), .val (.int k7), .val (.int k8), .val (.ref d), .unset, .unset, .unset] []))
    refine own_st (fun _ kS => XS.aconstNull X0.here hx rfl (hb hby at_143) kS) ?_
    show OFin p e below s _ _ _ (T0.setTop (mkF m 144 #[.val (.int p1), .val (.int p2), .val (.int p3), .val (.int p4), .val (.int np), .val (.int k5), .val (.int k6), .val (.int k7), .val (.int k8), .val (.ref d), .unset, .unset, .unset] [.null]))
    refine own_st (fun _ kS => XS.goto X0.here hx rfl (pc0 := 144) (pc' := 149) rfl (hb hby at_144) (by decide) (by decide) kS) ?_
    show OFin p e below s _ _ _ (T0.setTop (mkF m 149 #[.val (.int p1), .val (.int p2), .val (.int p3), .val (.int p4), .val (.int np), .val (.int k5), .val (.int k6), .val (.int k7), .val (.int k8), .val (.ref d), .unset, .unset, .unset] [.null]))
    refine own_st (fun _ kS => XS.astore X0.here hx rfl (hb hby at_149) rfl rfl (l' := #[.val (.int p1), .val (.int p2), .val (.int p3), .val (.int p4), .val (.int np), .val (.int k5), .val (.int k6), .val (.int k7), .val (.int k8), .val (.ref d), .val .null, .unset, .unset]) rfl kS) ?_
    show OFin p e below s _ _ _ (T0.setTop (mkF m 151 #[.val (.int p1), .val (.int p2), .val (.int p3), .val (.int p4), .val (.int np), .val (.int k5), .val (.int k6), .val (.int k7), .val (.int k8), .val (.ref d), .val .null, .unset, .unset] []))
    refine own_st (fun _ kS => XS.iload X0.here hx rfl (hb hby at_151) rfl kS) ?_
    show OFin p e below s _ _ _ (T0.setTop (mkF m 153 #[.val (.int p1), .val (.int p2), .val (.int p3), .val (.int p4), .val (.int np), .val (.int k5), .val (.int k6), .val (.int k7), .val (.int k8), .val (.ref d), .val .null, .unset, .unset] [(.int np)]))
    refine own_st (fun _ kS => XS.ifYes X0.here hx rfl (pc0 := 153) (pc' := 160) rfl (hb hby at_153) rfl ((if0 _ _).trans (feq c1).2) (by decide) (by decide) kS) ?_
    show OFin p e below s _ _ _ (T0.setTop (mkF m 160 #[.val (.int p1), .val (.int p2), .val (.int p3), .val (.int p4), .val (.int np), .val (.int k5), .val (.int k6), .val (.int k7), .val (.int k8), .val (.ref d), .val .null, .unset, .unset] []))
    refine own_st (fun _ kS => XS.iconst X0.here hx rfl (hb hby at_160) kS) ?_
    show OFin p e below s _ _ _ (T0.setTop (mkF m 161 #[.val (.int p1), .val (.int p2), .val (.int p3), .val (.int p4), .val (.int np), .val (.int k5), .val (.int k6), .val (.int k7), .val (.int k8), .val (.ref d), .val .null, .unset, .unset] [(.int (0 : Int32))]))
    refine own_st (fun _ kS => XS.istore X0.here hx rfl (hb hby at_161) rfl (l' := #[.val (.int p1), .val (.int p2), .val (.int p3), .val (.int p4), .val (.int np), .val (.int k5), .val (.int k6), .val (.int k7), .val (.int k8), .val (.ref d), .val .null, .val (.int (0 : Int32)), .unset]) rfl kS) ?_
    show OFin p e below s _ _ _ (T0.setTop (mkF m 163 #[.val (.int p1), .val (.int p2), .val (.int p3), .val (.int p4), .val (.int np), .val (.int k5), .val (.int k6), .val (.int k7), .val (.int k8), .val (.ref d), .val .null, .val (.int (0 : Int32)), .unset] []))
    obtain ⟨T86, h86, X86, e86, E86, A86, D86, -, st86⟩ := newO X0 hx hZ hown (own_w hw 22 rfl) (own_w hw 23 rfl) (own_w hw 24 rfl) e0 (g := (mkF m 163 #[.val (.int p1), .val (.int p2), .val (.int p3), .val (.int p4), .val (.int np), .val (.int k5), .val (.int k6), .val (.int k7), .val (.int k8), .val (.ref d), .val .null, .val (.int (0 : Int32)), .unset] [])) rfl (hb hby at_163) (by decide) (by decide)
    obtain ⟨a, g86⟩ : ∃ z, z = h0.size := ⟨_, rfl⟩
    rw [← g86] at A86 D86 st86
    have g_a : n0 ≤ a := Nat.le_trans Z0 (Nat.le_of_eq g86.symm)
    have f87 : Fld Z h86 a "com/example/ordinate/ordinate/client/ServerStatus" "primary" "Ljava/lang/String;" .null := D86 (Or.inr (own_w hw 35 rfl)) (ty := (.object "java/lang/String")) (by decide)
    have f88 : Fld Z h86 a "com/example/ordinate/ordinate/client/ServerStatus" "standbys" "Ljava/util/Map;" .null := D86 (Or.inr (own_w hw 37 rfl)) (ty := (.object "java/util/Map")) (by decide)
    have sz86 : n0 ≤ h86.size := Nat.le_trans Z0 E86.1
    have kp86 := kp0.ext E86
    have kz_a := Nat.le_trans kp0.1 (Nat.le_of_eq g86.symm)
    clear kp0
    refine own_st (st86) ?_
    clear st86 X0 e0 E86 D86 g86
    show OFin p e below s _ _ _ (T86.setTop (mkF m 166 #[.val (.int p1), .val (.int p2), .val (.int p3), .val (.int p4), .val (.int np), .val (.int k5), .val (.int k6), .val (.int k7), .val (.int k8), .val (.ref d), .val .null, .val (.int (0 : Int32)), .unset] [(.ref a)]))
    refine own_st (fun _ kS => XS.dup X86.here hx rfl (hb hby at_166) rfl rfl kS) ?_
    show OFin p e below s _ _ _ (T86.setTop (mkF m 167 #[.val (.int p1), .val (.int p2), .val (.int p3), .val (.int p4), .val (.int np), .val (.int k5), .val (.int k6), .val (.int k7), .val (.int k8), .val (.ref d), .val .null, .val (.int (0 : Int32)), .unset] [(.ref a), (.ref a)]))
    refine own_st (fun _ kS => XS.aload X86.here hx rfl (hb hby at_167) rfl rfl kS) ?_
    show OFin p e below s _ _ _ (T86.setTop (mkF m 169 #[.val (.int p1), .val (.int p2), .val (.int p3), .val (.int p4), .val (.int np), .val (.int k5), .val (.int k6), .val (.int k7), .val (.int k8), .val (.ref d), .val .null, .val (.int (0 : Int32)), .unset] [.null, (.ref a), (.ref a)]))
    refine own_st (fun _ kS => XS.aconstNull X86.here hx rfl (hb hby at_169) kS) ?_
    show OFin p e below s _ _ _ (T86.setTop (mkF m 170 #[.val (.int p1), .val (.int p2), .val (.int p3), .val (.int p4), .val (.int np), .val (.int k5), .val (.int k6), .val (.int k7), .val (.int k8), .val (.ref d), .val .null, .val (.int (0 : Int32)), .unset] [.null, .null, (.ref a), (.ref a)]))
    obtain ⟨v89, T89, L89, X89, hQ89, st89⟩ := own_init X86 hx hZ (y := (⟨"com/example/ordinate/ordinate/client/ServerStatus", "<init>", "(Ljava/lang/String;Ljava/util/Map;)V"⟩ : MethodName)) (rm := ⟨2, 0, 0, 24⟩) (W := 1) (a := a) (argsL := [.null, .null]) (rest := [(.ref a)]) rfl hown (own_w hw 25 rfl) (own_w hw 26 rfl) (own_w hw 24 rfl) (own_w hw 27 rfl) (rmSSN l Z a0 hw a h86 n0 A86 f87 f88 g_a) e86 (g := (mkF m 170 #[.val (.int p1), .val (.int p2), .val (.int p3), .val (.int p4), .val (.int np), .val (.int k5), .val (.int k6), .val (.int k7), .val (.int k8), .val (.ref d), .val .null, .val (.int (0 : Int32)), .unset] [.null, .null, (.ref a), (.ref a)])) rfl (by rw [hml]; rfl) (lenOf own_pd5 rfl) rfl (by show 2 * 0 + _ ≤ _; exact Nat.le_of_eq rfl) (hb hby at_170) (by decide) (by decide) (by decide) (by decide)
    obtain ⟨rfl, N89, K89, EE, FP⟩ := hQ89
    have fr89 := Fr.app N0 N89
    have kp89 := kp86.trans K89 (allS (Or.inr kz_a) all0)
    have f90 := A86.keep K89
    clear f87
    clear f88
    have sz89 : n0 ≤ T89.heap.size := Nat.le_trans sz86 K89.1
    clear sz86
    refine own_st (st89) ?_
    clear st89 X86 e86
    show OFin p e below s _ _ _ (T89.setTop (mkF m 173 #[.val (.int p1), .val (.int p2), .val (.int p3), .val (.int p4), .val (.int np), .val (.int k5), .val (.int k6), .val (.int k7), .val (.int k8), .val (.ref d), .val .null, .val (.int (0 : Int32)), .unset] [(.ref a)]))
    refine own_st (fun _ kS => XS.astore X89.here hx rfl (hb hby at_173) rfl rfl (l' := #[.val (.int p1), .val (.int p2), .val (.int p3), .val (.int p4), .val (.int np), .val (.int k5), .val (.int k6), .val (.int k7), .val (.int k8), .val (.ref d), .val .null, .val (.int (0 : Int32)), .val (.ref a)]) rfl kS) ?_
    show OFin p e below s _ _ _ (T89.setTop (mkF m 175 #[.val (.int p1), .val (.int p2), .val (.int p3), .val (.int p4), .val (.int np), .val (.int k5), .val (.int k6), .val (.int k7), .val (.int k8), .val (.ref d), .val .null, .val (.int (0 : Int32)), .val (.ref a)] []))
    refine own_st (fun _ kS => XS.aload X89.here hx rfl (hb hby at_175) rfl rfl kS) ?_
    show OFin p e below s _ _ _ (T89.setTop (mkF m 177 #[.val (.int p1), .val (.int p2), .val (.int p3), .val (.int p4), .val (.int np), .val (.int k5), .val (.int k6), .val (.int k7), .val (.int k8), .val (.ref d), .val .null, .val (.int (0 : Int32)), .val (.ref a)] [(.ref a)]))
    obtain ⟨v93, T93, L93, X93, hQ93, st93⟩ := own_virtual X89 hx hZ (y := (⟨"com/example/ordinate/ordinate/client/ServerStatus", "isStandby", "()Z"⟩ : MethodName)) (z := (⟨"com/example/ordinate/ordinate/client/ServerStatus", "isStandby", "()Z"⟩ : MethodName)) (rm := ⟨0, 0, 0, 0⟩) (W := 0) (a := a) (argsL := []) (rest := []) hown (own_w hw 38 rfl) (own_w hw 39 rfl) (notFace_of_selects (args := #[]) (mvT hZ (own_w hw 41 rfl))) (own_w hw 41 rfl) (own_w hw 40 rfl) (own_w hw 24 rfl) (own_w hw 42 rfl) (rmIsN l Z a0 hw a T89.heap FP) rfl EE (g := (mkF m 177 #[.val (.int p1), .val (.int p2), .val (.int p3), .val (.int p4), .val (.int np), .val (.int k5), .val (.int k6), .val (.int k7), .val (.int k8), .val (.ref d), .val .null, .val (.int (0 : Int32)), .val (.ref a)] [(.ref a)])) rfl (by rw [hml]; rfl) (lenOf own_pd6 rfl) rfl (by show 2 * 0 + _ ≤ _; exact Nat.le_of_eq rfl) (hb hby at_177) (by decide) (by decide) (by decide) (by decide)
    obtain ⟨rfl, e93, rfl⟩ := hQ93
    rw [List.append_nil] at X93
    refine own_st (st93) ?_
    clear st93 X89
    show OFin p e below s _ _ _ (T93.setTop (mkF m 180 #[.val (.int p1), .val (.int p2), .val (.int p3), .val (.int p4), .val (.int np), .val (.int k5), .val (.int k6), .val (.int k7), .val (.int k8), .val (.ref d), .val .null, .val (.int (0 : Int32)), .val (.ref a)] [(.int (0 : Int32))]))
    refine own_st (fun _ kS => XS.iload X93.here hx rfl (hb hby at_180) rfl kS) ?_
    show OFin p e below s _ _ _ (T93.setTop (mkF m 182 #[.val (.int p1), .val (.int p2), .val (.int p3), .val (.int p4), .val (.int np), .val (.int k5), .val (.int k6), .val (.int k7), .val (.int k8), .val (.ref d), .val .null, .val (.int (0 : Int32)), .val (.ref a)] [(.int (0 : Int32)), (.int (0 : Int32))]))
    refine own_st (fun _ kS => XS.icmpNo X93.here hx rfl (hb hby at_182) rfl (teq rfl).2 kS) ?_
    show OFin p e below s _ _ _ (T93.setTop (mkF m 185 #[.val (.int p1), .val (.int p2), .val (.int p3), .val (.int p4), .val (.int np), .val (.int k5), .val (.int k6), .val (.int k7), .val (.int k8), .val (.ref d), .val .null, .val (.int (0 : Int32)), .val (.ref a)] []))
    refine own_st (fun _ kS => XS.iconst X93.here hx rfl (hb hby at_185) kS) ?_
    show OFin p e below s _ _ _ (T93.setTop (mkF m 186 #[.val (.int p1), .val (.int p2), .val (.int p3), .val (.int p4), .val (.int np), .val (.int k5), .val (.int k6), .val (.int k7), .val (.int k8), .val (.ref d), .val .null, .val (.int (0 : Int32)), .val (.ref a)] [(.int (1 : Int32))]))
    refine own_st (fun _ kS => XS.goto X93.here hx rfl (pc0 := 186) (pc' := 190) rfl (hb hby at_186) (by decide) (by decide) kS) ?_
    show OFin p e below s _ _ _ (T93.setTop (mkF m 190 #[.val (.int p1), .val (.int p2), .val (.int p3), .val (.int p4), .val (.int np), .val (.int k5), .val (.int k6), .val (.int k7), .val (.int k8), .val (.ref d), .val .null, .val (.int (0 : Int32)), .val (.ref a)] [(.int (1 : Int32))]))
    exact own_ret X93 hx (t := .boolean) hret hlk rfl (Or.inl ⟨rfl, by simp, _, rfl⟩) (hb hby at_190) (by decide) (by decide) ⟨rfl, fr89, by rw [e93]; exact kp89.1⟩
set_option maxRecDepth 65536 in
set_option maxHeartbeats 40000000 in
theorem own_pK {l : Launch} {Z : State} {a0 : Array Value} (hw : ∀ d ∈ tables_1, d.before a0 Z = true) {p : Program} {e : Env} {s : State} {m : MethodId} {args : Array Value} {below : List Frame} {meth : Method} {c : Code} (hC : OCtx Z p s m meth c "com/example/ordinate/ordinate/client/ServerStatusIsStandbyPinLaw" "law" code maxLocals ret) {T0 : State} {locs : List Loc} {cells slots : Nat} (X0 : Stand p l e room_1 s m args below meth c T0 locs cells slots) {h0 : Heap} (e0 : T0.heap = h0) (p1 p2 p3 p4 np k5 k6 k7 k8 : Int32) (n0 : Nat) (z : Int32) (Z0 : n0 ≤ h0.size) (N0 : Fr n0 locs) (hloc : locs = []) (hcs : cells = 0) (hss : slots = 0) (r6 : 0 ≤ k6.toInt ∧ k6.toInt ≤ 255) (r7 : 0 ≤ k7.toInt ∧ k7.toInt ≤ 255) (r8 : 0 ≤ k8.toInt ∧ k8.toInt ≤ 255) (S_c : Sta Z Z.heap "java/lang/String" "COMPACT_STRINGS" "Z" (.int z)) (hz : ¬ (z = (0 : Int32))) (O : Old Z n0 h0) (hh : Jvm.Lit.constHeld Z "java/lang/String" 7) (hcw : Jvm.Lit.compactW.before a0 Z = true) (hPv : OLit Z h0 s.vm) :
    OFinE p e below (OEnd s room_1.cells room_1.slots (fun v vm h L => v = some (.int (1 : Int32)) ∧ Fr n0 L)) (T0.setTop (mkF m 44 #[.val (.int p1), .val (.int p2), .val (.int p3), .val (.int p4), .val (.int np), .val (.int k5), .val (.int k6), .val (.int k7), .val (.int k8), .unset, .unset, .unset, .unset] [])) := by
  have hC0 := hC
  obtain ⟨hx, hZ, hby, hml, hown, hret, hlk, hnm⟩ := hC
  subst hcs hss
  refine own_stE (fun _ kS => XS.iload X0.here hx rfl (hb hby at_44) rfl kS) ?_
  show OFinE p e below _ (T0.setTop (mkF m 46 #[.val (.int p1), .val (.int p2), .val (.int p3), .val (.int p4), .val (.int np), .val (.int k5), .val (.int k6), .val (.int k7), .val (.int k8), .unset, .unset, .unset, .unset] [(.int k5)]))
  by_cases c1 : k5 = (0 : Int32)
  · refine own_stE (fun _ kS => XS.ifNo X0.here hx rfl (hb hby at_46) rfl ((if0 _ _).trans (teq c1).2) kS) ?_
    show OFinE p e below _ (T0.setTop (mkF m 49 #[.val (.int p1), .val (.int p2), .val (.int p3), .val (.int p4), .val (.int np), .val (.int k5), .val (.int k6), .val (.int k7), .val (.int k8), .unset, .unset, .unset, .unset] []))
    have kp0 := Keep.refl h0 []
    obtain ⟨T94, h94, X94, e94, E94, A94, D94, -, st94⟩ := newO X0 hx hZ hown (own_w hw 0 rfl) (own_w hw 1 rfl) (own_w hw 2 rfl) e0 (g := (mkF m 49 #[.val (.int p1), .val (.int p2), .val (.int p3), .val (.int p4), .val (.int np), .val (.int k5), .val (.int k6), .val (.int k7), .val (.int k8), .unset, .unset, .unset, .unset] [])) rfl (hb hby at_49) (by decide) (by decide)
    obtain ⟨x, g94⟩ : ∃ z, z = h0.size := ⟨_, rfl⟩
    rw [← g94] at A94 D94 st94
    have g_x : n0 ≤ x := Nat.le_trans Z0 (Nat.le_of_eq g94.symm)
    have od94 := O.ext E94
    have f95 : Fld Z h94 x "java/lang/String" "value" "[B" .null := D94 (Or.inr (own_w hw 16 rfl)) (ty := (.array .byte)) (by decide)
    have f96 : Fld Z h94 x "java/lang/String" "coder" "B" (.int (0 : Int32)) := D94 (Or.inr (own_w hw 17 rfl)) (ty := .byte) (by decide)
    have sz94 : n0 ≤ h94.size := Nat.le_trans Z0 E94.1
    have kp94 := kp0.ext E94
    have kz_x := Nat.le_trans kp0.1 (Nat.le_of_eq g94.symm)
    clear kp0
    refine own_stE (st94) ?_
    clear st94 X0 e0 E94 D94 g94
    show OFinE p e below _ (T94.setTop (mkF m 52 #[.val (.int p1), .val (.int p2), .val (.int p3), .val (.int p4), .val (.int np), .val (.int k5), .val (.int k6), .val (.int k7), .val (.int k8), .unset, .unset, .unset, .unset] [(.ref x)]))
    refine own_stE (fun _ kS => XS.dup X94.here hx rfl (hb hby at_52) rfl rfl kS) ?_
    show OFinE p e below _ (T94.setTop (mkF m 53 #[.val (.int p1), .val (.int p2), .val (.int p3), .val (.int p4), .val (.int np), .val (.int k5), .val (.int k6), .val (.int k7), .val (.int k8), .unset, .unset, .unset, .unset] [(.ref x), (.ref x)]))
    refine own_stE (fun _ kS => XS.iconst X94.here hx rfl (hb hby at_53) kS) ?_
    show OFinE p e below _ (T94.setTop (mkF m 54 #[.val (.int p1), .val (.int p2), .val (.int p3), .val (.int p4), .val (.int np), .val (.int k5), .val (.int k6), .val (.int k7), .val (.int k8), .unset, .unset, .unset, .unset] [(.int (0 : Int32)), (.ref x), (.ref x)]))
    obtain ⟨T97, h97, k97, X97, e97, E97, A97, st97⟩ := newP X94 hx hZ (own_w hw 3 rfl) e94 (g := (mkF m 54 #[.val (.int p1), .val (.int p2), .val (.int p3), .val (.int p4), .val (.int np), .val (.int k5), .val (.int k6), .val (.int k7), .val (.int k8), .unset, .unset, .unset, .unset] [(.int (0 : Int32)), (.ref x), (.ref x)])) rfl (hb hby at_54) rfl (by decide) (cap := 0) (by decide) (by decide) (by decide) (by decide)
    obtain ⟨b, g97⟩ : ∃ z, z = h94.size := ⟨_, rfl⟩
    rw [← g97] at A97 st97
    have ne_x_b : x ≠ b := Nat.ne_of_lt (Nat.lt_of_lt_of_le A94.lt (Nat.le_of_eq g97.symm))
    have g_b : n0 ≤ b := Nat.le_trans sz94 (Nat.le_of_eq g97.symm)
    have od97 := od94.ext E97
    clear od94
    have f98 := A94.ext E97
    have f99 := f95.ext E97
    clear f95
    have f100 := f96.ext E97
    clear f96
    have f101 : Arv Z h97 b k97 .char (0 : Int32) [] (.int (0 : Int32)) := Arv.new A97 (by decide)
    have sz97 : n0 ≤ h97.size := Nat.le_trans sz94 E97.1
    clear sz94
    have kp97 := kp94.ext E97
    have kz_b := Nat.le_trans kp94.1 (Nat.le_of_eq g97.symm)
    clear kp94
    refine own_stE (st97) ?_
    clear st97 X94 e94 E97 g97
    show OFinE p e below _ (T97.setTop (mkF m 56 #[.val (.int p1), .val (.int p2), .val (.int p3), .val (.int p4), .val (.int np), .val (.int k5), .val (.int k6), .val (.int k7), .val (.int k8), .unset, .unset, .unset, .unset] [(.ref b), (.ref x), (.ref x)]))
    obtain ⟨v102, T102, L102, X102, SS102, hZ, hown, hQ102, st102⟩ := own_initW X97 hx hZ (y := (⟨"java/lang/String", "<init>", "([C)V"⟩ : MethodName)) (rm := ⟨2, 2, 4, 29⟩) (W := 1) (a := x) (argsL := [(.ref b)]) (rest := [(.ref x)]) rfl hown (own_w hw 4 rfl) (own_w hw 5 rfl) (own_w hw 2 rfl) (own_w hw 6 rfl) (rmSC l Z a0 hw x b h97 n0 _ f98 f99 f100 g_x od97 hh hcw f101) (fun vm hW => (OLit.warm hW hPv).keep kp97) e97 (g := (mkF m 56 #[.val (.int p1), .val (.int p2), .val (.int p3), .val (.int p4), .val (.int np), .val (.int k5), .val (.int k6), .val (.int k7), .val (.int k8), .unset, .unset, .unset, .unset] [(.ref b), (.ref x), (.ref x)])) rfl (by rw [hml]; rfl) (lenOf own_pd7 rfl) rfl (by show 2 * 0 + _ ≤ _; exact Nat.le_of_eq rfl) (hb hby at_56) (by decide) (by decide) (by decide) (by decide)
    obtain ⟨rfl, N102, K102, la, lb, lk, -, -⟩ := hQ102
    refine own_stE (st102) ?_
    clear X97 e97
    refine own_narrow SS102 (Q' := (fun v h L => v = some (.int (1 : Int32)) ∧ Fr n0 L ∧ T102.heap.size ≤ h.size)) ?_ (fun v vm h L hW q => ⟨q.2.2, q.1, q.2.1⟩)
    show OFin p e below (s.setVm T102.vm) _ _ _ (T102.setTop (mkF m 59 #[.val (.int p1), .val (.int p2), .val (.int p3), .val (.int p4), .val (.int np), .val (.int k5), .val (.int k6), .val (.int k7), .val (.int k8), .unset, .unset, .unset, .unset] [(.ref x)]))
    have fr102 := Fr.app N0 N102
    have sz102 : n0 ≤ T102.heap.size := Nat.le_trans sz97 K102.1
    refine own_st (fun _ kS => XS.astore X102.here hx rfl (hb hby at_59) rfl rfl (l' := #[.val (.int p1), .val (.int p2), .val (.int p3), .val (.int p4), .val (.int np), .val (.int k5), .val (.int k6), .val (.int k7), .val (.int k8), .val (.ref x), .unset, .unset, .unset]) rfl kS) ?_
    show OFin p e below (s.setVm T102.vm) _ _ _ (T102.setTop (mkF m 61 #[.val (.int p1), .val (.int p2), .val (.int p3), .val (.int p4), .val (.int np), .val (.int k5), .val (.int k6), .val (.int k7), .val (.int k8), .val (.ref x), .unset, .unset, .unset] []))
    refine own_st (fun _ kS => XS.goto X102.here hx rfl (pc0 := 61) (pc' := 138) rfl (hb hby at_61) (by decide) (by decide) kS) ?_
    show OFin p e below (s.setVm T102.vm) _ _ _ (T102.setTop (mkF m 138 #[.val (.int p1), .val (.int p2), .val (.int p3), .val (.int p4), .val (.int np), .val (.int k5), .val (.int k6), .val (.int k7), .val (.int k8), .val (.ref x), .unset, .unset, .unset] []))
    exact own_pT hw ⟨hx, hZ, hby, hml, hown, hret, hlk, hnm⟩ X102 rfl p1 p2 p3 p4 np k5 k6 k7 k8 x n0 sz102 fr102 (by decide) (by decide)
  · refine own_stE (fun _ kS => XS.ifYes X0.here hx rfl (pc0 := 46) (pc' := 64) rfl (hb hby at_46) rfl ((if0 _ _).trans (feq c1).2) (by decide) (by decide) kS) ?_
    show OFinE p e below _ (T0.setTop (mkF m 64 #[.val (.int p1), .val (.int p2), .val (.int p3), .val (.int p4), .val (.int np), .val (.int k5), .val (.int k6), .val (.int k7), .val (.int k8), .unset, .unset, .unset, .unset] []))
    refine own_narrow0 (Q' := fun v h L => v = some (.int (1 : Int32)) ∧ Fr n0 L) ?_ (fun _ _ _ _ _ q => q)
    show OFin p e below s _ _ _ (T0.setTop (mkF m 64 #[.val (.int p1), .val (.int p2), .val (.int p3), .val (.int p4), .val (.int np), .val (.int k5), .val (.int k6), .val (.int k7), .val (.int k8), .unset, .unset, .unset, .unset] []))
    refine own_st (fun _ kS => XS.iload X0.here hx rfl (hb hby at_64) rfl kS) ?_
    show OFin p e below s _ _ _ (T0.setTop (mkF m 66 #[.val (.int p1), .val (.int p2), .val (.int p3), .val (.int p4), .val (.int np), .val (.int k5), .val (.int k6), .val (.int k7), .val (.int k8), .unset, .unset, .unset, .unset] [(.int k5)]))
    refine own_st (fun _ kS => XS.iconst X0.here hx rfl (hb hby at_66) kS) ?_
    show OFin p e below s _ _ _ (T0.setTop (mkF m 67 #[.val (.int p1), .val (.int p2), .val (.int p3), .val (.int p4), .val (.int np), .val (.int k5), .val (.int k6), .val (.int k7), .val (.int k8), .unset, .unset, .unset, .unset] [(.int (1 : Int32)), (.int k5)]))
    by_cases c2 : k5 = (1 : Int32)
    · refine own_st (fun _ kS => XS.icmpNo X0.here hx rfl (hb hby at_67) rfl (teq c2).2 kS) ?_
      show OFin p e below s _ _ _ (T0.setTop (mkF m 70 #[.val (.int p1), .val (.int p2), .val (.int p3), .val (.int p4), .val (.int np), .val (.int k5), .val (.int k6), .val (.int k7), .val (.int k8), .unset, .unset, .unset, .unset] []))
      refine own_st (fun _ kS => XS.iload X0.here hx rfl (hb hby at_70) rfl kS) ?_
      show OFin p e below s _ _ _ (T0.setTop (mkF m 72 #[.val (.int p1), .val (.int p2), .val (.int p3), .val (.int p4), .val (.int np), .val (.int k5), .val (.int k6), .val (.int k7), .val (.int k8), .unset, .unset, .unset, .unset] [(.int k6)]))
      have kp0 := Keep.refl h0 []
      obtain ⟨v103, T103, L103, X103, hQ103, st103⟩ := own_static X0 hx hZ (y := (⟨"java/lang/String", "valueOf", "(C)Ljava/lang/String;"⟩ : MethodName)) (rm := ⟨2, 2, 5, 27⟩) (W := 0) (argsL := [(.int k6)]) (rest := []) hown (own_w hw 54 rfl) (own_w hw 55 rfl) (own_w hw 2 rfl) (own_w hw 56 rfl) (rmVO l Z a0 hw _ h0 n0 Z0 z (own_nq r6) S_c hz O) e0 (g := (mkF m 72 #[.val (.int p1), .val (.int p2), .val (.int p3), .val (.int p4), .val (.int np), .val (.int k5), .val (.int k6), .val (.int k7), .val (.int k8), .unset, .unset, .unset, .unset] [(.int k6)])) rfl (by rw [hml]; rfl) (lenOf own_pd8 rfl) rfl (by show 2 * 0 + _ ≤ _; exact Nat.le_of_eq rfl) (hb hby at_72) (by decide) (by decide) (by decide) (by decide)
      obtain ⟨t, rfl, N103, K103⟩ := hQ103
      have fr103 := Fr.app N0 N103
      have kp103 := kp0.trans K103 all0
      have od103 := O.keep K103 all0
      have sz103 : n0 ≤ T103.heap.size := Nat.le_trans Z0 K103.1
      refine own_st (st103) ?_
      clear st103 X0 e0
      show OFin p e below s _ _ _ (T103.setTop (mkF m 75 #[.val (.int p1), .val (.int p2), .val (.int p3), .val (.int p4), .val (.int np), .val (.int k5), .val (.int k6), .val (.int k7), .val (.int k8), .unset, .unset, .unset, .unset] [(.ref t)]))
      refine own_st (fun _ kS => XS.astore X103.here hx rfl (hb hby at_75) rfl rfl (l' := #[.val (.int p1), .val (.int p2), .val (.int p3), .val (.int p4), .val (.int np), .val (.int k5), .val (.int k6), .val (.int k7), .val (.int k8), .val (.ref t), .unset, .unset, .unset]) rfl kS) ?_
      show OFin p e below s _ _ _ (T103.setTop (mkF m 77 #[.val (.int p1), .val (.int p2), .val (.int p3), .val (.int p4), .val (.int np), .val (.int k5), .val (.int k6), .val (.int k7), .val (.int k8), .val (.ref t), .unset, .unset, .unset] []))
      refine own_st (fun _ kS => XS.goto X103.here hx rfl (pc0 := 77) (pc' := 138) rfl (hb hby at_77) (by decide) (by decide) kS) ?_
      show OFin p e below s _ _ _ (T103.setTop (mkF m 138 #[.val (.int p1), .val (.int p2), .val (.int p3), .val (.int p4), .val (.int np), .val (.int k5), .val (.int k6), .val (.int k7), .val (.int k8), .val (.ref t), .unset, .unset, .unset] []))
      exact own_mono (own_pT hw ⟨hx, hZ, hby, hml, hown, hret, hlk, hnm⟩ X103 rfl p1 p2 p3 p4 np k5 k6 k7 k8 t n0 sz103 fr103 (by decide) (by decide)) (fun _ _ _ q => ⟨q.1, q.2.1⟩)
    · refine own_st (fun _ kS => XS.icmpYes X0.here hx rfl (pc0 := 67) (pc' := 80) rfl (hb hby at_67) rfl (feq c2).2 (by decide) (by decide) kS) ?_
      show OFin p e below s _ _ _ (T0.setTop (mkF m 80 #[.val (.int p1), .val (.int p2), .val (.int p3), .val (.int p4), .val (.int np), .val (.int k5), .val (.int k6), .val (.int k7), .val (.int k8), .unset, .unset, .unset, .unset] []))
      refine own_st (fun _ kS => XS.iload X0.here hx rfl (hb hby at_80) rfl kS) ?_
      show OFin p e below s _ _ _ (T0.setTop (mkF m 82 #[.val (.int p1), .val (.int p2), .val (.int p3), .val (.int p4), .val (.int np), .val (.int k5), .val (.int k6), .val (.int k7), .val (.int k8), .unset, .unset, .unset, .unset] [(.int k5)]))
      refine own_st (fun _ kS => XS.iconst X0.here hx rfl (hb hby at_82) kS) ?_
      show OFin p e below s _ _ _ (T0.setTop (mkF m 83 #[.val (.int p1), .val (.int p2), .val (.int p3), .val (.int p4), .val (.int np), .val (.int k5), .val (.int k6), .val (.int k7), .val (.int k8), .unset, .unset, .unset, .unset] [(.int (2 : Int32)), (.int k5)]))
      by_cases c3 : k5 = (2 : Int32)
      · refine own_st (fun _ kS => XS.icmpNo X0.here hx rfl (hb hby at_83) rfl (teq c3).2 kS) ?_
        show OFin p e below s _ _ _ (T0.setTop (mkF m 86 #[.val (.int p1), .val (.int p2), .val (.int p3), .val (.int p4), .val (.int np), .val (.int k5), .val (.int k6), .val (.int k7), .val (.int k8), .unset, .unset, .unset, .unset] []))
        obtain ⟨T104, h104, X104, e104, E104, A104, D104, -, st104⟩ := newO X0 hx hZ hown (own_w hw 0 rfl) (own_w hw 1 rfl) (own_w hw 2 rfl) e0 (g := (mkF m 86 #[.val (.int p1), .val (.int p2), .val (.int p3), .val (.int p4), .val (.int np), .val (.int k5), .val (.int k6), .val (.int k7), .val (.int k8), .unset, .unset, .unset, .unset] [])) rfl (hb hby at_86) (by decide) (by decide)
        obtain ⟨sx, g104⟩ : ∃ z, z = h0.size := ⟨_, rfl⟩
        rw [← g104] at A104 D104 st104
        have g_sx : n0 ≤ sx := Nat.le_trans Z0 (Nat.le_of_eq g104.symm)
        have od104 := O.ext E104
        have f105 : Fld Z h104 sx "java/lang/String" "value" "[B" .null := D104 (Or.inr (own_w hw 16 rfl)) (ty := (.array .byte)) (by decide)
        have f106 : Fld Z h104 sx "java/lang/String" "coder" "B" (.int (0 : Int32)) := D104 (Or.inr (own_w hw 17 rfl)) (ty := .byte) (by decide)
        have sz104 : n0 ≤ h104.size := Nat.le_trans Z0 E104.1
        refine own_st (st104) ?_
        clear st104 X0 e0 E104 D104 g104
        show OFin p e below s _ _ _ (T104.setTop (mkF m 89 #[.val (.int p1), .val (.int p2), .val (.int p3), .val (.int p4), .val (.int np), .val (.int k5), .val (.int k6), .val (.int k7), .val (.int k8), .unset, .unset, .unset, .unset] [(.ref sx)]))
        refine own_st (fun _ kS => XS.dup X104.here hx rfl (hb hby at_89) rfl rfl kS) ?_
        show OFin p e below s _ _ _ (T104.setTop (mkF m 90 #[.val (.int p1), .val (.int p2), .val (.int p3), .val (.int p4), .val (.int np), .val (.int k5), .val (.int k6), .val (.int k7), .val (.int k8), .unset, .unset, .unset, .unset] [(.ref sx), (.ref sx)]))
        refine own_st (fun _ kS => XS.iconst X104.here hx rfl (hb hby at_90) kS) ?_
        show OFin p e below s _ _ _ (T104.setTop (mkF m 91 #[.val (.int p1), .val (.int p2), .val (.int p3), .val (.int p4), .val (.int np), .val (.int k5), .val (.int k6), .val (.int k7), .val (.int k8), .unset, .unset, .unset, .unset] [(.int (2 : Int32)), (.ref sx), (.ref sx)]))
        obtain ⟨T107, h107, k107, X107, e107, E107, A107, st107⟩ := newP X104 hx hZ (own_w hw 3 rfl) e104 (g := (mkF m 91 #[.val (.int p1), .val (.int p2), .val (.int p3), .val (.int p4), .val (.int np), .val (.int k5), .val (.int k6), .val (.int k7), .val (.int k8), .unset, .unset, .unset, .unset] [(.int (2 : Int32)), (.ref sx), (.ref sx)])) rfl (hb hby at_91) rfl (by decide) (cap := 2) (by decide) (by decide) (by decide) (by decide)
        obtain ⟨cc, g107⟩ : ∃ z, z = h104.size := ⟨_, rfl⟩
        rw [← g107] at A107 st107
        have ne_sx_cc : sx ≠ cc := Nat.ne_of_lt (Nat.lt_of_lt_of_le A104.lt (Nat.le_of_eq g107.symm))
        have g_cc : n0 ≤ cc := Nat.le_trans sz104 (Nat.le_of_eq g107.symm)
        have od107 := od104.ext E107
        clear od104
        have f108 := A104.ext E107
        have f109 := f105.ext E107
        clear f105
        have f110 := f106.ext E107
        clear f106
        have f111 : Arv Z h107 cc k107 .char (2 : Int32) [(.int (0 : Int32)), (.int (0 : Int32))] (.int (0 : Int32)) := (Arv.new A107 (by decide)).pad (pad_rep [] (.int (0 : Int32)) 2)
        have sz107 : n0 ≤ h107.size := Nat.le_trans sz104 E107.1
        clear sz104
        refine own_st (st107) ?_
        clear st107 X104 e104 E107 g107
        show OFin p e below s _ _ _ (T107.setTop (mkF m 93 #[.val (.int p1), .val (.int p2), .val (.int p3), .val (.int p4), .val (.int np), .val (.int k5), .val (.int k6), .val (.int k7), .val (.int k8), .unset, .unset, .unset, .unset] [(.ref cc), (.ref sx), (.ref sx)]))
        refine own_st (fun _ kS => XS.dup X107.here hx rfl (hb hby at_93) rfl rfl kS) ?_
        show OFin p e below s _ _ _ (T107.setTop (mkF m 94 #[.val (.int p1), .val (.int p2), .val (.int p3), .val (.int p4), .val (.int np), .val (.int k5), .val (.int k6), .val (.int k7), .val (.int k8), .unset, .unset, .unset, .unset] [(.ref cc), (.ref cc), (.ref sx), (.ref sx)]))
        refine own_st (fun _ kS => XS.iconst X107.here hx rfl (hb hby at_94) kS) ?_
        show OFin p e below s _ _ _ (T107.setTop (mkF m 95 #[.val (.int p1), .val (.int p2), .val (.int p3), .val (.int p4), .val (.int np), .val (.int k5), .val (.int k6), .val (.int k7), .val (.int k8), .unset, .unset, .unset, .unset] [(.int (0 : Int32)), (.ref cc), (.ref cc), (.ref sx), (.ref sx)]))
        refine own_st (fun _ kS => XS.iload X107.here hx rfl (hb hby at_95) rfl kS) ?_
        show OFin p e below s _ _ _ (T107.setTop (mkF m 97 #[.val (.int p1), .val (.int p2), .val (.int p3), .val (.int p4), .val (.int np), .val (.int k5), .val (.int k6), .val (.int k7), .val (.int k8), .unset, .unset, .unset, .unset] [(.int k6), (.int (0 : Int32)), (.ref cc), (.ref cc), (.ref sx), (.ref sx)]))
        obtain ⟨cl112, Ar112, q112, S112, N112, H112, G112⟩ := id f111
        have hin112 : ¬ ((0 : Int32) < 0 ∨ cl112.slots.size ≤ ((0 : Int32)).toNatClampNeg) := inb_of S112 ⟨by decide, by decide⟩
        obtain ⟨T112, h112, X112, e112, W112, st112⟩ := stC X107 hx hZ e107 Ar112 (j := (0 : Int32)) hin112 (g := (mkF m 97 #[.val (.int p1), .val (.int p2), .val (.int p3), .val (.int p4), .val (.int np), .val (.int k5), .val (.int k6), .val (.int k7), .val (.int k8), .unset, .unset, .unset, .unset] [(.int k6), (.int (0 : Int32)), (.ref cc), (.ref cc), (.ref sx), (.ref sx)])) rfl rfl (hb hby at_97)
        have f113 := Arv.set Ar112 q112 S112 N112 H112 G112 (fits_nar_char _) W112 0 rfl (Nat.le_of_ble_eq_true rfl)
        have od112 := od107.wr W112 g_cc
        clear od107
        have f114 := f108.wr W112
        clear f108
        have f115 := f109.other W112 (Or.inl ne_sx_cc)
        clear f109
        have f116 := f110.other W112 (Or.inl ne_sx_cc)
        clear f110
        have sz112 : n0 ≤ h112.size := by rw [W112.size]; exact sz107
        clear sz107
        have fr112 := Fr.snoc X112 N0 g_cc
        clear N0
        refine own_st (st112) ?_
        clear st112 X107 e107 W112 Ar112 q112 S112 N112 H112 G112 hin112 f111
        show OFin p e below s _ _ _ (T112.setTop (mkF m 98 #[.val (.int p1), .val (.int p2), .val (.int p3), .val (.int p4), .val (.int np), .val (.int k5), .val (.int k6), .val (.int k7), .val (.int k8), .unset, .unset, .unset, .unset] [(.ref cc), (.ref sx), (.ref sx)]))
        refine own_st (fun _ kS => XS.dup X112.here hx rfl (hb hby at_98) rfl rfl kS) ?_
        show OFin p e below s _ _ _ (T112.setTop (mkF m 99 #[.val (.int p1), .val (.int p2), .val (.int p3), .val (.int p4), .val (.int np), .val (.int k5), .val (.int k6), .val (.int k7), .val (.int k8), .unset, .unset, .unset, .unset] [(.ref cc), (.ref cc), (.ref sx), (.ref sx)]))
        refine own_st (fun _ kS => XS.iconst X112.here hx rfl (hb hby at_99) kS) ?_
        show OFin p e below s _ _ _ (T112.setTop (mkF m 100 #[.val (.int p1), .val (.int p2), .val (.int p3), .val (.int p4), .val (.int np), .val (.int k5), .val (.int k6), .val (.int k7), .val (.int k8), .unset, .unset, .unset, .unset] [(.int (1 : Int32)), (.ref cc), (.ref cc), (.ref sx), (.ref sx)]))
        refine own_st (fun _ kS => XS.iload X112.here hx rfl (hb hby at_100) rfl kS) ?_
        show OFin p e below s _ _ _ (T112.setTop (mkF m 102 #[.val (.int p1), .val (.int p2), .val (.int p3), .val (.int p4), .val (.int np), .val (.int k5), .val (.int k6), .val (.int k7), .val (.int k8), .unset, .unset, .unset, .unset] [(.int k7), (.int (1 : Int32)), (.ref cc), (.ref cc), (.ref sx), (.ref sx)]))
        obtain ⟨cl118, Ar118, q118, S118, N118, H118, G118⟩ := id f113
        have hin118 : ¬ ((1 : Int32) < 0 ∨ cl118.slots.size ≤ ((1 : Int32)).toNatClampNeg) := inb_of S118 ⟨by decide, by decide⟩
        obtain ⟨T118, h118, X118, e118, W118, st118⟩ := stC X112 hx hZ e112 Ar118 (j := (1 : Int32)) hin118 (g := (mkF m 102 #[.val (.int p1), .val (.int p2), .val (.int p3), .val (.int p4), .val (.int np), .val (.int k5), .val (.int k6), .val (.int k7), .val (.int k8), .unset, .unset, .unset, .unset] [(.int k7), (.int (1 : Int32)), (.ref cc), (.ref cc), (.ref sx), (.ref sx)])) rfl rfl (hb hby at_102)
        have f119 := Arv.set Ar118 q118 S118 N118 H118 G118 (fits_nar_char _) W118 1 rfl (Nat.le_of_ble_eq_true rfl)
        have od118 := od112.wr W118 g_cc
        clear od112
        have f120 := f114.wr W118
        clear f114
        have f121 := f115.other W118 (Or.inl ne_sx_cc)
        clear f115
        have f122 := f116.other W118 (Or.inl ne_sx_cc)
        clear f116
        have sz118 : n0 ≤ h118.size := by rw [W118.size]; exact sz112
        clear sz112
        have fr118 := Fr.snoc X118 fr112 g_cc
        clear fr112
        refine own_st (st118) ?_
        clear st118 X112 e112 W118 Ar118 q118 S118 N118 H118 G118 hin118 f113
        show OFin p e below s _ _ _ (T118.setTop (mkF m 103 #[.val (.int p1), .val (.int p2), .val (.int p3), .val (.int p4), .val (.int np), .val (.int k5), .val (.int k6), .val (.int k7), .val (.int k8), .unset, .unset, .unset, .unset] [(.ref cc), (.ref sx), (.ref sx)]))
        have hws : ∀ d ∈ StrChars.Road.words, d.before a0 Z = true := fun d hd => hw d ((by decide +kernel : ∀ d ∈ StrChars.Road.words, d ∈ tables_1) d hd)
        have hp : ∀ c ∈ ([nar .char k6, nar .char k7] : List Int32), ¬ c < 0 ∧ ¬ (255 : Int32) < c := by intro c hc; simp only [List.mem_cons, List.not_mem_nil, or_false] at hc; rcases hc with rfl | rfl; exact own_nc r6; exact own_nc r7
        obtain ⟨v124, T124, L124, X124, hQ124, st124⟩ := own_initB (StrChars.Road.QV Z sx (2 : Int32) (([nar .char k6, nar .char k7] : List Int32).map (fun c => c.toInt8.toInt32)) h118 n0) 1 2 X118 hx hZ (y := (⟨"java/lang/String", "<init>", "([C)V"⟩ : MethodName)) (W := 1) (a := sx) (argsL := [(.ref cc)]) (rest := [(.ref sx)]) rfl hown (own_w hw 4 rfl) (own_w hw 5 rfl) (own_w hw 6 rfl) (StrChars.Road.backV (R := room_1) (W := 1) hZ hws (kI := 4) (own_w hw 1 rfl) (cs := [nar .char k6, nar .char k7]) (bs := ([nar .char k6, nar .char k7] : List Int32).map (fun c => c.toInt8.toInt32)) (n := 2) (n0 := n0) g_sx sz118 f120 f121 f122 f119 (Sta.ext od118.2 S_c) hz rfl rfl (by decide) (by decide) hp rfl (by decide) (by decide)) e118 (g := (mkF m 103 #[.val (.int p1), .val (.int p2), .val (.int p3), .val (.int p4), .val (.int np), .val (.int k5), .val (.int k6), .val (.int k7), .val (.int k8), .unset, .unset, .unset, .unset] [(.ref cc), (.ref sx), (.ref sx)])) rfl (by rw [hml]; rfl) (lenOf own_pd7 rfl) rfl (by show 2 * 0 + _ ≤ _; exact Nat.le_of_eq rfl) (hb hby at_103) (by decide) (by decide)
        obtain ⟨rfl, N124, K124, -⟩ := hQ124
        have fr124 := Fr.app fr118 N124
        have sz124 : n0 ≤ T124.heap.size := Nat.le_trans sz118 K124.1
        refine own_st (st124) ?_
        clear st124 X118 e118
        show OFin p e below s _ _ _ (T124.setTop (mkF m 106 #[.val (.int p1), .val (.int p2), .val (.int p3), .val (.int p4), .val (.int np), .val (.int k5), .val (.int k6), .val (.int k7), .val (.int k8), .unset, .unset, .unset, .unset] [(.ref sx)]))
        refine own_st (fun _ kS => XS.astore X124.here hx rfl (hb hby at_106) rfl rfl (l' := #[.val (.int p1), .val (.int p2), .val (.int p3), .val (.int p4), .val (.int np), .val (.int k5), .val (.int k6), .val (.int k7), .val (.int k8), .val (.ref sx), .unset, .unset, .unset]) rfl kS) ?_
        show OFin p e below s _ _ _ (T124.setTop (mkF m 108 #[.val (.int p1), .val (.int p2), .val (.int p3), .val (.int p4), .val (.int np), .val (.int k5), .val (.int k6), .val (.int k7), .val (.int k8), .val (.ref sx), .unset, .unset, .unset] []))
        refine own_st (fun _ kS => XS.goto X124.here hx rfl (pc0 := 108) (pc' := 138) rfl (hb hby at_108) (by decide) (by decide) kS) ?_
        show OFin p e below s _ _ _ (T124.setTop (mkF m 138 #[.val (.int p1), .val (.int p2), .val (.int p3), .val (.int p4), .val (.int np), .val (.int k5), .val (.int k6), .val (.int k7), .val (.int k8), .val (.ref sx), .unset, .unset, .unset] []))
        exact own_mono (own_pT hw ⟨hx, hZ, hby, hml, hown, hret, hlk, hnm⟩ X124 rfl p1 p2 p3 p4 np k5 k6 k7 k8 sx n0 sz124 fr124 (by decide) (by decide)) (fun _ _ _ q => ⟨q.1, q.2.1⟩)
      · refine own_st (fun _ kS => XS.icmpYes X0.here hx rfl (pc0 := 83) (pc' := 111) rfl (hb hby at_83) rfl (feq c3).2 (by decide) (by decide) kS) ?_
        show OFin p e below s _ _ _ (T0.setTop (mkF m 111 #[.val (.int p1), .val (.int p2), .val (.int p3), .val (.int p4), .val (.int np), .val (.int k5), .val (.int k6), .val (.int k7), .val (.int k8), .unset, .unset, .unset, .unset] []))
        obtain ⟨T125, h125, X125, e125, E125, A125, D125, -, st125⟩ := newO X0 hx hZ hown (own_w hw 0 rfl) (own_w hw 1 rfl) (own_w hw 2 rfl) e0 (g := (mkF m 111 #[.val (.int p1), .val (.int p2), .val (.int p3), .val (.int p4), .val (.int np), .val (.int k5), .val (.int k6), .val (.int k7), .val (.int k8), .unset, .unset, .unset, .unset] [])) rfl (hb hby at_111) (by decide) (by decide)
        obtain ⟨sx, g125⟩ : ∃ z, z = h0.size := ⟨_, rfl⟩
        rw [← g125] at A125 D125 st125
        have g_sx : n0 ≤ sx := Nat.le_trans Z0 (Nat.le_of_eq g125.symm)
        have od125 := O.ext E125
        have f126 : Fld Z h125 sx "java/lang/String" "value" "[B" .null := D125 (Or.inr (own_w hw 16 rfl)) (ty := (.array .byte)) (by decide)
        have f127 : Fld Z h125 sx "java/lang/String" "coder" "B" (.int (0 : Int32)) := D125 (Or.inr (own_w hw 17 rfl)) (ty := .byte) (by decide)
        have sz125 : n0 ≤ h125.size := Nat.le_trans Z0 E125.1
        refine own_st (st125) ?_
        clear st125 X0 e0 E125 D125 g125
        show OFin p e below s _ _ _ (T125.setTop (mkF m 114 #[.val (.int p1), .val (.int p2), .val (.int p3), .val (.int p4), .val (.int np), .val (.int k5), .val (.int k6), .val (.int k7), .val (.int k8), .unset, .unset, .unset, .unset] [(.ref sx)]))
        refine own_st (fun _ kS => XS.dup X125.here hx rfl (hb hby at_114) rfl rfl kS) ?_
        show OFin p e below s _ _ _ (T125.setTop (mkF m 115 #[.val (.int p1), .val (.int p2), .val (.int p3), .val (.int p4), .val (.int np), .val (.int k5), .val (.int k6), .val (.int k7), .val (.int k8), .unset, .unset, .unset, .unset] [(.ref sx), (.ref sx)]))
        refine own_st (fun _ kS => XS.iconst X125.here hx rfl (hb hby at_115) kS) ?_
        show OFin p e below s _ _ _ (T125.setTop (mkF m 116 #[.val (.int p1), .val (.int p2), .val (.int p3), .val (.int p4), .val (.int np), .val (.int k5), .val (.int k6), .val (.int k7), .val (.int k8), .unset, .unset, .unset, .unset] [(.int (3 : Int32)), (.ref sx), (.ref sx)]))
        obtain ⟨T128, h128, k128, X128, e128, E128, A128, st128⟩ := newP X125 hx hZ (own_w hw 3 rfl) e125 (g := (mkF m 116 #[.val (.int p1), .val (.int p2), .val (.int p3), .val (.int p4), .val (.int np), .val (.int k5), .val (.int k6), .val (.int k7), .val (.int k8), .unset, .unset, .unset, .unset] [(.int (3 : Int32)), (.ref sx), (.ref sx)])) rfl (hb hby at_116) rfl (by decide) (cap := 3) (by decide) (by decide) (by decide) (by decide)
        obtain ⟨cc, g128⟩ : ∃ z, z = h125.size := ⟨_, rfl⟩
        rw [← g128] at A128 st128
        have ne_sx_cc : sx ≠ cc := Nat.ne_of_lt (Nat.lt_of_lt_of_le A125.lt (Nat.le_of_eq g128.symm))
        have g_cc : n0 ≤ cc := Nat.le_trans sz125 (Nat.le_of_eq g128.symm)
        have od128 := od125.ext E128
        clear od125
        have f129 := A125.ext E128
        have f130 := f126.ext E128
        clear f126
        have f131 := f127.ext E128
        clear f127
        have f132 : Arv Z h128 cc k128 .char (3 : Int32) [(.int (0 : Int32)), (.int (0 : Int32)), (.int (0 : Int32))] (.int (0 : Int32)) := (Arv.new A128 (by decide)).pad (pad_rep [] (.int (0 : Int32)) 3)
        have sz128 : n0 ≤ h128.size := Nat.le_trans sz125 E128.1
        clear sz125
        refine own_st (st128) ?_
        clear st128 X125 e125 E128 g128
        show OFin p e below s _ _ _ (T128.setTop (mkF m 118 #[.val (.int p1), .val (.int p2), .val (.int p3), .val (.int p4), .val (.int np), .val (.int k5), .val (.int k6), .val (.int k7), .val (.int k8), .unset, .unset, .unset, .unset] [(.ref cc), (.ref sx), (.ref sx)]))
        refine own_st (fun _ kS => XS.dup X128.here hx rfl (hb hby at_118) rfl rfl kS) ?_
        show OFin p e below s _ _ _ (T128.setTop (mkF m 119 #[.val (.int p1), .val (.int p2), .val (.int p3), .val (.int p4), .val (.int np), .val (.int k5), .val (.int k6), .val (.int k7), .val (.int k8), .unset, .unset, .unset, .unset] [(.ref cc), (.ref cc), (.ref sx), (.ref sx)]))
        refine own_st (fun _ kS => XS.iconst X128.here hx rfl (hb hby at_119) kS) ?_
        show OFin p e below s _ _ _ (T128.setTop (mkF m 120 #[.val (.int p1), .val (.int p2), .val (.int p3), .val (.int p4), .val (.int np), .val (.int k5), .val (.int k6), .val (.int k7), .val (.int k8), .unset, .unset, .unset, .unset] [(.int (0 : Int32)), (.ref cc), (.ref cc), (.ref sx), (.ref sx)]))
        refine own_st (fun _ kS => XS.iload X128.here hx rfl (hb hby at_120) rfl kS) ?_
        show OFin p e below s _ _ _ (T128.setTop (mkF m 122 #[.val (.int p1), .val (.int p2), .val (.int p3), .val (.int p4), .val (.int np), .val (.int k5), .val (.int k6), .val (.int k7), .val (.int k8), .unset, .unset, .unset, .unset] [(.int k6), (.int (0 : Int32)), (.ref cc), (.ref cc), (.ref sx), (.ref sx)]))
        obtain ⟨cl133, Ar133, q133, S133, N133, H133, G133⟩ := id f132
        have hin133 : ¬ ((0 : Int32) < 0 ∨ cl133.slots.size ≤ ((0 : Int32)).toNatClampNeg) := inb_of S133 ⟨by decide, by decide⟩
        obtain ⟨T133, h133, X133, e133, W133, st133⟩ := stC X128 hx hZ e128 Ar133 (j := (0 : Int32)) hin133 (g := (mkF m 122 #[.val (.int p1), .val (.int p2), .val (.int p3), .val (.int p4), .val (.int np), .val (.int k5), .val (.int k6), .val (.int k7), .val (.int k8), .unset, .unset, .unset, .unset] [(.int k6), (.int (0 : Int32)), (.ref cc), (.ref cc), (.ref sx), (.ref sx)])) rfl rfl (hb hby at_122)
        have f134 := Arv.set Ar133 q133 S133 N133 H133 G133 (fits_nar_char _) W133 0 rfl (Nat.le_of_ble_eq_true rfl)
        have od133 := od128.wr W133 g_cc
        clear od128
        have f135 := f129.wr W133
        clear f129
        have f136 := f130.other W133 (Or.inl ne_sx_cc)
        clear f130
        have f137 := f131.other W133 (Or.inl ne_sx_cc)
        clear f131
        have sz133 : n0 ≤ h133.size := by rw [W133.size]; exact sz128
        clear sz128
        have fr133 := Fr.snoc X133 N0 g_cc
        clear N0
        refine own_st (st133) ?_
        clear st133 X128 e128 W133 Ar133 q133 S133 N133 H133 G133 hin133 f132
        show OFin p e below s _ _ _ (T133.setTop (mkF m 123 #[.val (.int p1), .val (.int p2), .val (.int p3), .val (.int p4), .val (.int np), .val (.int k5), .val (.int k6), .val (.int k7), .val (.int k8), .unset, .unset, .unset, .unset] [(.ref cc), (.ref sx), (.ref sx)]))
        refine own_st (fun _ kS => XS.dup X133.here hx rfl (hb hby at_123) rfl rfl kS) ?_
        show OFin p e below s _ _ _ (T133.setTop (mkF m 124 #[.val (.int p1), .val (.int p2), .val (.int p3), .val (.int p4), .val (.int np), .val (.int k5), .val (.int k6), .val (.int k7), .val (.int k8), .unset, .unset, .unset, .unset] [(.ref cc), (.ref cc), (.ref sx), (.ref sx)]))
        refine own_st (fun _ kS => XS.iconst X133.here hx rfl (hb hby at_124) kS) ?_
        show OFin p e below s _ _ _ (T133.setTop (mkF m 125 #[.val (.int p1), .val (.int p2), .val (.int p3), .val (.int p4), .val (.int np), .val (.int k5), .val (.int k6), .val (.int k7), .val (.int k8), .unset, .unset, .unset, .unset] [(.int (1 : Int32)), (.ref cc), (.ref cc), (.ref sx), (.ref sx)]))
        refine own_st (fun _ kS => XS.iload X133.here hx rfl (hb hby at_125) rfl kS) ?_
        show OFin p e below s _ _ _ (T133.setTop (mkF m 127 #[.val (.int p1), .val (.int p2), .val (.int p3), .val (.int p4), .val (.int np), .val (.int k5), .val (.int k6), .val (.int k7), .val (.int k8), .unset, .unset, .unset, .unset] [(.int k7), (.int (1 : Int32)), (.ref cc), (.ref cc), (.ref sx), (.ref sx)]))
        obtain ⟨cl139, Ar139, q139, S139, N139, H139, G139⟩ := id f134
        have hin139 : ¬ ((1 : Int32) < 0 ∨ cl139.slots.size ≤ ((1 : Int32)).toNatClampNeg) := inb_of S139 ⟨by decide, by decide⟩
        obtain ⟨T139, h139, X139, e139, W139, st139⟩ := stC X133 hx hZ e133 Ar139 (j := (1 : Int32)) hin139 (g := (mkF m 127 #[.val (.int p1), .val (.int p2), .val (.int p3), .val (.int p4), .val (.int np), .val (.int k5), .val (.int k6), .val (.int k7), .val (.int k8), .unset, .unset, .unset, .unset] [(.int k7), (.int (1 : Int32)), (.ref cc), (.ref cc), (.ref sx), (.ref sx)])) rfl rfl (hb hby at_127)
        have f140 := Arv.set Ar139 q139 S139 N139 H139 G139 (fits_nar_char _) W139 1 rfl (Nat.le_of_ble_eq_true rfl)
        have od139 := od133.wr W139 g_cc
        clear od133
        have f141 := f135.wr W139
        clear f135
        have f142 := f136.other W139 (Or.inl ne_sx_cc)
        clear f136
        have f143 := f137.other W139 (Or.inl ne_sx_cc)
        clear f137
        have sz139 : n0 ≤ h139.size := by rw [W139.size]; exact sz133
        clear sz133
        have fr139 := Fr.snoc X139 fr133 g_cc
        clear fr133
        refine own_st (st139) ?_
        clear st139 X133 e133 W139 Ar139 q139 S139 N139 H139 G139 hin139 f134
        show OFin p e below s _ _ _ (T139.setTop (mkF m 128 #[.val (.int p1), .val (.int p2), .val (.int p3), .val (.int p4), .val (.int np), .val (.int k5), .val (.int k6), .val (.int k7), .val (.int k8), .unset, .unset, .unset, .unset] [(.ref cc), (.ref sx), (.ref sx)]))
        refine own_st (fun _ kS => XS.dup X139.here hx rfl (hb hby at_128) rfl rfl kS) ?_
        show OFin p e below s _ _ _ (T139.setTop (mkF m 129 #[.val (.int p1), .val (.int p2), .val (.int p3), .val (.int p4), .val (.int np), .val (.int k5), .val (.int k6), .val (.int k7), .val (.int k8), .unset, .unset, .unset, .unset] [(.ref cc), (.ref cc), (.ref sx), (.ref sx)]))
        refine own_st (fun _ kS => XS.iconst X139.here hx rfl (hb hby at_129) kS) ?_
        show OFin p e below s _ _ _ (T139.setTop (mkF m 130 #[.val (.int p1), .val (.int p2), .val (.int p3), .val (.int p4), .val (.int np), .val (.int k5), .val (.int k6), .val (.int k7), .val (.int k8), .unset, .unset, .unset, .unset] [(.int (2 : Int32)), (.ref cc), (.ref cc), (.ref sx), (.ref sx)]))
        refine own_st (fun _ kS => XS.iload X139.here hx rfl (hb hby at_130) rfl kS) ?_
        show OFin p e below s _ _ _ (T139.setTop (mkF m 132 #[.val (.int p1), .val (.int p2), .val (.int p3), .val (.int p4), .val (.int np), .val (.int k5), .val (.int k6), .val (.int k7), .val (.int k8), .unset, .unset, .unset, .unset] [(.int k8), (.int (2 : Int32)), (.ref cc), (.ref cc), (.ref sx), (.ref sx)]))
        obtain ⟨cl145, Ar145, q145, S145, N145, H145, G145⟩ := id f140
        have hin145 : ¬ ((2 : Int32) < 0 ∨ cl145.slots.size ≤ ((2 : Int32)).toNatClampNeg) := inb_of S145 ⟨by decide, by decide⟩
        obtain ⟨T145, h145, X145, e145, W145, st145⟩ := stC X139 hx hZ e139 Ar145 (j := (2 : Int32)) hin145 (g := (mkF m 132 #[.val (.int p1), .val (.int p2), .val (.int p3), .val (.int p4), .val (.int np), .val (.int k5), .val (.int k6), .val (.int k7), .val (.int k8), .unset, .unset, .unset, .unset] [(.int k8), (.int (2 : Int32)), (.ref cc), (.ref cc), (.ref sx), (.ref sx)])) rfl rfl (hb hby at_132)
        have f146 := Arv.set Ar145 q145 S145 N145 H145 G145 (fits_nar_char _) W145 2 rfl (Nat.le_of_ble_eq_true rfl)
        have od145 := od139.wr W145 g_cc
        clear od139
        have f147 := f141.wr W145
        clear f141
        have f148 := f142.other W145 (Or.inl ne_sx_cc)
        clear f142
        have f149 := f143.other W145 (Or.inl ne_sx_cc)
        clear f143
        have sz145 : n0 ≤ h145.size := by rw [W145.size]; exact sz139
        clear sz139
        have fr145 := Fr.snoc X145 fr139 g_cc
        clear fr139
        refine own_st (st145) ?_
        clear st145 X139 e139 W145 Ar145 q145 S145 N145 H145 G145 hin145 f140
        show OFin p e below s _ _ _ (T145.setTop (mkF m 133 #[.val (.int p1), .val (.int p2), .val (.int p3), .val (.int p4), .val (.int np), .val (.int k5), .val (.int k6), .val (.int k7), .val (.int k8), .unset, .unset, .unset, .unset] [(.ref cc), (.ref sx), (.ref sx)]))
        have hws : ∀ d ∈ StrChars.Road.words, d.before a0 Z = true := fun d hd => hw d ((by decide +kernel : ∀ d ∈ StrChars.Road.words, d ∈ tables_1) d hd)
        have hp : ∀ c ∈ ([nar .char k6, nar .char k7, nar .char k8] : List Int32), ¬ c < 0 ∧ ¬ (255 : Int32) < c := by intro c hc; simp only [List.mem_cons, List.not_mem_nil, or_false] at hc; rcases hc with rfl | rfl | rfl; exact own_nc r6; exact own_nc r7; exact own_nc r8
        obtain ⟨v151, T151, L151, X151, hQ151, st151⟩ := own_initB (StrChars.Road.QV Z sx (3 : Int32) (([nar .char k6, nar .char k7, nar .char k8] : List Int32).map (fun c => c.toInt8.toInt32)) h145 n0) 1 3 X145 hx hZ (y := (⟨"java/lang/String", "<init>", "([C)V"⟩ : MethodName)) (W := 1) (a := sx) (argsL := [(.ref cc)]) (rest := [(.ref sx)]) rfl hown (own_w hw 4 rfl) (own_w hw 5 rfl) (own_w hw 6 rfl) (StrChars.Road.backV (R := room_1) (W := 1) hZ hws (kI := 4) (own_w hw 1 rfl) (cs := [nar .char k6, nar .char k7, nar .char k8]) (bs := ([nar .char k6, nar .char k7, nar .char k8] : List Int32).map (fun c => c.toInt8.toInt32)) (n := 3) (n0 := n0) g_sx sz145 f147 f148 f149 f146 (Sta.ext od145.2 S_c) hz rfl rfl (by decide) (by decide) hp rfl (by decide) (by decide)) e145 (g := (mkF m 133 #[.val (.int p1), .val (.int p2), .val (.int p3), .val (.int p4), .val (.int np), .val (.int k5), .val (.int k6), .val (.int k7), .val (.int k8), .unset, .unset, .unset, .unset] [(.ref cc), (.ref sx), (.ref sx)])) rfl (by rw [hml]; rfl) (lenOf own_pd7 rfl) rfl (by show 2 * 0 + _ ≤ _; exact Nat.le_of_eq rfl) (hb hby at_133) (by decide) (by decide)
        obtain ⟨rfl, N151, K151, -⟩ := hQ151
        have fr151 := Fr.app fr145 N151
        have sz151 : n0 ≤ T151.heap.size := Nat.le_trans sz145 K151.1
        refine own_st (st151) ?_
        clear st151 X145 e145
        show OFin p e below s _ _ _ (T151.setTop (mkF m 136 #[.val (.int p1), .val (.int p2), .val (.int p3), .val (.int p4), .val (.int np), .val (.int k5), .val (.int k6), .val (.int k7), .val (.int k8), .unset, .unset, .unset, .unset] [(.ref sx)]))
        refine own_st (fun _ kS => XS.astore X151.here hx rfl (hb hby at_136) rfl rfl (l' := #[.val (.int p1), .val (.int p2), .val (.int p3), .val (.int p4), .val (.int np), .val (.int k5), .val (.int k6), .val (.int k7), .val (.int k8), .val (.ref sx), .unset, .unset, .unset]) rfl kS) ?_
        show OFin p e below s _ _ _ (T151.setTop (mkF m 138 #[.val (.int p1), .val (.int p2), .val (.int p3), .val (.int p4), .val (.int np), .val (.int k5), .val (.int k6), .val (.int k7), .val (.int k8), .val (.ref sx), .unset, .unset, .unset] []))
        exact own_mono (own_pT hw ⟨hx, hZ, hby, hml, hown, hret, hlk, hnm⟩ X151 rfl p1 p2 p3 p4 np k5 k6 k7 k8 sx n0 sz151 fr151 (by decide) (by decide)) (fun _ _ _ q => ⟨q.1, q.2.1⟩)
set_option maxRecDepth 65536 in
set_option maxHeartbeats 40000000 in
theorem rm0 (l : Launch) (Z : State) (a0 : Array Value) (hw : ∀ d ∈ tables_1, d.before a0 Z = true) (p1 : Int32) (p2 : Int32) (p3 : Int32) (p4 : Int32) (h0 : Heap) (n0 : Nat) (Z0 : n0 ≤ h0.size) (z : Int32) (S_c : Sta Z Z.heap "java/lang/String" "COMPACT_STRINGS" "Z" (.int z)) (hz : ¬ (z = (0 : Int32))) (O : Old Z n0 h0) (hh : Jvm.Lit.constHeld Z "java/lang/String" 7) (hcw : Jvm.Lit.compactW.before a0 Z = true) :
    OMetW l Z (OLit Z h0) x code maxLocals ret room_1 #[(.int p1), (.int p2), (.int p3), (.int p4)] h0 (fun v vm h L => v = some (.int (1 : Int32)) ∧ Fr n0 L) := by
  refine own_enterW own_pn0 ?_
  intro p e s m below meth c T0 X0 hC e0 eS hPv
  have hC0 := hC
  obtain ⟨hx, hZ, hby, hml, hown, hret, hlk, hnm⟩ := hC
  have hown : s.vm.findClass "com/example/ordinate/ordinate/client/ServerStatusIsStandbyPinLaw" = some m.cls := hown
  refine own_atE (own_ef0_IIII m p1 p2 p3 p4) ?_
  show OFinE p e below _ (T0.setTop (mkF m 0 #[.val (.int p1), .val (.int p2), .val (.int p3), .val (.int p4), .unset, .unset, .unset, .unset, .unset, .unset, .unset, .unset, .unset] []))
  refine own_stE (fun _ kS => XS.iloadN X0.here hx rfl (hb hby at_0) rfl kS) ?_
  show OFinE p e below _ (T0.setTop (mkF m 1 #[.val (.int p1), .val (.int p2), .val (.int p3), .val (.int p4), .unset, .unset, .unset, .unset, .unset, .unset, .unset, .unset, .unset] [(.int p1)]))
  refine own_stE (fun _ kS => XS.iconst X0.here hx rfl (hb hby at_1) kS) ?_
  show OFinE p e below _ (T0.setTop (mkF m 2 #[.val (.int p1), .val (.int p2), .val (.int p3), .val (.int p4), .unset, .unset, .unset, .unset, .unset, .unset, .unset, .unset, .unset] [(.int (1 : Int32)), (.int p1)]))
  refine own_stE (fun _ kS => XS.iand X0.here hx rfl (hb hby at_2) rfl kS) ?_
  show OFinE p e below _ (T0.setTop (mkF m 3 #[.val (.int p1), .val (.int p2), .val (.int p3), .val (.int p4), .unset, .unset, .unset, .unset, .unset, .unset, .unset, .unset, .unset] [(.int (p1 &&& (1 : Int32)))]))
  by_cases c1 : (p1 &&& (1 : Int32)) = (0 : Int32)
  · refine own_stE (fun _ kS => XS.ifYes X0.here hx rfl (pc0 := 3) (pc' := 10) rfl (hb hby at_3) rfl ((if0 _ _).trans (teq c1).1) (by decide) (by decide) kS) ?_
    show OFinE p e below _ (T0.setTop (mkF m 10 #[.val (.int p1), .val (.int p2), .val (.int p3), .val (.int p4), .unset, .unset, .unset, .unset, .unset, .unset, .unset, .unset, .unset] []))
    refine own_stE (fun _ kS => XS.iconst X0.here hx rfl (hb hby at_10) kS) ?_
    show OFinE p e below _ (T0.setTop (mkF m 11 #[.val (.int p1), .val (.int p2), .val (.int p3), .val (.int p4), .unset, .unset, .unset, .unset, .unset, .unset, .unset, .unset, .unset] [(.int (0 : Int32))]))
    refine own_stE (fun _ kS => XS.istore X0.here hx rfl (hb hby at_11) rfl (l' := #[.val (.int p1), .val (.int p2), .val (.int p3), .val (.int p4), .val (.int (0 : Int32)), .unset, .unset, .unset, .unset, .unset, .unset, .unset, .unset]) rfl kS) ?_
    show OFinE p e below _ (T0.setTop (mkF m 13 #[.val (.int p1), .val (.int p2), .val (.int p3), .val (.int p4), .val (.int (0 : Int32)), .unset, .unset, .unset, .unset, .unset, .unset, .unset, .unset] []))
    refine own_stE (fun _ kS => XS.iloadN X0.here hx rfl (hb hby at_13) rfl kS) ?_
    show OFinE p e below _ (T0.setTop (mkF m 14 #[.val (.int p1), .val (.int p2), .val (.int p3), .val (.int p4), .val (.int (0 : Int32)), .unset, .unset, .unset, .unset, .unset, .unset, .unset, .unset] [(.int p1)]))
    refine own_stE (fun _ kS => XS.iconst X0.here hx rfl (hb hby at_14) kS) ?_
    show OFinE p e below _ (T0.setTop (mkF m 15 #[.val (.int p1), .val (.int p2), .val (.int p3), .val (.int p4), .val (.int (0 : Int32)), .unset, .unset, .unset, .unset, .unset, .unset, .unset, .unset] [(.int (1 : Int32)), (.int p1)]))
    refine own_stE (fun _ kS => XS.iushr X0.here hx rfl (hb hby at_15) rfl kS) ?_
    show OFinE p e below _ (T0.setTop (mkF m 16 #[.val (.int p1), .val (.int p2), .val (.int p3), .val (.int p4), .val (.int (0 : Int32)), .unset, .unset, .unset, .unset, .unset, .unset, .unset, .unset] [(.int ((p1.toUInt32 >>> ((1 : Int32) &&& 31).toUInt32).toInt32))]))
    refine own_stE (fun _ kS => XS.iconst X0.here hx rfl (hb hby at_16) kS) ?_
    show OFinE p e below _ (T0.setTop (mkF m 17 #[.val (.int p1), .val (.int p2), .val (.int p3), .val (.int p4), .val (.int (0 : Int32)), .unset, .unset, .unset, .unset, .unset, .unset, .unset, .unset] [(.int (3 : Int32)), (.int ((p1.toUInt32 >>> ((1 : Int32) &&& 31).toUInt32).toInt32))]))
    refine own_stE (fun _ kS => XS.iand X0.here hx rfl (hb hby at_17) rfl kS) ?_
    show OFinE p e below _ (T0.setTop (mkF m 18 #[.val (.int p1), .val (.int p2), .val (.int p3), .val (.int p4), .val (.int (0 : Int32)), .unset, .unset, .unset, .unset, .unset, .unset, .unset, .unset] [(.int (((p1.toUInt32 >>> ((1 : Int32) &&& 31).toUInt32).toInt32) &&& (3 : Int32)))]))
    refine own_stE (fun _ kS => XS.istore X0.here hx rfl (hb hby at_18) rfl (l' := #[.val (.int p1), .val (.int p2), .val (.int p3), .val (.int p4), .val (.int (0 : Int32)), .val (.int (((p1.toUInt32 >>> ((1 : Int32) &&& 31).toUInt32).toInt32) &&& (3 : Int32))), .unset, .unset, .unset, .unset, .unset, .unset, .unset]) rfl kS) ?_
    show OFinE p e below _ (T0.setTop (mkF m 20 #[.val (.int p1), .val (.int p2), .val (.int p3), .val (.int p4), .val (.int (0 : Int32)), .val (.int (((p1.toUInt32 >>> ((1 : Int32) &&& 31).toUInt32).toInt32) &&& (3 : Int32))), .unset, .unset, .unset, .unset, .unset, .unset, .unset] []))
    refine own_stE (fun _ kS => XS.iloadN X0.here hx rfl (hb hby at_20) rfl kS) ?_
    show OFinE p e below _ (T0.setTop (mkF m 21 #[.val (.int p1), .val (.int p2), .val (.int p3), .val (.int p4), .val (.int (0 : Int32)), .val (.int (((p1.toUInt32 >>> ((1 : Int32) &&& 31).toUInt32).toInt32) &&& (3 : Int32))), .unset, .unset, .unset, .unset, .unset, .unset, .unset] [(.int p2)]))
    refine own_stE (fun _ kS => XS.sipush X0.here hx rfl (hb hby at_21) kS) ?_
    show OFinE p e below _ (T0.setTop (mkF m 24 #[.val (.int p1), .val (.int p2), .val (.int p3), .val (.int p4), .val (.int (0 : Int32)), .val (.int (((p1.toUInt32 >>> ((1 : Int32) &&& 31).toUInt32).toInt32) &&& (3 : Int32))), .unset, .unset, .unset, .unset, .unset, .unset, .unset] [(.int (255 : Int32)), (.int p2)]))
    refine own_stE (fun _ kS => XS.iand X0.here hx rfl (hb hby at_24) rfl kS) ?_
    show OFinE p e below _ (T0.setTop (mkF m 25 #[.val (.int p1), .val (.int p2), .val (.int p3), .val (.int p4), .val (.int (0 : Int32)), .val (.int (((p1.toUInt32 >>> ((1 : Int32) &&& 31).toUInt32).toInt32) &&& (3 : Int32))), .unset, .unset, .unset, .unset, .unset, .unset, .unset] [(.int (p2 &&& (255 : Int32)))]))
    refine own_stE (fun _ kS => XS.i2c X0.here hx rfl (hb hby at_25) rfl kS) ?_
    show OFinE p e below _ (T0.setTop (mkF m 26 #[.val (.int p1), .val (.int p2), .val (.int p3), .val (.int p4), .val (.int (0 : Int32)), .val (.int (((p1.toUInt32 >>> ((1 : Int32) &&& 31).toUInt32).toInt32) &&& (3 : Int32))), .unset, .unset, .unset, .unset, .unset, .unset, .unset] [(.int ((p2 &&& (255 : Int32)).toUInt32.toUInt16.toUInt32.toInt32))]))
    refine own_stE (fun _ kS => XS.istore X0.here hx rfl (hb hby at_26) rfl (l' := #[.val (.int p1), .val (.int p2), .val (.int p3), .val (.int p4), .val (.int (0 : Int32)), .val (.int (((p1.toUInt32 >>> ((1 : Int32) &&& 31).toUInt32).toInt32) &&& (3 : Int32))), .val (.int ((p2 &&& (255 : Int32)).toUInt32.toUInt16.toUInt32.toInt32)), .unset, .unset, .unset, .unset, .unset, .unset]) rfl kS) ?_
    show OFinE p e below _ (T0.setTop (mkF m 28 #[.val (.int p1), .val (.int p2), .val (.int p3), .val (.int p4), .val (.int (0 : Int32)), .val (.int (((p1.toUInt32 >>> ((1 : Int32) &&& 31).toUInt32).toInt32) &&& (3 : Int32))), .val (.int ((p2 &&& (255 : Int32)).toUInt32.toUInt16.toUInt32.toInt32)), .unset, .unset, .unset, .unset, .unset, .unset] []))
    refine own_stE (fun _ kS => XS.iloadN X0.here hx rfl (hb hby at_28) rfl kS) ?_
    show OFinE p e below _ (T0.setTop (mkF m 29 #[.val (.int p1), .val (.int p2), .val (.int p3), .val (.int p4), .val (.int (0 : Int32)), .val (.int (((p1.toUInt32 >>> ((1 : Int32) &&& 31).toUInt32).toInt32) &&& (3 : Int32))), .val (.int ((p2 &&& (255 : Int32)).toUInt32.toUInt16.toUInt32.toInt32)), .unset, .unset, .unset, .unset, .unset, .unset] [(.int p3)]))
    refine own_stE (fun _ kS => XS.sipush X0.here hx rfl (hb hby at_29) kS) ?_
    show OFinE p e below _ (T0.setTop (mkF m 32 #[.val (.int p1), .val (.int p2), .val (.int p3), .val (.int p4), .val (.int (0 : Int32)), .val (.int (((p1.toUInt32 >>> ((1 : Int32) &&& 31).toUInt32).toInt32) &&& (3 : Int32))), .val (.int ((p2 &&& (255 : Int32)).toUInt32.toUInt16.toUInt32.toInt32)), .unset, .unset, .unset, .unset, .unset, .unset] [(.int (255 : Int32)), (.int p3)]))
    refine own_stE (fun _ kS => XS.iand X0.here hx rfl (hb hby at_32) rfl kS) ?_
    show OFinE p e below _ (T0.setTop (mkF m 33 #[.val (.int p1), .val (.int p2), .val (.int p3), .val (.int p4), .val (.int (0 : Int32)), .val (.int (((p1.toUInt32 >>> ((1 : Int32) &&& 31).toUInt32).toInt32) &&& (3 : Int32))), .val (.int ((p2 &&& (255 : Int32)).toUInt32.toUInt16.toUInt32.toInt32)), .unset, .unset, .unset, .unset, .unset, .unset] [(.int (p3 &&& (255 : Int32)))]))
    refine own_stE (fun _ kS => XS.i2c X0.here hx rfl (hb hby at_33) rfl kS) ?_
    show OFinE p e below _ (T0.setTop (mkF m 34 #[.val (.int p1), .val (.int p2), .val (.int p3), .val (.int p4), .val (.int (0 : Int32)), .val (.int (((p1.toUInt32 >>> ((1 : Int32) &&& 31).toUInt32).toInt32) &&& (3 : Int32))), .val (.int ((p2 &&& (255 : Int32)).toUInt32.toUInt16.toUInt32.toInt32)), .unset, .unset, .unset, .unset, .unset, .unset] [(.int ((p3 &&& (255 : Int32)).toUInt32.toUInt16.toUInt32.toInt32))]))
    refine own_stE (fun _ kS => XS.istore X0.here hx rfl (hb hby at_34) rfl (l' := #[.val (.int p1), .val (.int p2), .val (.int p3), .val (.int p4), .val (.int (0 : Int32)), .val (.int (((p1.toUInt32 >>> ((1 : Int32) &&& 31).toUInt32).toInt32) &&& (3 : Int32))), .val (.int ((p2 &&& (255 : Int32)).toUInt32.toUInt16.toUInt32.toInt32)), .val (.int ((p3 &&& (255 : Int32)).toUInt32.toUInt16.toUInt32.toInt32)), .unset, .unset, .unset, .unset, .unset]) rfl kS) ?_
    show OFinE p e below _ (T0.setTop (mkF m 36 #[.val (.int p1), .val (.int p2), .val (.int p3), .val (.int p4), .val (.int (0 : Int32)), .val (.int (((p1.toUInt32 >>> ((1 : Int32) &&& 31).toUInt32).toInt32) &&& (3 : Int32))), .val (.int ((p2 &&& (255 : Int32)).toUInt32.toUInt16.toUInt32.toInt32)), .val (.int ((p3 &&& (255 : Int32)).toUInt32.toUInt16.toUInt32.toInt32)), .unset, .unset, .unset, .unset, .unset] []))
    refine own_stE (fun _ kS => XS.iloadN X0.here hx rfl (hb hby at_36) rfl kS) ?_
    show OFinE p e below _ (T0.setTop (mkF m 37 #[.val (.int p1), .val (.int p2), .val (.int p3), .val (.int p4), .val (.int (0 : Int32)), .val (.int (((p1.toUInt32 >>> ((1 : Int32) &&& 31).toUInt32).toInt32) &&& (3 : Int32))), .val (.int ((p2 &&& (255 : Int32)).toUInt32.toUInt16.toUInt32.toInt32)), .val (.int ((p3 &&& (255 : Int32)).toUInt32.toUInt16.toUInt32.toInt32)), .unset, .unset, .unset, .unset, .unset] [(.int p4)]))
    refine own_stE (fun _ kS => XS.sipush X0.here hx rfl (hb hby at_37) kS) ?_
    show OFinE p e below _ (T0.setTop (mkF m 40 #[.val (.int p1), .val (.int p2), .val (.int p3), .val (.int p4), .val (.int (0 : Int32)), .val (.int (((p1.toUInt32 >>> ((1 : Int32) &&& 31).toUInt32).toInt32) &&& (3 : Int32))), .val (.int ((p2 &&& (255 : Int32)).toUInt32.toUInt16.toUInt32.toInt32)), .val (.int ((p3 &&& (255 : Int32)).toUInt32.toUInt16.toUInt32.toInt32)), .unset, .unset, .unset, .unset, .unset] [(.int (255 : Int32)), (.int p4)]))
    refine own_stE (fun _ kS => XS.iand X0.here hx rfl (hb hby at_40) rfl kS) ?_
    show OFinE p e below _ (T0.setTop (mkF m 41 #[.val (.int p1), .val (.int p2), .val (.int p3), .val (.int p4), .val (.int (0 : Int32)), .val (.int (((p1.toUInt32 >>> ((1 : Int32) &&& 31).toUInt32).toInt32) &&& (3 : Int32))), .val (.int ((p2 &&& (255 : Int32)).toUInt32.toUInt16.toUInt32.toInt32)), .val (.int ((p3 &&& (255 : Int32)).toUInt32.toUInt16.toUInt32.toInt32)), .unset, .unset, .unset, .unset, .unset] [(.int (p4 &&& (255 : Int32)))]))
    refine own_stE (fun _ kS => XS.i2c X0.here hx rfl (hb hby at_41) rfl kS) ?_
    show OFinE p e below _ (T0.setTop (mkF m 42 #[.val (.int p1), .val (.int p2), .val (.int p3), .val (.int p4), .val (.int (0 : Int32)), .val (.int (((p1.toUInt32 >>> ((1 : Int32) &&& 31).toUInt32).toInt32) &&& (3 : Int32))), .val (.int ((p2 &&& (255 : Int32)).toUInt32.toUInt16.toUInt32.toInt32)), .val (.int ((p3 &&& (255 : Int32)).toUInt32.toUInt16.toUInt32.toInt32)), .unset, .unset, .unset, .unset, .unset] [(.int ((p4 &&& (255 : Int32)).toUInt32.toUInt16.toUInt32.toInt32))]))
    refine own_stE (fun _ kS => XS.istore X0.here hx rfl (hb hby at_42) rfl (l' := #[.val (.int p1), .val (.int p2), .val (.int p3), .val (.int p4), .val (.int (0 : Int32)), .val (.int (((p1.toUInt32 >>> ((1 : Int32) &&& 31).toUInt32).toInt32) &&& (3 : Int32))), .val (.int ((p2 &&& (255 : Int32)).toUInt32.toUInt16.toUInt32.toInt32)), .val (.int ((p3 &&& (255 : Int32)).toUInt32.toUInt16.toUInt32.toInt32)), .val (.int ((p4 &&& (255 : Int32)).toUInt32.toUInt16.toUInt32.toInt32)), .unset, .unset, .unset, .unset]) rfl kS) ?_
    show OFinE p e below _ (T0.setTop (mkF m 44 #[.val (.int p1), .val (.int p2), .val (.int p3), .val (.int p4), .val (.int (0 : Int32)), .val (.int (((p1.toUInt32 >>> ((1 : Int32) &&& 31).toUInt32).toInt32) &&& (3 : Int32))), .val (.int ((p2 &&& (255 : Int32)).toUInt32.toUInt16.toUInt32.toInt32)), .val (.int ((p3 &&& (255 : Int32)).toUInt32.toUInt16.toUInt32.toInt32)), .val (.int ((p4 &&& (255 : Int32)).toUInt32.toUInt16.toUInt32.toInt32)), .unset, .unset, .unset, .unset] []))
    exact own_pK hw hC0 X0 e0 p1 p2 p3 p4 _ _ _ _ _ n0 z Z0 (Fr.nil n0) rfl rfl rfl (own_c8 _) (own_c8 _) (own_c8 _) S_c hz O hh hcw hPv
  · refine own_stE (fun _ kS => XS.ifNo X0.here hx rfl (hb hby at_3) rfl ((if0 _ _).trans (feq c1).1) kS) ?_
    show OFinE p e below _ (T0.setTop (mkF m 6 #[.val (.int p1), .val (.int p2), .val (.int p3), .val (.int p4), .unset, .unset, .unset, .unset, .unset, .unset, .unset, .unset, .unset] []))
    refine own_stE (fun _ kS => XS.iconst X0.here hx rfl (hb hby at_6) kS) ?_
    show OFinE p e below _ (T0.setTop (mkF m 7 #[.val (.int p1), .val (.int p2), .val (.int p3), .val (.int p4), .unset, .unset, .unset, .unset, .unset, .unset, .unset, .unset, .unset] [(.int (1 : Int32))]))
    refine own_stE (fun _ kS => XS.goto X0.here hx rfl (pc0 := 7) (pc' := 11) rfl (hb hby at_7) (by decide) (by decide) kS) ?_
    show OFinE p e below _ (T0.setTop (mkF m 11 #[.val (.int p1), .val (.int p2), .val (.int p3), .val (.int p4), .unset, .unset, .unset, .unset, .unset, .unset, .unset, .unset, .unset] [(.int (1 : Int32))]))
    refine own_stE (fun _ kS => XS.istore X0.here hx rfl (hb hby at_11) rfl (l' := #[.val (.int p1), .val (.int p2), .val (.int p3), .val (.int p4), .val (.int (1 : Int32)), .unset, .unset, .unset, .unset, .unset, .unset, .unset, .unset]) rfl kS) ?_
    show OFinE p e below _ (T0.setTop (mkF m 13 #[.val (.int p1), .val (.int p2), .val (.int p3), .val (.int p4), .val (.int (1 : Int32)), .unset, .unset, .unset, .unset, .unset, .unset, .unset, .unset] []))
    refine own_stE (fun _ kS => XS.iloadN X0.here hx rfl (hb hby at_13) rfl kS) ?_
    show OFinE p e below _ (T0.setTop (mkF m 14 #[.val (.int p1), .val (.int p2), .val (.int p3), .val (.int p4), .val (.int (1 : Int32)), .unset, .unset, .unset, .unset, .unset, .unset, .unset, .unset] [(.int p1)]))
    refine own_stE (fun _ kS => XS.iconst X0.here hx rfl (hb hby at_14) kS) ?_
    show OFinE p e below _ (T0.setTop (mkF m 15 #[.val (.int p1), .val (.int p2), .val (.int p3), .val (.int p4), .val (.int (1 : Int32)), .unset, .unset, .unset, .unset, .unset, .unset, .unset, .unset] [(.int (1 : Int32)), (.int p1)]))
    refine own_stE (fun _ kS => XS.iushr X0.here hx rfl (hb hby at_15) rfl kS) ?_
    show OFinE p e below _ (T0.setTop (mkF m 16 #[.val (.int p1), .val (.int p2), .val (.int p3), .val (.int p4), .val (.int (1 : Int32)), .unset, .unset, .unset, .unset, .unset, .unset, .unset, .unset] [(.int ((p1.toUInt32 >>> ((1 : Int32) &&& 31).toUInt32).toInt32))]))
    refine own_stE (fun _ kS => XS.iconst X0.here hx rfl (hb hby at_16) kS) ?_
    show OFinE p e below _ (T0.setTop (mkF m 17 #[.val (.int p1), .val (.int p2), .val (.int p3), .val (.int p4), .val (.int (1 : Int32)), .unset, .unset, .unset, .unset, .unset, .unset, .unset, .unset] [(.int (3 : Int32)), (.int ((p1.toUInt32 >>> ((1 : Int32) &&& 31).toUInt32).toInt32))]))
    refine own_stE (fun _ kS => XS.iand X0.here hx rfl (hb hby at_17) rfl kS) ?_
    show OFinE p e below _ (T0.setTop (mkF m 18 #[.val (.int p1), .val (.int p2), .val (.int p3), .val (.int p4), .val (.int (1 : Int32)), .unset, .unset, .unset, .unset, .unset, .unset, .unset, .unset] [(.int (((p1.toUInt32 >>> ((1 : Int32) &&& 31).toUInt32).toInt32) &&& (3 : Int32)))]))
    refine own_stE (fun _ kS => XS.istore X0.here hx rfl (hb hby at_18) rfl (l' := #[.val (.int p1), .val (.int p2), .val (.int p3), .val (.int p4), .val (.int (1 : Int32)), .val (.int (((p1.toUInt32 >>> ((1 : Int32) &&& 31).toUInt32).toInt32) &&& (3 : Int32))), .unset, .unset, .unset, .unset, .unset, .unset, .unset]) rfl kS) ?_
    show OFinE p e below _ (T0.setTop (mkF m 20 #[.val (.int p1), .val (.int p2), .val (.int p3), .val (.int p4), .val (.int (1 : Int32)), .val (.int (((p1.toUInt32 >>> ((1 : Int32) &&& 31).toUInt32).toInt32) &&& (3 : Int32))), .unset, .unset, .unset, .unset, .unset, .unset, .unset] []))
    refine own_stE (fun _ kS => XS.iloadN X0.here hx rfl (hb hby at_20) rfl kS) ?_
    show OFinE p e below _ (T0.setTop (mkF m 21 #[.val (.int p1), .val (.int p2), .val (.int p3), .val (.int p4), .val (.int (1 : Int32)), .val (.int (((p1.toUInt32 >>> ((1 : Int32) &&& 31).toUInt32).toInt32) &&& (3 : Int32))), .unset, .unset, .unset, .unset, .unset, .unset, .unset] [(.int p2)]))
    refine own_stE (fun _ kS => XS.sipush X0.here hx rfl (hb hby at_21) kS) ?_
    show OFinE p e below _ (T0.setTop (mkF m 24 #[.val (.int p1), .val (.int p2), .val (.int p3), .val (.int p4), .val (.int (1 : Int32)), .val (.int (((p1.toUInt32 >>> ((1 : Int32) &&& 31).toUInt32).toInt32) &&& (3 : Int32))), .unset, .unset, .unset, .unset, .unset, .unset, .unset] [(.int (255 : Int32)), (.int p2)]))
    refine own_stE (fun _ kS => XS.iand X0.here hx rfl (hb hby at_24) rfl kS) ?_
    show OFinE p e below _ (T0.setTop (mkF m 25 #[.val (.int p1), .val (.int p2), .val (.int p3), .val (.int p4), .val (.int (1 : Int32)), .val (.int (((p1.toUInt32 >>> ((1 : Int32) &&& 31).toUInt32).toInt32) &&& (3 : Int32))), .unset, .unset, .unset, .unset, .unset, .unset, .unset] [(.int (p2 &&& (255 : Int32)))]))
    refine own_stE (fun _ kS => XS.i2c X0.here hx rfl (hb hby at_25) rfl kS) ?_
    show OFinE p e below _ (T0.setTop (mkF m 26 #[.val (.int p1), .val (.int p2), .val (.int p3), .val (.int p4), .val (.int (1 : Int32)), .val (.int (((p1.toUInt32 >>> ((1 : Int32) &&& 31).toUInt32).toInt32) &&& (3 : Int32))), .unset, .unset, .unset, .unset, .unset, .unset, .unset] [(.int ((p2 &&& (255 : Int32)).toUInt32.toUInt16.toUInt32.toInt32))]))
    refine own_stE (fun _ kS => XS.istore X0.here hx rfl (hb hby at_26) rfl (l' := #[.val (.int p1), .val (.int p2), .val (.int p3), .val (.int p4), .val (.int (1 : Int32)), .val (.int (((p1.toUInt32 >>> ((1 : Int32) &&& 31).toUInt32).toInt32) &&& (3 : Int32))), .val (.int ((p2 &&& (255 : Int32)).toUInt32.toUInt16.toUInt32.toInt32)), .unset, .unset, .unset, .unset, .unset, .unset]) rfl kS) ?_
    show OFinE p e below _ (T0.setTop (mkF m 28 #[.val (.int p1), .val (.int p2), .val (.int p3), .val (.int p4), .val (.int (1 : Int32)), .val (.int (((p1.toUInt32 >>> ((1 : Int32) &&& 31).toUInt32).toInt32) &&& (3 : Int32))), .val (.int ((p2 &&& (255 : Int32)).toUInt32.toUInt16.toUInt32.toInt32)), .unset, .unset, .unset, .unset, .unset, .unset] []))
    refine own_stE (fun _ kS => XS.iloadN X0.here hx rfl (hb hby at_28) rfl kS) ?_
    show OFinE p e below _ (T0.setTop (mkF m 29 #[.val (.int p1), .val (.int p2), .val (.int p3), .val (.int p4), .val (.int (1 : Int32)), .val (.int (((p1.toUInt32 >>> ((1 : Int32) &&& 31).toUInt32).toInt32) &&& (3 : Int32))), .val (.int ((p2 &&& (255 : Int32)).toUInt32.toUInt16.toUInt32.toInt32)), .unset, .unset, .unset, .unset, .unset, .unset] [(.int p3)]))
    refine own_stE (fun _ kS => XS.sipush X0.here hx rfl (hb hby at_29) kS) ?_
    show OFinE p e below _ (T0.setTop (mkF m 32 #[.val (.int p1), .val (.int p2), .val (.int p3), .val (.int p4), .val (.int (1 : Int32)), .val (.int (((p1.toUInt32 >>> ((1 : Int32) &&& 31).toUInt32).toInt32) &&& (3 : Int32))), .val (.int ((p2 &&& (255 : Int32)).toUInt32.toUInt16.toUInt32.toInt32)), .unset, .unset, .unset, .unset, .unset, .unset] [(.int (255 : Int32)), (.int p3)]))
    refine own_stE (fun _ kS => XS.iand X0.here hx rfl (hb hby at_32) rfl kS) ?_
    show OFinE p e below _ (T0.setTop (mkF m 33 #[.val (.int p1), .val (.int p2), .val (.int p3), .val (.int p4), .val (.int (1 : Int32)), .val (.int (((p1.toUInt32 >>> ((1 : Int32) &&& 31).toUInt32).toInt32) &&& (3 : Int32))), .val (.int ((p2 &&& (255 : Int32)).toUInt32.toUInt16.toUInt32.toInt32)), .unset, .unset, .unset, .unset, .unset, .unset] [(.int (p3 &&& (255 : Int32)))]))
    refine own_stE (fun _ kS => XS.i2c X0.here hx rfl (hb hby at_33) rfl kS) ?_
    show OFinE p e below _ (T0.setTop (mkF m 34 #[.val (.int p1), .val (.int p2), .val (.int p3), .val (.int p4), .val (.int (1 : Int32)), .val (.int (((p1.toUInt32 >>> ((1 : Int32) &&& 31).toUInt32).toInt32) &&& (3 : Int32))), .val (.int ((p2 &&& (255 : Int32)).toUInt32.toUInt16.toUInt32.toInt32)), .unset, .unset, .unset, .unset, .unset, .unset] [(.int ((p3 &&& (255 : Int32)).toUInt32.toUInt16.toUInt32.toInt32))]))
    refine own_stE (fun _ kS => XS.istore X0.here hx rfl (hb hby at_34) rfl (l' := #[.val (.int p1), .val (.int p2), .val (.int p3), .val (.int p4), .val (.int (1 : Int32)), .val (.int (((p1.toUInt32 >>> ((1 : Int32) &&& 31).toUInt32).toInt32) &&& (3 : Int32))), .val (.int ((p2 &&& (255 : Int32)).toUInt32.toUInt16.toUInt32.toInt32)), .val (.int ((p3 &&& (255 : Int32)).toUInt32.toUInt16.toUInt32.toInt32)), .unset, .unset, .unset, .unset, .unset]) rfl kS) ?_
    show OFinE p e below _ (T0.setTop (mkF m 36 #[.val (.int p1), .val (.int p2), .val (.int p3), .val (.int p4), .val (.int (1 : Int32)), .val (.int (((p1.toUInt32 >>> ((1 : Int32) &&& 31).toUInt32).toInt32) &&& (3 : Int32))), .val (.int ((p2 &&& (255 : Int32)).toUInt32.toUInt16.toUInt32.toInt32)), .val (.int ((p3 &&& (255 : Int32)).toUInt32.toUInt16.toUInt32.toInt32)), .unset, .unset, .unset, .unset, .unset] []))
    refine own_stE (fun _ kS => XS.iloadN X0.here hx rfl (hb hby at_36) rfl kS) ?_
    show OFinE p e below _ (T0.setTop (mkF m 37 #[.val (.int p1), .val (.int p2), .val (.int p3), .val (.int p4), .val (.int (1 : Int32)), .val (.int (((p1.toUInt32 >>> ((1 : Int32) &&& 31).toUInt32).toInt32) &&& (3 : Int32))), .val (.int ((p2 &&& (255 : Int32)).toUInt32.toUInt16.toUInt32.toInt32)), .val (.int ((p3 &&& (255 : Int32)).toUInt32.toUInt16.toUInt32.toInt32)), .unset, .unset, .unset, .unset, .unset] [(.int p4)]))
    refine own_stE (fun _ kS => XS.sipush X0.here hx rfl (hb hby at_37) kS) ?_
    show OFinE p e below _ (T0.setTop (mkF m 40 #[.val (.int p1), .val (.int p2), .val (.int p3), .val (.int p4), .val (.int (1 : Int32)), .val (.int (((p1.toUInt32 >>> ((1 : Int32) &&& 31).toUInt32).toInt32) &&& (3 : Int32))), .val (.int ((p2 &&& (255 : Int32)).toUInt32.toUInt16.toUInt32.toInt32)), .val (.int ((p3 &&& (255 : Int32)).toUInt32.toUInt16.toUInt32.toInt32)), .unset, .unset, .unset, .unset, .unset] [(.int (255 : Int32)), (.int p4)]))
    refine own_stE (fun _ kS => XS.iand X0.here hx rfl (hb hby at_40) rfl kS) ?_
    show OFinE p e below _ (T0.setTop (mkF m 41 #[.val (.int p1), .val (.int p2), .val (.int p3), .val (.int p4), .val (.int (1 : Int32)), .val (.int (((p1.toUInt32 >>> ((1 : Int32) &&& 31).toUInt32).toInt32) &&& (3 : Int32))), .val (.int ((p2 &&& (255 : Int32)).toUInt32.toUInt16.toUInt32.toInt32)), .val (.int ((p3 &&& (255 : Int32)).toUInt32.toUInt16.toUInt32.toInt32)), .unset, .unset, .unset, .unset, .unset] [(.int (p4 &&& (255 : Int32)))]))
    refine own_stE (fun _ kS => XS.i2c X0.here hx rfl (hb hby at_41) rfl kS) ?_
    show OFinE p e below _ (T0.setTop (mkF m 42 #[.val (.int p1), .val (.int p2), .val (.int p3), .val (.int p4), .val (.int (1 : Int32)), .val (.int (((p1.toUInt32 >>> ((1 : Int32) &&& 31).toUInt32).toInt32) &&& (3 : Int32))), .val (.int ((p2 &&& (255 : Int32)).toUInt32.toUInt16.toUInt32.toInt32)), .val (.int ((p3 &&& (255 : Int32)).toUInt32.toUInt16.toUInt32.toInt32)), .unset, .unset, .unset, .unset, .unset] [(.int ((p4 &&& (255 : Int32)).toUInt32.toUInt16.toUInt32.toInt32))]))
    refine own_stE (fun _ kS => XS.istore X0.here hx rfl (hb hby at_42) rfl (l' := #[.val (.int p1), .val (.int p2), .val (.int p3), .val (.int p4), .val (.int (1 : Int32)), .val (.int (((p1.toUInt32 >>> ((1 : Int32) &&& 31).toUInt32).toInt32) &&& (3 : Int32))), .val (.int ((p2 &&& (255 : Int32)).toUInt32.toUInt16.toUInt32.toInt32)), .val (.int ((p3 &&& (255 : Int32)).toUInt32.toUInt16.toUInt32.toInt32)), .val (.int ((p4 &&& (255 : Int32)).toUInt32.toUInt16.toUInt32.toInt32)), .unset, .unset, .unset, .unset]) rfl kS) ?_
    show OFinE p e below _ (T0.setTop (mkF m 44 #[.val (.int p1), .val (.int p2), .val (.int p3), .val (.int p4), .val (.int (1 : Int32)), .val (.int (((p1.toUInt32 >>> ((1 : Int32) &&& 31).toUInt32).toInt32) &&& (3 : Int32))), .val (.int ((p2 &&& (255 : Int32)).toUInt32.toUInt16.toUInt32.toInt32)), .val (.int ((p3 &&& (255 : Int32)).toUInt32.toUInt16.toUInt32.toInt32)), .val (.int ((p4 &&& (255 : Int32)).toUInt32.toUInt16.toUInt32.toInt32)), .unset, .unset, .unset, .unset] []))
    exact own_pK hw hC0 X0 e0 p1 p2 p3 p4 _ _ _ _ _ n0 z Z0 (Fr.nil n0) rfl rfl rfl (own_c8 _) (own_c8 _) (own_c8 _) S_c hz O hh hcw hPv
set_option maxRecDepth 65536 in
set_option maxHeartbeats 40000000 in
theorem comes_1 {Post : Tables → Env → Array Value → State → Outcome → State → Prop} (hpost : ∀ tb e args s v u, (limb_1_1.after args s (.returned v) u = true ∧ limb_1_2.after args s (.returned v) u = true ∧ True) → ReturnedEndW s (.returned v) u (Jvm.fieldLocs frame_1_writes args s ++ Jvm.arrayLocs frame_1_arrays args s ++ Jvm.staticLocs frame_1_statics s) 24 1152 → Post tb e args s (.returned v) u) :
    ArmFor flags0 classFile x code maxLocals ret World_1 tables_1 room_1 Calls_1 rest_1 Pre_1 Post := by
  intro l hfl _ _ p e ha hc hk s m args below hf hA hF happ hP
  obtain ⟨hcalls, hrest, hpre⟩ := hP
  obtain ⟨-, -, -, hnamed, -, -, -, hat⟩ := (Spec.applies_iff hf).mp happ
  obtain ⟨hg, hn⟩ := and_e (Cond.before_iff.mp (show (Jvm.Cond.and given_1 narrow_1).before args s = true from hpre))
  obtain ⟨gc, hg0⟩ := and_e hg
  obtain ⟨ga0, hg1⟩ := and_e hg0
  obtain ⟨ga1, hg2⟩ := and_e hg1
  obtain ⟨ga2, hg3⟩ := and_e hg2
  obtain ⟨w0, w1, w2, w3, rfl⟩ : ∃ w0 w1 w2 w3 : Value, args = #[w0, w1, w2, w3] := by
    have hs : args.size = 4 := by simpa [Cond.value, given_1] using gc
    obtain ⟨L⟩ := args
    match L, hs with
    | [w0, w1, w2, w3], _ => exact ⟨w0, w1, w2, w3, rfl⟩
  have hw := fun d (hd : d ∈ tables_1) => atoms_spec (ws := Jvm.Cond.code x code maxLocals ret :: tables_1) hat d (List.mem_cons_of_mem _ hd)
  have hfit : Fit s := fun {y c} hc i hi => by
    obtain ⟨ha, rfl⟩ := Array.getElem?_eq_some_iff.mp hc
    have q := List.all_eq_true.mp ((Array.all_eq_true_iff_forall_mem.mp hF) _ (Array.getElem_mem ha)) i (List.mem_range.mpr hi)
    simpa [Array.getElem?_eq_getElem hi] using q
  obtain ⟨i0, ei0⟩ := is_v ga0
  obtain rfl : w0 = (.int i0) := Option.some.inj ei0
  obtain ⟨i1, ei1⟩ := is_v ga1
  obtain rfl : w1 = (.int i1) := Option.some.inj ei1
  obtain ⟨i2, ei2⟩ := is_v ga2
  obtain rfl : w2 = (.int i2) := Option.some.inj ei2
  obtain ⟨i3, ei3⟩ := is_v hg3
  obtain rfl : w3 = (.int i3) := Option.some.inj ei3
  obtain ⟨hsets, hown0⟩ := atoms_of _ (rest_1_c_eq ▸ (show rest_1_c.before _ s = true from hrest))
  have hcw := hsets _ (List.mem_of_getElem? (i := 2) rfl)
  have n5 := not_v (Cond.before_iff.mp hcw)
  obtain ⟨zz, e10⟩ := is_v (Cond.before_iff.mp (hsets _ (List.mem_of_getElem? (i := 1) rfl)))
  have S12 : Sta s s.heap "java/lang/String" "COMPACT_STRINGS" "Z" (.int zz) := Sta.start e10 (Or.inl (hsets _ (List.mem_of_getElem? (i := 0) rfl)))
  have c17 : ¬ (zz = (0 : Int32)) := gotF (Cond.eq_ints e10 (Term.int_eval (0))) n5
  have hh : Jvm.Lit.constHeld s "java/lang/String" 7 := hcalls.1 ("java/lang/String", 7) (List.mem_of_getElem? (i := 0) rfl)
  obtain ⟨n, o, h1, h2, h3, _, L, rfl, ⟨rfl, N⟩, hq⟩ := rm0 l s _ hw i0 i1 i2 i3 s.heap s.heap.size (Nat.le_refl _) zz S12 c17 (Old.start s) hh hcw tables_1 p e ha hc hk s m _ below hf ((Spec.applies_iff_loose hf).mp happ).1 ⟨rfl, State.Warmed39.refl s, rfl, OLit.start⟩ trivial
  refine ⟨n, _, h1, h2, h3, hpost _ _ _ _ _ _ ⟨Cond.after_iff.mpr rfl, Cond.after_iff.mpr (eq_i res_at (Term.int_eval (1)) rfl), trivial⟩ ⟨hq.1, hq.2.1, hq.2.2.1, (hq.2.2.2.sift fun y hy => Or.inr (N y hy)).mono (by decide) (by decide)⟩⟩
theorem main_1_1 : Claimed_1_1 := comes_1 fun _ _ _ _ _ _ h hF => ⟨h.1, hF⟩
theorem main_1_2 : Claimed_1_2 := comes_1 fun _ _ _ _ _ _ h hF => ⟨h.2.1, hF⟩
end Jvm.Pilot.@@N@@
namespace Jvm.Pilot.@@N@@
open Jvm Jvm.ClassFile Sem Op Lib Jvm.Free Jvm.Stand Jvm.Pilot.@@N@@.Jvm.D
/-! MADE BY PROGRAM (witnessworld.py) out of the Statement's table words and the real class files: 21 classes; the members and pool entries that the words name. The judged class is class 1, her method 1. -/
namespace start1
open Jvm.ClassFile
def u (s : String) : CpInfo := .utf8 (stringToUtf16 s)
/-- a pool by its gaps: so many unusable entries, then the entry; so many at the end -/
def gap : Nat → List CpInfo → List CpInfo
  | 0, r => r
  | n + 1, r => .unusable :: gap n r
def poolList (es : List (Nat × CpInfo)) (last : Nat) : List CpInfo := es.foldr (fun e r => gap e.1 (e.2 :: r)) (gap last [])
def pool (es : List (Nat × CpInfo)) (last : Nat) : Array CpInfo := ⟨poolList es last⟩
def fileOf (pool : Array CpInfo) (this : Nat) (attrs : Array Attribute := #[]) (ms : Array MethodInfo := #[]) (fl : Nat := 33) (sup : Nat := 0) (ifs : Array Nat := #[]) (fds : Array FieldInfo := #[]) : ClassFile where
  minorVersion := 0
  majorVersion := 65
  constantPool := pool
  accessFlags := fl
  thisClass := this
  superClass := sup
  interfaces := ifs
  fields := fds
  methods := ms
  attributes := attrs
def plain (name : String) (sup : Option ClassId) : Class where
  name := name
  kind := .ordinary
  loader := none
  accessFlags := 33
  super := sup
  interfaces := #[]
  cf := none
  fields := #[]
  methods := #[]
  instanceTypes := #[]
  staticTypes := #[]
  resolved := #[]
  callSites := []
  init := .initialized
  statics := none
  mirror := none

def pool0 : Array CpInfo := pool [(5, u "<init>"), (0, u "()V"), (1, .class_ 10), (1, u "java/lang/Object")] 113

def k0c0 : Code := { maxStack := 0, maxLocals := 1, code := object_method_1_code, exceptionTable := #[], attributes := #[] }
def k0m0 : Method := { name := "<init>", desc := "()V", sig := { parameters := [], returnType := none }, accessFlags := 1, code := some k0c0 }
/-- java/lang/Object -/
def k0 : Class := { plain "java/lang/Object" none with
  accessFlags := 33
  interfaces := #[]
  cf := some (fileOf pool0 8 #[] #[{ accessFlags := 1, nameIndex := 5, descriptorIndex := 6, attributes := #[] }] 33 0 #[] #[])
  fields := #[]
  methods := #[k0m0]
  instanceTypes := #[]
  staticTypes := #[]
  resolved := Array.replicate 124 none
  statics := none }

def pool1 : Array CpInfo := pool [(2, .class_ 4), (1, u "java/lang/Object"), (0, u "<init>"), (0, u "()V"), (0, .class_ 8), (0, u "java/lang/String"), (0, .methodref 7 10), (0, .nameAndType 5 11), (0, u "([C)V"), (0, .methodref 7 13), (0, .nameAndType 14 15), (0, u "valueOf"), (0, u "(C)Ljava/lang/String;"), (0, .class_ 17), (0, u "com/example/ordinate/ordinate/client/ServerStatus"), (0, .methodref 16 19), (0, .nameAndType 5 20), (0, u "(Ljava/lang/String;Ljava/util/Map;)V"), (0, .methodref 16 22), (0, .nameAndType 23 24), (0, u "isStandby"), (0, u "()Z"), (0, .class_ 26), (0, u "com/example/ordinate/ordinate/client/ServerStatusIsStandbyPinLaw"), (2, u "law"), (0, u "(IIII)Z")] 3

def k1m0 : Method := { name := "<init>", desc := "()V", sig := { parameters := [], returnType := none }, accessFlags := 1, code := none }
def k1c1 : Code := { maxStack := 6, maxLocals := 13, code := code, exceptionTable := #[], attributes := #[] }
def k1m1 : Method := { name := "law", desc := "(IIII)Z", sig := { parameters := [.int, .int, .int, .int], returnType := some .boolean }, accessFlags := 9, code := some k1c1 }
/-- com/example/ordinate/ordinate/client/ServerStatusIsStandbyPinLaw -/
def k1 : Class := { plain "com/example/ordinate/ordinate/client/ServerStatusIsStandbyPinLaw" (some 0) with
  accessFlags := 49
  interfaces := #[]
  cf := some (fileOf pool1 25 #[] #[{ accessFlags := 1, nameIndex := 5, descriptorIndex := 6, attributes := #[] }, { accessFlags := 9, nameIndex := 29, descriptorIndex := 30, attributes := #[] }] 49 2 #[] #[])
  fields := #[]
  methods := #[k1m0, k1m1]
  instanceTypes := #[]
  staticTypes := #[]
  resolved := Array.replicate 34 none
  statics := none }

def pool2 : Array CpInfo := pool [(1, .class_ 2), (0, u "java/io/Serializable"), (0, .class_ 4), (0, u "java/lang/Object")] 2

/-- java/io/Serializable -/
def k2 : Class := { plain "java/io/Serializable" (some 0) with
  accessFlags := 1537
  interfaces := #[]
  cf := some (fileOf pool2 1 #[] #[] 1537 3 #[] #[])
  fields := #[]
  methods := #[]
  instanceTypes := #[]
  staticTypes := #[]
  resolved := Array.replicate 7 none
  statics := none }

def pool3 : Array CpInfo := pool [(1, .class_ 2), (0, u "java/lang/Comparable"), (0, .class_ 4), (0, u "java/lang/Object")] 7

/-- java/lang/Comparable -/
def k3 : Class := { plain "java/lang/Comparable" (some 0) with
  accessFlags := 1537
  interfaces := #[]
  cf := some (fileOf pool3 1 #[] #[] 1537 3 #[] #[])
  fields := #[]
  methods := #[]
  instanceTypes := #[]
  staticTypes := #[]
  resolved := Array.replicate 12 none
  statics := none }

def pool4 : Array CpInfo := pool [(2, .class_ 4), (1, u "java/lang/CharSequence"), (42, .class_ 48), (0, u "java/lang/CharSequence$1CodePointIterator"), (10, .class_ 60), (0, u "java/lang/CharSequence$1CharIterator"), (5, .class_ 67), (0, u "java/lang/Object")] 63

/-- java/lang/CharSequence -/
def k4 : Class := { plain "java/lang/CharSequence" (some 0) with
  accessFlags := 1537
  interfaces := #[]
  cf := some (fileOf pool4 2 #[.nestMembers #[47, 59]] #[] 1537 66 #[] #[])
  fields := #[]
  methods := #[]
  instanceTypes := #[]
  staticTypes := #[]
  resolved := Array.replicate 131 none
  statics := none }

def pool5 : Array CpInfo := pool [(1, .class_ 2), (0, u "java/lang/constant/Constable"), (0, .class_ 4), (0, u "java/lang/Object")] 6

/-- java/lang/constant/Constable -/
def k5 : Class := { plain "java/lang/constant/Constable" (some 0) with
  accessFlags := 1537
  interfaces := #[]
  cf := some (fileOf pool5 1 #[] #[] 1537 3 #[] #[])
  fields := #[]
  methods := #[]
  instanceTypes := #[]
  staticTypes := #[]
  resolved := Array.replicate 11 none
  statics := none }

def pool6 : Array CpInfo := pool [(1, .class_ 2), (0, u "java/lang/constant/ConstantDesc"), (0, .class_ 4), (0, u "java/lang/Object")] 32

/-- java/lang/constant/ConstantDesc -/
def k6 : Class := { plain "java/lang/constant/ConstantDesc" (some 0) with
  accessFlags := 1537
  interfaces := #[]
  cf := some (fileOf pool6 1 #[] #[] 1537 3 #[] #[])
  fields := #[]
  methods := #[]
  instanceTypes := #[]
  staticTypes := #[]
  resolved := Array.replicate 37 none
  statics := none }

def pool7 : Array CpInfo := pool [(1, .methodref 2 3), (0, .class_ 4), (0, .nameAndType 5 6), (0, u "java/lang/Object"), (0, u "<init>"), (0, u "()V"), (0, .string 8), (0, u ""), (0, .fieldref 10 11), (0, .class_ 12), (0, .nameAndType 13 14), (0, u "java/lang/String"), (0, u "value"), (0, u "[B"), (0, .fieldref 10 16), (0, .nameAndType 17 18), (0, u "coder"), (0, u "B"), (2, u "hash"), (0, u "I"), (2, u "hashIsZero"), (0, u "Z"), (0, .methodref 10 28), (0, .nameAndType 5 29), (0, u "([CIILjava/lang/Void;)V"), (8, .fieldref 10 39), (0, .nameAndType 40 26), (0, u "COMPACT_STRINGS"), (1, .class_ 44), (1, u "java/lang/StringUTF16"), (0, u "compress"), (1, .methodref 42 48), (0, .nameAndType 49 50), (0, u "coderFromArrayLen"), (0, u "([BI)B"), (2, u "toBytes"), (53, .class_ 109), (1, u "java/lang/StringLatin1"), (67, .methodref 42 178), (0, .nameAndType 45 179), (0, u "([CII)[B"), (29, .methodref 10 210), (0, .nameAndType 5 211), (0, u "([BB)V"), (157, u "(C)Z"), (205, .class_ 576), (0, u "java/lang/CharSequence"), (22, u "CASE_INSENSITIVE_ORDER"), (0, u "Ljava/util/Comparator;"), (181, u "valueOf"), (0, u "(C)Ljava/lang/String;"), (226, u "([C)V"), (4, .methodref 107 1016), (0, .nameAndType 1017 369), (0, u "canEncode"), (0, .methodref 107 1019), (0, .nameAndType 53 1020), (0, u "(C)[B"), (80, u "serialPersistentFields"), (0, u "[Ljava/io/ObjectStreamField;"), (0, .class_ 1104), (0, u "java/lang/String$CaseInsensitiveComparator"), (1, .class_ 1107), (0, u "java/io/Serializable"), (0, .class_ 1109), (0, u "java/lang/Comparable"), (0, .class_ 1111), (0, u "java/lang/constant/Constable"), (0, .class_ 1113), (0, u "java/lang/constant/ConstantDesc"), (2, u "serialVersionUID"), (0, u "J"), (3, u "REPL"), (0, u "C"), (2, u "LATIN1"), (1, u "UTF16")] 323

def k7m0 : Method := { name := "<init>", desc := "()V", sig := { parameters := [], returnType := none }, accessFlags := 1, code := none }
def k7c1 : Code := { maxStack := 5, maxLocals := 2, code := jdk_42_method_3_code, exceptionTable := #[], attributes := #[] }
def k7m1 : Method := { name := "<init>", desc := "([C)V", sig := { parameters := [(.array .char)], returnType := none }, accessFlags := 1, code := some k7c1 }
def k7c2 : Code := { maxStack := 4, maxLocals := 1, code := jdk_42_method_139_code, exceptionTable := #[], attributes := #[] }
def k7m2 : Method := { name := "valueOf", desc := "(C)Ljava/lang/String;", sig := { parameters := [.char], returnType := some (.object "java/lang/String") }, accessFlags := 9, code := some k7c2 }
def k7c3 : Code := { maxStack := 4, maxLocals := 6, code := jdk_42_method_149_code, exceptionTable := #[], attributes := #[] }
def k7m3 : Method := { name := "<init>", desc := "([CIILjava/lang/Void;)V", sig := { parameters := [(.array .char), .int, .int, (.object "java/lang/Void")], returnType := none }, accessFlags := 2, code := some k7c3 }
def k7c4 : Code := { maxStack := 2, maxLocals := 3, code := jdk_42_method_151_code, exceptionTable := #[], attributes := #[] }
def k7m4 : Method := { name := "<init>", desc := "([BB)V", sig := { parameters := [(.array .byte), .byte], returnType := none }, accessFlags := 0, code := some k7c4 }
/-- java/lang/String -/
def k7 : Class := { plain "java/lang/String" (some 0) with
  accessFlags := 49
  interfaces := #[2, 3, 4, 5, 6]
  cf := some (fileOf pool7 10 #[.nestMembers #[1103]] #[{ accessFlags := 1, nameIndex := 5, descriptorIndex := 6, attributes := #[] }, { accessFlags := 1, nameIndex := 5, descriptorIndex := 1010, attributes := #[] }, { accessFlags := 9, nameIndex := 782, descriptorIndex := 783, attributes := #[] }, { accessFlags := 2, nameIndex := 5, descriptorIndex := 29, attributes := #[] }, { accessFlags := 0, nameIndex := 5, descriptorIndex := 211, attributes := #[] }] 49 2 #[1106, 1108, 575, 1110, 1112] #[{ accessFlags := 18, nameIndex := 13, descriptorIndex := 14, attributes := #[] }, { accessFlags := 18, nameIndex := 17, descriptorIndex := 18, attributes := #[] }, { accessFlags := 2, nameIndex := 21, descriptorIndex := 22, attributes := #[] }, { accessFlags := 2, nameIndex := 25, descriptorIndex := 26, attributes := #[] }, { accessFlags := 26, nameIndex := 1116, descriptorIndex := 1117, attributes := #[] }, { accessFlags := 24, nameIndex := 40, descriptorIndex := 26, attributes := #[] }, { accessFlags := 26, nameIndex := 1101, descriptorIndex := 1102, attributes := #[] }, { accessFlags := 26, nameIndex := 1121, descriptorIndex := 1122, attributes := #[] }, { accessFlags := 25, nameIndex := 599, descriptorIndex := 600, attributes := #[] }, { accessFlags := 24, nameIndex := 1125, descriptorIndex := 18, attributes := #[] }, { accessFlags := 24, nameIndex := 1127, descriptorIndex := 18, attributes := #[] }])
  fields := #[{ name := "value", type := (.array .byte), accessFlags := 18, slot := 0, constantValue := 0 }, { name := "coder", type := .byte, accessFlags := 18, slot := 1, constantValue := 0 }, { name := "hash", type := .int, accessFlags := 2, slot := 2, constantValue := 0 }, { name := "hashIsZero", type := .boolean, accessFlags := 2, slot := 3, constantValue := 0 }, { name := "serialVersionUID", type := .long, accessFlags := 26, slot := 0, constantValue := 0 }, { name := "COMPACT_STRINGS", type := .boolean, accessFlags := 24, slot := 1, constantValue := 0 }, { name := "serialPersistentFields", type := (.array (.object "java/io/ObjectStreamField")), accessFlags := 26, slot := 2, constantValue := 0 }, { name := "REPL", type := .char, accessFlags := 26, slot := 3, constantValue := 0 }, { name := "CASE_INSENSITIVE_ORDER", type := (.object "java/util/Comparator"), accessFlags := 25, slot := 4, constantValue := 0 }, { name := "LATIN1", type := .byte, accessFlags := 24, slot := 5, constantValue := 0 }, { name := "UTF16", type := .byte, accessFlags := 24, slot := 6, constantValue := 0 }]
  methods := #[k7m0, k7m1, k7m2, k7m3, k7m4]
  instanceTypes := #[(.array .byte), .byte, .int, .boolean]
  staticTypes := #[.long, .boolean, (.array (.object "java/io/ObjectStreamField")), .char, (.object "java/util/Comparator"), .byte, .byte]
  resolved := Array.replicate 1451 none
  statics := some 0 }

def pool8 : Array CpInfo := pool [(1, .methodref 2 3), (0, .class_ 4), (0, .nameAndType 5 6), (0, u "java/lang/Object"), (0, u "<init>"), (0, u "()V"), (0, .class_ 8), (0, u "java/lang/Record")] 13

def k8c0 : Code := { maxStack := 1, maxLocals := 1, code := jdk_30_method_1_code, exceptionTable := #[], attributes := #[] }
def k8m0 : Method := { name := "<init>", desc := "()V", sig := { parameters := [], returnType := none }, accessFlags := 4, code := some k8c0 }
/-- java/lang/Record -/
def k8 : Class := { plain "java/lang/Record" (some 0) with
  accessFlags := 1057
  interfaces := #[]
  cf := some (fileOf pool8 7 #[] #[{ accessFlags := 4, nameIndex := 5, descriptorIndex := 6, attributes := #[] }] 1057 2 #[] #[])
  fields := #[]
  methods := #[k8m0]
  instanceTypes := #[]
  staticTypes := #[]
  resolved := Array.replicate 22 none
  statics := none }

def pool9 : Array CpInfo := pool [(1, .methodref 2 3), (0, .class_ 4), (0, .nameAndType 5 6), (0, u "java/lang/Record"), (0, u "<init>"), (0, u "()V"), (0, .fieldref 8 9), (0, .class_ 10), (0, .nameAndType 11 12), (0, u "com/example/ordinate/ordinate/client/ServerStatus"), (0, u "primary"), (0, u "Ljava/lang/String;"), (0, .fieldref 8 14), (0, .nameAndType 15 16), (0, u "standbys"), (0, u "Ljava/util/Map;"), (14, u "(Ljava/lang/String;Ljava/util/Map;)V"), (4, u "isStandby"), (0, u "()Z")] 27

def k9c0 : Code := { maxStack := 2, maxLocals := 3, code := prog_33_method_1_code, exceptionTable := #[], attributes := #[] }
def k9m0 : Method := { name := "<init>", desc := "(Ljava/lang/String;Ljava/util/Map;)V", sig := { parameters := [(.object "java/lang/String"), (.object "java/util/Map")], returnType := none }, accessFlags := 1, code := some k9c0 }
def k9c1 : Code := { maxStack := 1, maxLocals := 1, code := prog_33_method_2_code, exceptionTable := #[], attributes := #[] }
def k9m1 : Method := { name := "isStandby", desc := "()Z", sig := { parameters := [], returnType := some .boolean }, accessFlags := 1, code := some k9c1 }
/-- com/example/ordinate/ordinate/client/ServerStatus -/
def k9 : Class := { plain "com/example/ordinate/ordinate/client/ServerStatus" (some 8) with
  accessFlags := 49
  interfaces := #[]
  cf := some (fileOf pool9 8 #[] #[{ accessFlags := 1, nameIndex := 5, descriptorIndex := 31, attributes := #[] }, { accessFlags := 1, nameIndex := 36, descriptorIndex := 37, attributes := #[] }] 49 2 #[] #[{ accessFlags := 18, nameIndex := 11, descriptorIndex := 12, attributes := #[] }, { accessFlags := 18, nameIndex := 15, descriptorIndex := 16, attributes := #[] }])
  fields := #[{ name := "primary", type := (.object "java/lang/String"), accessFlags := 18, slot := 0, constantValue := 0 }, { name := "standbys", type := (.object "java/util/Map"), accessFlags := 18, slot := 1, constantValue := 0 }]
  methods := #[k9m0, k9m1]
  instanceTypes := #[(.object "java/lang/String"), (.object "java/util/Map")]
  staticTypes := #[]
  resolved := Array.replicate 65 none
  statics := none }

def pool10 : Array CpInfo := pool [(6, .class_ 8), (1, u "java/lang/Object"), (0, u "<init>"), (0, u "()V"), (1, .class_ 14), (1, u "java/lang/StringUTF16"), (31, u "$assertionsDisabled"), (0, u "Z"), (13, u "HI_BYTE_SHIFT"), (0, u "I"), (2, u "LO_BYTE_SHIFT"), (49, .methodref 12 116), (0, .nameAndType 117 118), (0, u "compress"), (0, u "([CI[BII)I"), (3, u "([CII)[B"), (138, u "coderFromArrayLen"), (0, u "([BI)B"), (106, .class_ 371), (1, u "java/lang/StringUTF16$LinesSpliterator"), (58, u "MAX_LENGTH"), (196, .class_ 628), (0, u "java/lang/StringUTF16$CodePointsSpliterator"), (0, .class_ 630), (0, u "java/lang/StringUTF16$CharsSpliterator")] 4

def k10m0 : Method := { name := "<init>", desc := "()V", sig := { parameters := [], returnType := none }, accessFlags := 0, code := none }
def k10c1 : Code := { maxStack := 2, maxLocals := 2, code := jdk_52_method_15_code, exceptionTable := #[], attributes := #[] }
def k10m1 : Method := { name := "coderFromArrayLen", desc := "([BI)B", sig := { parameters := [(.array .byte), .int], returnType := some .byte }, accessFlags := 8, code := some k10c1 }
def k10c2 : Code := { maxStack := 5, maxLocals := 6, code := jdk_52_method_16_code, exceptionTable := #[], attributes := #[] }
def k10m2 : Method := { name := "compress", desc := "([CII)[B", sig := { parameters := [(.array .char), .int, .int], returnType := some (.array .byte) }, accessFlags := 9, code := some k10c2 }
def k10c3 : Code := { maxStack := 3, maxLocals := 7, code := jdk_52_method_21_code, exceptionTable := #[], attributes := #[] }
def k10m3 : Method := { name := "compress", desc := "([CI[BII)I", sig := { parameters := [(.array .char), .int, (.array .byte), .int, .int], returnType := some .int }, accessFlags := 9, code := some k10c3 }
/-- java/lang/StringUTF16 -/
def k10 : Class := { plain "java/lang/StringUTF16" (some 0) with
  accessFlags := 48
  interfaces := #[]
  cf := some (fileOf pool10 12 #[.nestMembers #[627, 629, 369]] #[{ accessFlags := 0, nameIndex := 9, descriptorIndex := 10, attributes := #[] }, { accessFlags := 8, nameIndex := 261, descriptorIndex := 262, attributes := #[] }, { accessFlags := 9, nameIndex := 117, descriptorIndex := 122, attributes := #[] }, { accessFlags := 9, nameIndex := 117, descriptorIndex := 118, attributes := #[] }] 48 6 #[] #[{ accessFlags := 26, nameIndex := 61, descriptorIndex := 62, attributes := #[] }, { accessFlags := 26, nameIndex := 65, descriptorIndex := 62, attributes := #[] }, { accessFlags := 24, nameIndex := 430, descriptorIndex := 62, attributes := #[] }, { accessFlags := 4120, nameIndex := 46, descriptorIndex := 47, attributes := #[] }])
  fields := #[{ name := "HI_BYTE_SHIFT", type := .int, accessFlags := 26, slot := 0, constantValue := 0 }, { name := "LO_BYTE_SHIFT", type := .int, accessFlags := 26, slot := 1, constantValue := 0 }, { name := "MAX_LENGTH", type := .int, accessFlags := 24, slot := 2, constantValue := 0 }, { name := "$assertionsDisabled", type := .boolean, accessFlags := 4120, slot := 3, constantValue := 0 }]
  methods := #[k10m0, k10m1, k10m2, k10m3]
  instanceTypes := #[]
  staticTypes := #[.int, .int, .int, .boolean]
  resolved := Array.replicate 635 none
  statics := none }

def pool11 : Array CpInfo := pool [(4, .class_ 6), (1, u "java/lang/Object"), (0, u "<init>"), (0, u "()V"), (5, .class_ 16), (1, u "java/lang/StringLatin1"), (73, u "canEncode"), (14, u "(C)Z"), (15, u "$assertionsDisabled"), (0, u "Z"), (98, .class_ 223), (1, u "java/lang/StringLatin1$LinesSpliterator"), (156, u "toBytes"), (1, u "(C)[B"), (7, .class_ 391), (0, u "java/lang/StringLatin1$CharsSpliterator")] 3

def k11m0 : Method := { name := "<init>", desc := "()V", sig := { parameters := [], returnType := none }, accessFlags := 0, code := none }
def k11c1 : Code := { maxStack := 2, maxLocals := 1, code := jdk_43_method_3_code, exceptionTable := #[], attributes := #[] }
def k11m1 : Method := { name := "canEncode", desc := "(C)Z", sig := { parameters := [.char], returnType := some .boolean }, accessFlags := 9, code := some k11c1 }
def k11c2 : Code := { maxStack := 4, maxLocals := 1, code := jdk_43_method_46_code, exceptionTable := #[], attributes := #[] }
def k11m2 : Method := { name := "toBytes", desc := "(C)[B", sig := { parameters := [.char], returnType := some (.array .byte) }, accessFlags := 9, code := some k11c2 }
/-- java/lang/StringLatin1 -/
def k11 : Class := { plain "java/lang/StringLatin1" (some 0) with
  accessFlags := 48
  interfaces := #[]
  cf := some (fileOf pool11 14 #[.nestMembers #[390, 221]] #[{ accessFlags := 0, nameIndex := 7, descriptorIndex := 8, attributes := #[] }, { accessFlags := 9, nameIndex := 90, descriptorIndex := 105, attributes := #[] }, { accessFlags := 9, nameIndex := 380, descriptorIndex := 382, attributes := #[] }] 48 4 #[] #[{ accessFlags := 4120, nameIndex := 121, descriptorIndex := 122, attributes := #[] }])
  fields := #[{ name := "$assertionsDisabled", type := .boolean, accessFlags := 4120, slot := 0, constantValue := 0 }]
  methods := #[k11m0, k11m1, k11m2]
  instanceTypes := #[]
  staticTypes := #[.boolean]
  resolved := Array.replicate 395 none
  statics := none }

def pool12 : Array CpInfo := pool [(2, .class_ 4), (1, u "java/lang/Object"), (0, u "<init>"), (0, u "()V"), (17, .class_ 26), (1, u "jdk/internal/util/Preconditions"), (28, .class_ 56), (0, u "jdk/internal/util/Preconditions$4"), (57, .class_ 115), (0, u "jdk/internal/util/Preconditions$1"), (7, u "SIOOBE_FORMATTER"), (0, u "Ljava/util/function/BiFunction;"), (0, .class_ 126), (0, u "jdk/internal/util/Preconditions$2"), (3, u "AIOOBE_FORMATTER"), (0, .class_ 132), (0, u "jdk/internal/util/Preconditions$3"), (3, u "IOOBE_FORMATTER")] 57

def k12m0 : Method := { name := "<init>", desc := "()V", sig := { parameters := [], returnType := none }, accessFlags := 1, code := none }
/-- jdk/internal/util/Preconditions -/
def k12 : Class := { plain "jdk/internal/util/Preconditions" (some 0) with
  accessFlags := 33
  interfaces := #[]
  cf := some (fileOf pool12 24 #[.nestMembers #[55, 131, 125, 114]] #[{ accessFlags := 1, nameIndex := 5, descriptorIndex := 6, attributes := #[] }] 33 2 #[] #[{ accessFlags := 25, nameIndex := 123, descriptorIndex := 124, attributes := #[] }, { accessFlags := 25, nameIndex := 130, descriptorIndex := 124, attributes := #[] }, { accessFlags := 25, nameIndex := 136, descriptorIndex := 124, attributes := #[] }])
  fields := #[{ name := "SIOOBE_FORMATTER", type := (.object "java/util/function/BiFunction"), accessFlags := 25, slot := 0, constantValue := 0 }, { name := "AIOOBE_FORMATTER", type := (.object "java/util/function/BiFunction"), accessFlags := 25, slot := 1, constantValue := 0 }, { name := "IOOBE_FORMATTER", type := (.object "java/util/function/BiFunction"), accessFlags := 25, slot := 2, constantValue := 0 }]
  methods := #[k12m0]
  instanceTypes := #[]
  staticTypes := #[(.object "java/util/function/BiFunction"), (.object "java/util/function/BiFunction"), (.object "java/util/function/BiFunction")]
  resolved := Array.replicate 194 none
  statics := some 1 }

def pool13 : Array CpInfo := pool [(9, u "<init>"), (6, .class_ 18), (1, u "java/lang/Object"), (0, u "()V"), (1, .class_ 23), (1, u "jdk/internal/util/ArraysSupport"), (0, u "LOG2_ARRAY_LONG_INDEX_SCALE"), (0, u "I"), (2, u "U"), (0, u "Ljdk/internal/misc/Unsafe;"), (8, u "BIG_ENDIAN"), (0, u "Z"), (8, u "LOG2_BYTE_BIT_SIZE"), (4, u "LOG2_ARRAY_INT_INDEX_SCALE"), (54, u "JLA"), (0, u "Ljdk/internal/access/JavaLangAccess;"), (11, u "LOG2_ARRAY_BOOLEAN_INDEX_SCALE"), (9, u "LOG2_ARRAY_BYTE_INDEX_SCALE"), (5, u "LOG2_ARRAY_CHAR_INDEX_SCALE"), (5, u "LOG2_ARRAY_SHORT_INDEX_SCALE"), (18, u "LOG2_ARRAY_FLOAT_INDEX_SCALE"), (24, u "LOG2_ARRAY_DOUBLE_INDEX_SCALE"), (89, u "T_BOOLEAN"), (2, u "T_CHAR"), (1, u "T_FLOAT"), (1, u "T_DOUBLE"), (1, u "T_BYTE"), (1, u "T_SHORT"), (1, u "T_INT"), (1, u "T_LONG"), (1, u "SOFT_MAX_ARRAY_LENGTH")] 83

def k13m0 : Method := { name := "<init>", desc := "()V", sig := { parameters := [], returnType := none }, accessFlags := 2, code := none }
/-- jdk/internal/util/ArraysSupport -/
def k13 : Class := { plain "jdk/internal/util/ArraysSupport" (some 0) with
  accessFlags := 33
  interfaces := #[]
  cf := some (fileOf pool13 21 #[] #[{ accessFlags := 2, nameIndex := 9, descriptorIndex := 19, attributes := #[] }] 33 16 #[] #[{ accessFlags := 24, nameIndex := 28, descriptorIndex := 29, attributes := #[] }, { accessFlags := 26, nameIndex := 38, descriptorIndex := 39, attributes := #[] }, { accessFlags := 25, nameIndex := 121, descriptorIndex := 25, attributes := #[] }, { accessFlags := 25, nameIndex := 131, descriptorIndex := 25, attributes := #[] }, { accessFlags := 25, nameIndex := 137, descriptorIndex := 25, attributes := #[] }, { accessFlags := 25, nameIndex := 143, descriptorIndex := 25, attributes := #[] }, { accessFlags := 25, nameIndex := 53, descriptorIndex := 25, attributes := #[] }, { accessFlags := 25, nameIndex := 24, descriptorIndex := 25, attributes := #[] }, { accessFlags := 25, nameIndex := 162, descriptorIndex := 25, attributes := #[] }, { accessFlags := 25, nameIndex := 187, descriptorIndex := 25, attributes := #[] }, { accessFlags := 26, nameIndex := 48, descriptorIndex := 25, attributes := #[] }, { accessFlags := 25, nameIndex := 277, descriptorIndex := 25, attributes := #[] }, { accessFlags := 25, nameIndex := 280, descriptorIndex := 25, attributes := #[] }, { accessFlags := 25, nameIndex := 282, descriptorIndex := 25, attributes := #[] }, { accessFlags := 25, nameIndex := 284, descriptorIndex := 25, attributes := #[] }, { accessFlags := 25, nameIndex := 286, descriptorIndex := 25, attributes := #[] }, { accessFlags := 25, nameIndex := 288, descriptorIndex := 25, attributes := #[] }, { accessFlags := 25, nameIndex := 290, descriptorIndex := 25, attributes := #[] }, { accessFlags := 25, nameIndex := 292, descriptorIndex := 25, attributes := #[] }, { accessFlags := 26, nameIndex := 108, descriptorIndex := 109, attributes := #[] }, { accessFlags := 25, nameIndex := 294, descriptorIndex := 25, attributes := #[] }])
  fields := #[{ name := "U", type := (.object "jdk/internal/misc/Unsafe"), accessFlags := 24, slot := 0, constantValue := 0 }, { name := "BIG_ENDIAN", type := .boolean, accessFlags := 26, slot := 1, constantValue := 0 }, { name := "LOG2_ARRAY_BOOLEAN_INDEX_SCALE", type := .int, accessFlags := 25, slot := 2, constantValue := 0 }, { name := "LOG2_ARRAY_BYTE_INDEX_SCALE", type := .int, accessFlags := 25, slot := 3, constantValue := 0 }, { name := "LOG2_ARRAY_CHAR_INDEX_SCALE", type := .int, accessFlags := 25, slot := 4, constantValue := 0 }, { name := "LOG2_ARRAY_SHORT_INDEX_SCALE", type := .int, accessFlags := 25, slot := 5, constantValue := 0 }, { name := "LOG2_ARRAY_INT_INDEX_SCALE", type := .int, accessFlags := 25, slot := 6, constantValue := 0 }, { name := "LOG2_ARRAY_LONG_INDEX_SCALE", type := .int, accessFlags := 25, slot := 7, constantValue := 0 }, { name := "LOG2_ARRAY_FLOAT_INDEX_SCALE", type := .int, accessFlags := 25, slot := 8, constantValue := 0 }, { name := "LOG2_ARRAY_DOUBLE_INDEX_SCALE", type := .int, accessFlags := 25, slot := 9, constantValue := 0 }, { name := "LOG2_BYTE_BIT_SIZE", type := .int, accessFlags := 26, slot := 10, constantValue := 0 }, { name := "T_BOOLEAN", type := .int, accessFlags := 25, slot := 11, constantValue := 0 }, { name := "T_CHAR", type := .int, accessFlags := 25, slot := 12, constantValue := 0 }, { name := "T_FLOAT", type := .int, accessFlags := 25, slot := 13, constantValue := 0 }, { name := "T_DOUBLE", type := .int, accessFlags := 25, slot := 14, constantValue := 0 }, { name := "T_BYTE", type := .int, accessFlags := 25, slot := 15, constantValue := 0 }, { name := "T_SHORT", type := .int, accessFlags := 25, slot := 16, constantValue := 0 }, { name := "T_INT", type := .int, accessFlags := 25, slot := 17, constantValue := 0 }, { name := "T_LONG", type := .int, accessFlags := 25, slot := 18, constantValue := 0 }, { name := "JLA", type := (.object "jdk/internal/access/JavaLangAccess"), accessFlags := 26, slot := 19, constantValue := 0 }, { name := "SOFT_MAX_ARRAY_LENGTH", type := .int, accessFlags := 25, slot := 20, constantValue := 0 }]
  methods := #[k13m0]
  instanceTypes := #[]
  staticTypes := #[(.object "jdk/internal/misc/Unsafe"), .boolean, .int, .int, .int, .int, .int, .int, .int, .int, .int, .int, .int, .int, .int, .int, .int, .int, .int, (.object "jdk/internal/access/JavaLangAccess"), .int]
  resolved := Array.replicate 378 none
  statics := none }

def pool14 : Array CpInfo := pool [(1, u "java/lang/Cloneable"), (0, .class_ 1), (0, u "java/lang/Object"), (0, .class_ 3)] 3

/-- java/lang/Cloneable -/
def k14 : Class := { plain "java/lang/Cloneable" (some 0) with
  accessFlags := 1537
  interfaces := #[]
  cf := some (fileOf pool14 2 #[] #[] 1537 4 #[] #[])
  fields := #[]
  methods := #[]
  instanceTypes := #[]
  staticTypes := #[]
  resolved := Array.replicate 8 none
  statics := none }

/-- the primitive byte -/
def k15 : Class := { plain "byte" none with kind := .primitive 'B', accessFlags := 0x411 }
/-- [B -/
def k16 : Class := { plain "[B" (some 0) with kind := .array 15 .byte, interfaces := #[14, 2], accessFlags := 1041 }

/-- the primitive char -/
def k17 : Class := { plain "char" none with kind := .primitive 'C', accessFlags := 0x411 }
/-- [C -/
def k18 : Class := { plain "[C" (some 0) with kind := .array 17 .char, interfaces := #[14, 2], accessFlags := 1041 }

/-- the primitive int -/
def k19 : Class := { plain "int" none with kind := .primitive 'I', accessFlags := 0x411 }
/-- [I -/
def k20 : Class := { plain "[I" (some 0) with kind := .array 19 .int, interfaces := #[14, 2], accessFlags := 1041 }

def heap : Heap := #[{ cls := 7, slots := #[.long 0, .int 1, .null, .int 0, .null, .int 0, .int 0], vm := .statics 7 },
  { cls := 12, slots := #[.null, .null, .null], vm := .statics 12 }]
def classes : Array Class := #[k0, k1, k2, k3, k4, k5, k6, k7, k8, k9, k10, k11, k12, k13, k14, k15, k16, k17, k18, k19, k20]
def interned : List (Array UInt16 × Addr) := []
def slotsUsed : Nat := 10
def theMethod : MethodId := ⟨1, 1⟩
def args0 : Array Value := #[.int 5, .int 7, .int 3, .int 9]
def aboutOver (below : List Frame) : State where
  vm := { classes := classes, interned := interned.toArray }
  heap := heap
  slotsUsed := slotsUsed
  threads := #[{ frames := .invoking theMethod args0 :: below }]
def below0 : List Frame := [.native { method := ⟨0, 0⟩, args := #[] }]
def about1 : State := aboutOver below0
def p0 : Program := .bare "" "" ""
def e0 : Env := launch0.env 0 0 0
theorem w_frames : about1.frames = Frame.invoking theMethod args0 :: below0 := rfl
set_option maxRecDepth 65536 in
theorem w_args : argsFit about1.vm theMethod args0 = true := by decide +kernel
set_option maxRecDepth 65536 in
theorem w_heap : heapFits about1 = true := by decide +kernel
set_option maxRecDepth 65536 in
theorem w_runnable : about1.curStatus? = some .runnable := by decide +kernel
set_option maxRecDepth 65536 in
theorem w_alone : about1.alone = true := by decide +kernel
set_option maxRecDepth 65536 in
theorem w_named : about1.methodNamed? x = some theMethod := by decide +kernel
set_option maxRecDepth 65536 in
theorem w_hears : about1.hears theMethod below0 = true := by decide +kernel
set_option maxRecDepth 65536 in
theorem w_ripe : about1.ripe theMethod args0 below0 = true := by decide +kernel
theorem w_running : about1.status = .running := rfl
set_option maxRecDepth 65536 in
theorem w_room : about1.hasRoom e0.platform room_1 = true :=
  launch0.hasRoom_least _ room_1 (by decide +kernel) (by decide +kernel) (by decide +kernel) (by decide +kernel) (by decide +kernel) (by decide +kernel)
theorem allAtoms_all (ts : List Jvm.Cond) (a : Array Jvm.Value) (st : Jvm.State) : (allAtoms ts).before a st = ts.all (fun c => c.before a st) := by
  induction ts with
  | nil => rfl
  | cons c t ih =>
    show (Jvm.Cond.and c (allAtoms t)).before a st = _
    rw [Jvm.Cond.before_and, ih, List.all_cons]
def words1 : List Jvm.Cond := Jvm.Cond.code x code maxLocals ret :: tables_1
/-- a 'code' word, met by the world's own term for the bytes: nothing is compared byte by byte -/
theorem code_word {y : MethodName} {bytes : ByteArray} {mx : Nat} {rt : Option FieldType} {a : Array Value} {s : State} {m : MethodId} {meth : Method} {c : Code} (h1 : s.methodNamed? y = some m) (h2 : s.vm.method? m = some meth) (h3 : meth.code = some c) (h4 : c.code = bytes)
    (h5 : (c.maxLocals == mx && c.exceptionTable.isEmpty && decide (c.maxStack ≤ mostOperands) && decide (meth.sig.returnType = rt) && !meth.locks && decide (parseMethodDescriptor y.desc = some meth.sig)) = true) : (Jvm.Cond.code y bytes mx rt).before a s = true := by
  simp only [Bool.and_eq_true, beq_iff_eq, Bool.not_eq_true', decide_eq_true_eq] at h5
  obtain ⟨⟨⟨⟨⟨g1, g2⟩, g3⟩, g4⟩, g5⟩, g6⟩ := h5
  simp [Cond.before, Cond.holds, Cond.value, h1, h2, h3, h4, g1, g2, g3, g4, g5, g6]
def isCode : Jvm.Cond → Bool
  | .code _ _ _ _ => true
  | _ => false
theorem all_split {L : List Jvm.Cond} {P : Jvm.Cond → Bool} (h1 : L.all (fun c => isCode c || P c) = true) (h2 : ∀ c ∈ L.filter isCode, P c = true) : L.all P = true := by
  refine List.all_eq_true.mpr fun c hc => ?_
  have h := List.all_eq_true.mp h1 c hc
  rcases Bool.eq_false_or_eq_true (isCode c) with hi | hi
  · exact h2 c (List.mem_filter.mpr ⟨hc, hi⟩)
  · simpa [hi] using h
set_option maxRecDepth 65536 in
theorem w_c0 : (Jvm.Cond.code x code maxLocals ret).before args0 about1 = true := code_word (m := ⟨1, 1⟩) (meth := k1m1) (c := k1c1) (by decide +kernel) rfl rfl rfl (by decide +kernel)
set_option maxRecDepth 65536 in
theorem w_c1 : (Jvm.Cond.code ({ cls := "java/lang/String", name := "<init>", desc := "([C)V" } : Jvm.MethodName) jdk_42_method_3_code (2 : Nat) (Option.none : Option Jvm.ClassFile.FieldType)).before args0 about1 = true := code_word (m := ⟨7, 1⟩) (meth := k7m1) (c := k7c1) (by decide +kernel) rfl rfl rfl (by decide +kernel)
set_option maxRecDepth 65536 in
theorem w_c2 : (Jvm.Cond.code ({ cls := "java/lang/String", name := "<init>", desc := "([CIILjava/lang/Void;)V" } : Jvm.MethodName) jdk_42_method_149_code (6 : Nat) (Option.none : Option Jvm.ClassFile.FieldType)).before args0 about1 = true := code_word (m := ⟨7, 3⟩) (meth := k7m3) (c := k7c3) (by decide +kernel) rfl rfl rfl (by decide +kernel)
set_option maxRecDepth 65536 in
theorem w_c3 : (Jvm.Cond.code ({ cls := "java/lang/Object", name := "<init>", desc := "()V" } : Jvm.MethodName) object_method_1_code (1 : Nat) (Option.none : Option Jvm.ClassFile.FieldType)).before args0 about1 = true := code_word (m := ⟨0, 0⟩) (meth := k0m0) (c := k0c0) (by decide +kernel) rfl rfl rfl (by decide +kernel)
set_option maxRecDepth 65536 in
theorem w_c4 : (Jvm.Cond.code ({ cls := "com/example/ordinate/ordinate/client/ServerStatus", name := "<init>", desc := "(Ljava/lang/String;Ljava/util/Map;)V" } : Jvm.MethodName) prog_33_method_1_code (3 : Nat) (Option.none : Option Jvm.ClassFile.FieldType)).before args0 about1 = true := code_word (m := ⟨9, 0⟩) (meth := k9m0) (c := k9c0) (by decide +kernel) rfl rfl rfl (by decide +kernel)
set_option maxRecDepth 65536 in
theorem w_c5 : (Jvm.Cond.code ({ cls := "java/lang/Record", name := "<init>", desc := "()V" } : Jvm.MethodName) jdk_30_method_1_code (1 : Nat) (Option.none : Option Jvm.ClassFile.FieldType)).before args0 about1 = true := code_word (m := ⟨8, 0⟩) (meth := k8m0) (c := k8c0) (by decide +kernel) rfl rfl rfl (by decide +kernel)
set_option maxRecDepth 65536 in
theorem w_c6 : (Jvm.Cond.code ({ cls := "com/example/ordinate/ordinate/client/ServerStatus", name := "isStandby", desc := "()Z" } : Jvm.MethodName) prog_33_method_2_code (1 : Nat) (Option.some Jvm.ClassFile.FieldType.boolean)).before args0 about1 = true := code_word (m := ⟨9, 1⟩) (meth := k9m1) (c := k9c1) (by decide +kernel) rfl rfl rfl (by decide +kernel)
set_option maxRecDepth 65536 in
theorem w_c7 : (Jvm.Cond.code ({ cls := "java/lang/StringUTF16", name := "compress", desc := "([CII)[B" } : Jvm.MethodName) jdk_52_method_16_code (6 : Nat) (Option.some (Jvm.ClassFile.FieldType.array Jvm.ClassFile.FieldType.byte))).before args0 about1 = true := code_word (m := ⟨10, 2⟩) (meth := k10m2) (c := k10c2) (by decide +kernel) rfl rfl rfl (by decide +kernel)
set_option maxRecDepth 65536 in
theorem w_c8 : (Jvm.Cond.code ({ cls := "java/lang/StringUTF16", name := "compress", desc := "([CI[BII)I" } : Jvm.MethodName) jdk_52_method_21_code (7 : Nat) (Option.some Jvm.ClassFile.FieldType.int)).before args0 about1 = true := code_word (m := ⟨10, 3⟩) (meth := k10m3) (c := k10c3) (by decide +kernel) rfl rfl rfl (by decide +kernel)
set_option maxRecDepth 65536 in
theorem w_c9 : (Jvm.Cond.code ({ cls := "java/lang/StringUTF16", name := "coderFromArrayLen", desc := "([BI)B" } : Jvm.MethodName) jdk_52_method_15_code (2 : Nat) (Option.some Jvm.ClassFile.FieldType.byte)).before args0 about1 = true := code_word (m := ⟨10, 1⟩) (meth := k10m1) (c := k10c1) (by decide +kernel) rfl rfl rfl (by decide +kernel)
set_option maxRecDepth 65536 in
theorem w_c10 : (Jvm.Cond.code ({ cls := "java/lang/String", name := "valueOf", desc := "(C)Ljava/lang/String;" } : Jvm.MethodName) jdk_42_method_139_code (1 : Nat) (Option.some (Jvm.ClassFile.FieldType.object "java/lang/String"))).before args0 about1 = true := code_word (m := ⟨7, 2⟩) (meth := k7m2) (c := k7c2) (by decide +kernel) rfl rfl rfl (by decide +kernel)
set_option maxRecDepth 65536 in
theorem w_c11 : (Jvm.Cond.code ({ cls := "java/lang/StringLatin1", name := "canEncode", desc := "(C)Z" } : Jvm.MethodName) jdk_43_method_3_code (1 : Nat) (Option.some Jvm.ClassFile.FieldType.boolean)).before args0 about1 = true := code_word (m := ⟨11, 1⟩) (meth := k11m1) (c := k11c1) (by decide +kernel) rfl rfl rfl (by decide +kernel)
set_option maxRecDepth 65536 in
theorem w_c12 : (Jvm.Cond.code ({ cls := "java/lang/StringLatin1", name := "toBytes", desc := "(C)[B" } : Jvm.MethodName) jdk_43_method_46_code (1 : Nat) (Option.some (Jvm.ClassFile.FieldType.array Jvm.ClassFile.FieldType.byte))).before args0 about1 = true := code_word (m := ⟨11, 2⟩) (meth := k11m2) (c := k11c2) (by decide +kernel) rfl rfl rfl (by decide +kernel)
set_option maxRecDepth 65536 in
theorem w_c13 : (Jvm.Cond.code ({ cls := "java/lang/String", name := "<init>", desc := "([BB)V" } : Jvm.MethodName) jdk_42_method_151_code (3 : Nat) (Option.none : Option Jvm.ClassFile.FieldType)).before args0 about1 = true := code_word (m := ⟨7, 4⟩) (meth := k7m4) (c := k7c4) (by decide +kernel) rfl rfl rfl (by decide +kernel)
def codes1 : List Jvm.Cond := [Jvm.Cond.code x code maxLocals ret, Jvm.Cond.code ({ cls := "java/lang/String", name := "<init>", desc := "([C)V" } : Jvm.MethodName) jdk_42_method_3_code (2 : Nat) (Option.none : Option Jvm.ClassFile.FieldType), Jvm.Cond.code ({ cls := "java/lang/String", name := "<init>", desc := "([CIILjava/lang/Void;)V" } : Jvm.MethodName) jdk_42_method_149_code (6 : Nat) (Option.none : Option Jvm.ClassFile.FieldType), Jvm.Cond.code ({ cls := "java/lang/Object", name := "<init>", desc := "()V" } : Jvm.MethodName) object_method_1_code (1 : Nat) (Option.none : Option Jvm.ClassFile.FieldType), Jvm.Cond.code ({ cls := "com/example/ordinate/ordinate/client/ServerStatus", name := "<init>", desc := "(Ljava/lang/String;Ljava/util/Map;)V" } : Jvm.MethodName) prog_33_method_1_code (3 : Nat) (Option.none : Option Jvm.ClassFile.FieldType), Jvm.Cond.code ({ cls := "java/lang/Record", name := "<init>", desc := "()V" } : Jvm.MethodName) jdk_30_method_1_code (1 : Nat) (Option.none : Option Jvm.ClassFile.FieldType), Jvm.Cond.code ({ cls := "com/example/ordinate/ordinate/client/ServerStatus", name := "isStandby", desc := "()Z" } : Jvm.MethodName) prog_33_method_2_code (1 : Nat) (Option.some Jvm.ClassFile.FieldType.boolean), Jvm.Cond.code ({ cls := "java/lang/StringUTF16", name := "compress", desc := "([CII)[B" } : Jvm.MethodName) jdk_52_method_16_code (6 : Nat) (Option.some (Jvm.ClassFile.FieldType.array Jvm.ClassFile.FieldType.byte)), Jvm.Cond.code ({ cls := "java/lang/StringUTF16", name := "compress", desc := "([CI[BII)I" } : Jvm.MethodName) jdk_52_method_21_code (7 : Nat) (Option.some Jvm.ClassFile.FieldType.int), Jvm.Cond.code ({ cls := "java/lang/StringUTF16", name := "coderFromArrayLen", desc := "([BI)B" } : Jvm.MethodName) jdk_52_method_15_code (2 : Nat) (Option.some Jvm.ClassFile.FieldType.byte), Jvm.Cond.code ({ cls := "java/lang/String", name := "valueOf", desc := "(C)Ljava/lang/String;" } : Jvm.MethodName) jdk_42_method_139_code (1 : Nat) (Option.some (Jvm.ClassFile.FieldType.object "java/lang/String")), Jvm.Cond.code ({ cls := "java/lang/StringLatin1", name := "canEncode", desc := "(C)Z" } : Jvm.MethodName) jdk_43_method_3_code (1 : Nat) (Option.some Jvm.ClassFile.FieldType.boolean), Jvm.Cond.code ({ cls := "java/lang/StringLatin1", name := "toBytes", desc := "(C)[B" } : Jvm.MethodName) jdk_43_method_46_code (1 : Nat) (Option.some (Jvm.ClassFile.FieldType.array Jvm.ClassFile.FieldType.byte)), Jvm.Cond.code ({ cls := "java/lang/String", name := "<init>", desc := "([BB)V" } : Jvm.MethodName) jdk_42_method_151_code (3 : Nat) (Option.none : Option Jvm.ClassFile.FieldType)]
set_option maxRecDepth 65536 in
theorem codes_eq : words1.filter isCode = codes1 := rfl
theorem w_codes : ∀ c ∈ words1.filter isCode, c.before args0 about1 = true := by
  rw [codes_eq]
  intro c hc
  simp only [codes1, List.mem_cons, List.not_mem_nil, or_false] at hc
  rcases hc with rfl | rfl | rfl | rfl | rfl | rfl | rfl | rfl | rfl | rfl | rfl | rfl | rfl | rfl
  · exact w_c0
  · exact w_c1
  · exact w_c2
  · exact w_c3
  · exact w_c4
  · exact w_c5
  · exact w_c6
  · exact w_c7
  · exact w_c8
  · exact w_c9
  · exact w_c10
  · exact w_c11
  · exact w_c12
  · exact w_c13
set_option maxRecDepth 65536 in
theorem w_t1 : (words1.take 24).all (fun c => isCode c || c.before args0 about1) = true := by decide +kernel
set_option maxRecDepth 65536 in
theorem w_t2 : ((words1.drop 24).take 24).all (fun c => isCode c || c.before args0 about1) = true := by decide +kernel
set_option maxRecDepth 65536 in
theorem w_t3 : ((words1.drop 24).drop 24).all (fun c => isCode c || c.before args0 about1) = true := by decide +kernel
theorem w_tables : (allAtoms (Jvm.Cond.code x code maxLocals ret :: tables_1)).before args0 about1 = true := by
  rw [allAtoms_all]
  show words1.all (fun c => c.before args0 about1) = true
  refine all_split ?_ w_codes
  rw [← List.take_append_drop 24 words1, List.all_append, w_t1, ← List.take_append_drop 24 (words1.drop 24), List.all_append, w_t2, w_t3]
  rfl
set_option maxRecDepth 65536 in
theorem w_rest : rest_1_c.before args0 about1 = true := by decide +kernel
set_option maxRecDepth 65536 in
theorem w_case : (Jvm.Cond.and given_1 narrow_1).before args0 about1 = true := by decide +kernel
set_option maxRecDepth 65536 in
theorem w_consts : constsHeld consts_1 about1 := Jvm.Lit.constsHeldB_iff.mp (by decide +kernel)
theorem w_applies : (headSpec (Jvm.Cond.code x code maxLocals ret :: tables_1) room_1).applies x e0.platform about1 = true :=
  (Spec.applies_iff w_frames).mpr ⟨w_running, w_runnable, w_alone, w_named, w_hears, w_ripe, w_room, w_tables⟩
theorem atStart : AtStart classFile x code maxLocals ret World_1 tables_1 room_1 Calls_1 rest_1 Pre_1 launch0 p0 e0 about1 theMethod args0 below0 :=
  ⟨lists_1, trivial, launch0.admits_env _ _ _, launch0.least_env, fairChoices_fair.cas, fairChoices_fair.clock, w_frames, w_args, w_heap, w_applies, ⟨w_consts, trivial⟩, w_rest, w_case⟩
end start1
theorem witness_1 : WitnessClaimed_1 := ⟨start1.p0, start1.e0, start1.about1, start1.theMethod, start1.args0, start1.below0, start1.atStart⟩
end Jvm.Pilot.@@N@@
