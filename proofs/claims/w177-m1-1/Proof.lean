import JvmDerived
import JvmDerived.Pilot.@@N@@Statement
import JvmDerived.Pilot.@@N@@Code
set_option linter.unusedVariables false
set_option linter.unusedSimpArgs false
@@BLOCK:NumsL.lean.txt@@
namespace Jvm.Pilot.@@N@@
open Jvm Jvm.ClassFile Sem Op Lib Jvm.Free Jvm.Stand Jvm.LawKit Jvm.RoadKit Bundle Jvm.Pilot.@@N@@.Jvm.D
theorem own_w {Z : State} {a0 : Array Value} (hw : ∀ d ∈ tables_1, d.before a0 Z = true) (i : Nat) {d : Jvm.Cond} (h : tables_1[i]? = some d) : d.before a0 Z = true := hw _ (List.mem_of_getElem? h)
/-! own layer: a body's rest as one predicate (OFin), a contract (OMet), calls that give the plain facts back -/
def OFin (p : Program) (e : Env) (below : List Frame) (s : State) (kc ks : Nat) (Q : Option Value → Heap → List Loc → Prop) (S : State) : Prop :=
  ∃ s₂ o, Steps p.tables e below S s₂ ∧ s₂.status = .running ∧ Ended s₂ below o ∧ ∃ v L, o = .returned v ∧ Q v s₂.heap L ∧ FrameEnd s o s₂ L kc ks
def OMet (l : Launch) (Z : State) (y : MethodName) (bytes : ByteArray) (maxL : Nat) (ret : Option FieldType) (rm : Room) (as' : Array Value) (h0 : Heap) (Q : Option Value → Heap → List Loc → Prop) : Prop :=
  ∀ ws : List Jvm.Cond, MetFree l y (head1 (Jvm.Cond.code y bytes maxL ret :: ws) rm) (fun a U => a = as' ∧ Z.Warmed39 U.vm ∧ U.heap = h0) (fun _ _ _ _ _ => True) (fun _ U o U' => ∃ v L, o = .returned v ∧ Q v U'.heap L ∧ FrameEnd U o U' L rm.cells rm.slots)
def OCtx (Z : State) (p : Program) (s : State) (m : MethodId) (meth : Method) (c : Code) (cls nam : String) (bytes : ByteArray) (maxL : Nat) (ret : Option FieldType) : Prop :=
  p.tables.exec = Jvm.exec ∧ Z.Warmed39 s.vm ∧ c.code = bytes ∧ c.maxLocals = maxL ∧ s.vm.findClass cls = some m.cls ∧ meth.sig.returnType = ret ∧ meth.locks = false ∧ meth.name = nam
section OwnLayer
variable {p : Program} {l : Launch} {e : Env} {R : Room} {s : State} {m : MethodId} {args : Array Value} {below : List Frame} {meth : Method} {c : Code} {T : State} {locs : List Loc} {cells slots : Nat} {Z : State} {a0 : Array Value} {h : Heap}
variable {kc ks : Nat} {Q : Option Value → Heap → List Loc → Prop}
theorem own_st {A B : State} (hs : ∀ t, Steps p.tables e below B t → Steps p.tables e below A t) (k : OFin p e below s kc ks Q B) : OFin p e below s kc ks Q A := by
  obtain ⟨s₂, o, h1, r⟩ := k; exact ⟨s₂, o, hs _ h1, r⟩
theorem own_at {g g' : JFrame} (q : g = g') (k : OFin p e below s kc ks Q (T.setTop g')) : OFin p e below s kc ks Q (T.setTop g) := q ▸ k
theorem own_mono {Q' : Option Value → Heap → List Loc → Prop} {S : State} (k : OFin p e below s kc ks Q S) (q : ∀ v h L, Q v h L → Q' v h L) : OFin p e below s kc ks Q' S := by
  obtain ⟨s₂, o, h1, h2, h3, v, L, h4, h5, h6⟩ := k; exact ⟨s₂, o, h1, h2, h3, v, L, h4, q _ _ _ h5, h6⟩
theorem own_enter {y : MethodName} {bytes : ByteArray} {maxL : Nat} {ret : Option FieldType} {rm : Room} {as' : Array Value} {h0 : Heap} (hp : plainFor y = true)
    (hB : ∀ (p : Program) (e : Env) (s : State) (m : MethodId) (below : List Frame) (meth : Method) (c : Code) (T : State), Stand p l e rm s m as' below meth c T [] 0 0 → OCtx Z p s m meth c y.cls y.name bytes maxL ret → T.heap = h0 → OFin p e below s rm.cells rm.slots Q (T.setTop (entryFrame m as' maxL))) :
    OMet l Z y bytes maxL ret rm as' h0 Q := by
  intro ws
  refine MetFree.of_bodySF hp hisR ?_
  intro p e s m args below meth c s₁ Bd hml0 hP hK
  obtain ⟨rfl, hZ, hh⟩ := hP
  exact hB p e s m below meth c s₁ (Stand.of_body Bd) ⟨Bd.exec, hZ, Bd.bytes, hml0, findClass_of_methodNamed Bd.named, Bd.returns, BodyLoose.notSynchronized Bd, (name_of_methodNamed Bd.named Bd.method).1⟩ (by rw [← hh, Bd.state]; rfl)
theorem own_ret (X : Stand p l e R s m args below meth c T locs cells slots) (hx : p.tables.exec = Jvm.exec) {t : FieldType} (hret : meth.sig.returnType = some t) (hlk : meth.locks = false) {pc : Nat} {Ls : Array Slot} {w : Value} {i : Instr} {rest : List Value} (hn : narrow t w = w)
    (hi : (i = .ireturn ∧ (t = .int ∨ t = .boolean ∨ t = .byte ∨ t = .char ∨ t = .short) ∧ ∃ z, w = .int z) ∨ (i = .lreturn ∧ t = .long ∧ ∃ z, w = .long z) ∨ (i = .dreturn ∧ t = .double ∧ ∃ z, w = .double z) ∨ (i = .freturn ∧ t = .float ∧ ∃ z, w = .float z) ∨ (i = .areturn ∧ t.isReference = true ∧ w.isRef = true))
    (hd : decode c.code pc = .ok (i, 1)) (hc : cells ≤ kc) (hs : slots ≤ ks) (hq : Q (some w) T.heap locs) : OFin p e below s kc ks Q (T.setTop (mkF m pc Ls (w :: rest))) := by
  obtain ⟨fs, hr, hrun, hended, hW, hsame⟩ := X.leave (v := some w) (fun h => by rw [hret] at h; cases h) hlk
  exact ⟨_, _, retOut X hx hret hn hi hd hr, hrun, hended, _, _, rfl, hq, ⟨_, rfl⟩, hW, hsame.mono hc hs⟩
theorem own_retV (X : Stand p l e R s m args below meth c T locs cells slots) (hx : p.tables.exec = Jvm.exec) (hret : meth.sig.returnType = none) (hlk : meth.locks = false) {pc : Nat} {Ls : Array Slot}
    (hd : decode c.code pc = .ok (.return_, 1)) (hc : cells ≤ kc) (hs : slots ≤ ks) (hq : Q none T.heap locs) : OFin p e below s kc ks Q (T.setTop (mkF m pc Ls [])) := by
  obtain ⟨fs, hr, hrun, hended, hW, hsame⟩ := X.leave (v := none) (fun _ => rfl) hlk
  exact ⟨_, _, X.returnOut hx hret hd hr, hrun, hended, _, _, rfl, hq, ⟨_, rfl⟩, hW, hsame.mono hc hs⟩
theorem own_back {y : MethodName} {bytes : ByteArray} {maxL : Nat} {ret : Option FieldType} {rm : Room} {len W : Nat} {as' : Array Value} (hM : OMet l Z y bytes maxL ret rm as' h Q) (hZ : Z.Warmed39 s.vm) (wc : (Jvm.Cond.code y bytes maxL ret).before a0 Z = true) (wz : (Jvm.Cond.initialized y.cls).before a0 Z = true) (hf : rm.frames + 1 ≤ R.frames) (hl : W + (maxL + 11) + rm.locals ≤ R.locals) :
    Back l R p e below s args y len W (fun A a => a = as' ∧ A.U.heap = h ∧ A.cells + rm.cells ≤ R.cells ∧ A.slots + rm.slots ≤ R.slots)
      (fun A _ v B => ∃ L, Q v B.U.heap L ∧ B.locs = A.locs ++ L ∧ B.cells = A.cells + rm.cells ∧ B.slots = A.slots + rm.slots) := backOf (hM []) hZ wc wz hf hl
theorem own_static (X : Stand p l e R s m args below meth c T locs cells slots) (hx : p.tables.exec = Jvm.exec) (hZ : Z.Warmed39 s.vm) {own : String} {index : Nat} {y : MethodName} {bytes : ByteArray} {maxL : Nat} {ret : Option FieldType} {rm : Room} {W : Nat} {argsL rest : List Value}
    (hown : s.vm.findClass own = some m.cls) (w1 : (Jvm.Cond.methodLink own index y).before a0 Z = true) (w2 : (Jvm.Cond.static y).before a0 Z = true) (wz : (Jvm.Cond.initialized y.cls).before a0 Z = true) (wc : (Jvm.Cond.code y bytes maxL ret).before a0 Z = true)
    (hM : OMet l Z y bytes maxL ret rm argsL.toArray h Q) (eT : T.heap = h) {g : JFrame} (hg : g.method = m) (hsize : g.locals.size = c.maxLocals) (hlen : ∀ sig, parseMethodDescriptor y.desc = some sig → argsL.length = sig.parameters.length)
    (hstack : g.stack = argsL.reverse ++ rest) (hW : 2 * g.monitorRoom + (rest.map fun v => v.category).sum ≤ W) (hdg : decode c.code g.pc = .ok (.invokestatic index, 3))
    (hf : rm.frames + 1 ≤ R.frames) (hl : W + (maxL + 11) + rm.locals ≤ R.locals) (hc : cells + rm.cells ≤ R.cells) (hs : slots + rm.slots ≤ R.slots)
    (hy : y.cls ≠ "java/lang/invoke/MethodHandle" ∧ y.cls ≠ "java/lang/invoke/VarHandle" := by decide) :
    ∃ (v : Option Value) (T' : State) (L : List Loc), Stand p l e R s m args below meth c T' (locs ++ L) (cells + rm.cells) (slots + rm.slots) ∧ Q v T'.heap L ∧
      ∀ target, Steps p.tables e below (T'.setTop { g with pc := g.pc + 3, stack := v.toList ++ rest }) target → Steps p.tables e below (T.setTop g) target := by
  obtain ⟨v, vm₁, ⟨T', L', k', n'⟩, -, X', ⟨L, hQ, l1, y1, z1⟩, st⟩ := Jvm.LawKit.callS X hx hown (mvT hZ w1) (mvT hZ w2) (mvT hZ wz) (mvT hZ wc) hy (own_back (W := W) hM hZ wc wz hf hl) hg hsize hlen hstack hW hdg (fun _ _ => ⟨rfl, eT, hc, hs⟩)
  dsimp only [Pt.U, Pt.locs, Pt.cells, Pt.slots] at X' l1 y1 z1 st hQ
  subst l1 y1 z1
  exact ⟨v, T', L, X', hQ, st⟩
theorem own_init (X : Stand p l e R s m args below meth c T locs cells slots) (hx : p.tables.exec = Jvm.exec) (hZ : Z.Warmed39 s.vm) {own : String} {index : Nat} {y : MethodName} {bytes : ByteArray} {maxL : Nat} {rm : Room} {W : Nat} {a : Addr} {argsL rest : List Value} (hy1 : y.name = "<init>")
    (hown : s.vm.findClass own = some m.cls) (w1 : (Jvm.Cond.methodLink own index y).before a0 Z = true) (w2 : (Jvm.Cond.instanceMethod y).before a0 Z = true) (wz : (Jvm.Cond.initialized y.cls).before a0 Z = true) (wc : (Jvm.Cond.code y bytes maxL none).before a0 Z = true)
    (hM : OMet l Z y bytes maxL none rm (.ref a :: argsL).toArray h Q) (eT : T.heap = h) {g : JFrame} (hg : g.method = m) (hsize : g.locals.size = c.maxLocals) (hlen : ∀ sig, parseMethodDescriptor y.desc = some sig → argsL.length = sig.parameters.length)
    (hstack : g.stack = argsL.reverse ++ .ref a :: rest) (hW : 2 * g.monitorRoom + (rest.map fun v => v.category).sum ≤ W) (hdg : decode c.code g.pc = .ok (.invokespecial index, 3))
    (hf : rm.frames + 1 ≤ R.frames) (hl : W + (maxL + 11) + rm.locals ≤ R.locals) (hc : cells + rm.cells ≤ R.cells) (hs : slots + rm.slots ≤ R.slots)
    (hy : y.cls ≠ "java/lang/invoke/MethodHandle" ∧ y.cls ≠ "java/lang/invoke/VarHandle" := by decide) :
    ∃ (v : Option Value) (T' : State) (L : List Loc), Stand p l e R s m args below meth c T' (locs ++ L) (cells + rm.cells) (slots + rm.slots) ∧ Q v T'.heap L ∧
      ∀ target, Steps p.tables e below (T'.setTop { g with pc := g.pc + 3, stack := v.toList ++ rest }) target → Steps p.tables e below (T.setTop g) target := by
  obtain ⟨v, vm₁, ⟨T', L', k', n'⟩, -, X', ⟨L, hQ, l1, y1, z1⟩, st⟩ := X.specialBack hx hy1 hown (mvT hZ w1) (mvT hZ w2) (mvT hZ wc) hy (own_back (W := W) hM hZ wc wz hf hl) hg hsize (Steps.refl _) hlen hstack hW hdg (fun _ _ => ⟨rfl, eT, hc, hs⟩)
  dsimp only [Pt.U, Pt.locs, Pt.cells, Pt.slots] at X' l1 y1 z1 st hQ
  subst l1 y1 z1
  exact ⟨v, T', L, X', hQ, fun t k => st.trans k⟩
theorem own_virtual (X : Stand p l e R s m args below meth c T locs cells slots) (hx : p.tables.exec = Jvm.exec) (hZ : Z.Warmed39 s.vm) {own C : String} {index : Nat} {y z : MethodName} {bytes : ByteArray} {maxL : Nat} {ret : Option FieldType} {rm : Room} {W : Nat} {a : Addr} {argsL rest : List Value}
    (hown : s.vm.findClass own = some m.cls) (w1 : (Jvm.Cond.methodLink own index y).before a0 Z = true) (w2 : (Jvm.Cond.declares y).before a0 Z = true) (hnf : NotFace s y) (w3 : (Jvm.Cond.selects C y z).before a0 Z = true) (w4 : (Jvm.Cond.instanceMethod z).before a0 Z = true) (wz : (Jvm.Cond.initialized z.cls).before a0 Z = true) (wc : (Jvm.Cond.code z bytes maxL ret).before a0 Z = true)
    (hM : OMet l Z z bytes maxL ret rm (.ref a :: argsL).toArray h Q) (eT : T.heap = h) (E : Exa Z h a C) {g : JFrame} (hg : g.method = m) (hsize : g.locals.size = c.maxLocals) (hlen : ∀ sig, parseMethodDescriptor y.desc = some sig → argsL.length = sig.parameters.length)
    (hstack : g.stack = argsL.reverse ++ .ref a :: rest) (hW : 2 * g.monitorRoom + (rest.map fun v => v.category).sum ≤ W) (hdg : decode c.code g.pc = .ok (.invokevirtual index, 3))
    (hf : rm.frames + 1 ≤ R.frames) (hl : W + (maxL + 11) + rm.locals ≤ R.locals) (hc : cells + rm.cells ≤ R.cells) (hs : slots + rm.slots ≤ R.slots)
    (hy : y.cls ≠ "java/lang/invoke/MethodHandle" ∧ y.cls ≠ "java/lang/invoke/VarHandle" := by decide) :
    ∃ (v : Option Value) (T' : State) (L : List Loc), Stand p l e R s m args below meth c T' (locs ++ L) (cells + rm.cells) (slots + rm.slots) ∧ Q v T'.heap L ∧
      ∀ target, Steps p.tables e below (T'.setTop { g with pc := g.pc + 3, stack := v.toList ++ rest }) target → Steps p.tables e below (T.setTop g) target := by
  obtain ⟨cq, kq, qa, qb, qc⟩ := isOf hZ eT E
  obtain ⟨v, vm₁, ⟨T', L', k', n'⟩, -, X', ⟨L, hQ, l1, y1, z1⟩, st⟩ := X.virtualBack hx hown (mvT hZ w1) (mvT hZ w2) hnf (mvT hZ w3) (mvT hZ w4) hy (own_back (W := W) hM hZ wc wz hf hl) qa qc hg hsize (Steps.refl _) hlen hstack hW hdg (fun _ _ => ⟨rfl, eT, hc, hs⟩)
  dsimp only [Pt.U, Pt.locs, Pt.cells, Pt.slots] at X' l1 y1 z1 st hQ
  subst l1 y1 z1
  exact ⟨v, T', L, X', hQ, fun t k => st.trans k⟩
end OwnLayer
/-! own layer 2: an array as a function of the place -/
def OArr (Z : State) (h : Heap) (a : Addr) (ty : FieldType) (N : Nat) (f : Nat → Value) : Prop := ∃ c : Cell, Arr Z h a c ty ∧ c.slots.size = N ∧ N < 2 ^ 31 ∧ ∀ i, i < N → c.slots[i]? = some (f i)
section OwnArr
variable {Z : State} {h h' : Heap} {a b : Addr} {ty : FieldType} {N : Nat} {f : Nat → Value} {ws : List Addr} {sl : Nat} {v : Value}
theorem OArr.lt (F : OArr Z h a ty N f) : a < h.size := by obtain ⟨c, A, -⟩ := F; exact A.lt
theorem OArr.ext (F : OArr Z h a ty N f) (E : Ext h h') : OArr Z h' a ty N f := by obtain ⟨c, A, r⟩ := F; exact ⟨c, A.ext E, r⟩
theorem OArr.other (F : OArr Z h b ty N f) (W : Wr h h' a sl v) (q : b ≠ a) : OArr Z h' b ty N f := by obtain ⟨c, A, r⟩ := F; exact ⟨c, A.other W q, r⟩
theorem OArr.keep (F : OArr Z h a ty N f) (K : Keep h h' ws) (q : a ∉ ws) : OArr Z h' a ty N f := by obtain ⟨c, A, r⟩ := F; exact ⟨c, ⟨K.2.1 a c A.1 q, A.2⟩, r⟩
theorem OArr.set (F : OArr Z h a ty N f) {j : Nat} (W : Wr h h' a j v) : OArr Z h' a ty N (fun i => if i = j then v else f i) := by
  obtain ⟨c, A, S, B, H⟩ := F
  refine ⟨_, A.same W, by rw [sz_set]; exact S, B, fun i hi => ?_⟩
  show (c.slots.setIfInBounds j v)[i]? = some (if i = j then v else f i)
  by_cases q : i = j
  · subst q; simp [S, hi]
  · rw [Array.getElem?_setIfInBounds_ne (Ne.symm q), if_neg q]; exact H i hi
theorem OArr.setI {g : Nat → Int32} (F : OArr Z h a ty N (fun i => .int (g i))) {j : Nat} {x : Int32} (W : Wr h h' a j (.int x)) : OArr Z h' a ty N (fun i => .int (if i = j then x else g i)) := by
  have q := F.set W
  have e : (fun i => if i = j then Value.int x else Value.int (g i)) = fun i => Value.int (if i = j then x else g i) := by funext i; split <;> rfl
  rw [e] at q; exact q
theorem OArr.setJ {g : Nat → Int64} (F : OArr Z h a ty N (fun i => .long (g i))) {j : Nat} {x : Int64} (W : Wr h h' a j (.long x)) : OArr Z h' a ty N (fun i => .long (if i = j then x else g i)) := by
  have q := F.set W
  have e : (fun i => if i = j then Value.long x else Value.long (g i)) = fun i => Value.long (if i = j then x else g i) := by funext i; split <;> rfl
  rw [e] at q; exact q
theorem own_clamp (z : Int32) : z.toNatClampNeg < 2 ^ 31 := by have := z.toInt_lt; simp only [Int32.toNatClampNeg]; omega
theorem OArr.new {k : ClassId} {z : Int32} (A : Arr Z h a (newA k ty z) ty) (q : z.toNatClampNeg = N) : OArr Z h a ty N (fun _ => defaultValue ty) :=
  ⟨_, A, by rw [sz_new]; exact q, by rw [← q]; exact own_clamp z, fun i hi => by rw [← q] at hi; simp [newA, hi]⟩
theorem OArr.of {k : ClassId} {z : Int32} {vs : List Value} {dv : Value} (A : Arv Z h a k ty z vs dv) (q : z.toNatClampNeg = N) (r : ∀ i, i < N → vs.getD i dv = f i) : OArr Z h a ty N f := by
  obtain ⟨c, A1, -, S, -, H, -⟩ := A
  exact ⟨c, A1, by rw [S]; exact q, by rw [← q]; exact own_clamp z, fun i hi => by rw [← r i hi]; exact H i (by rw [S, q]; exact hi)⟩
theorem OArr.congr {g : Nat → Value} (F : OArr Z h a ty N f) (r : ∀ i, i < N → f i = g i) : OArr Z h a ty N g := by
  obtain ⟨c, A, S, B, H⟩ := F; exact ⟨c, A, S, B, fun i hi => by rw [← r i hi]; exact H i hi⟩
theorem own_inb {c : Cell} {j : Int32} {i : Nat} (S : c.slots.size = N) (h0 : ¬ j < 0) (hj : j.toNatClampNeg = i) (hi : i < N) : ¬ (j < 0 ∨ c.slots.size ≤ j.toNatClampNeg) := by
  rintro (q | q)
  · exact h0 q
  · rw [S, hj] at q; omega
theorem own_hv {c : Cell} {j : Int32} {i : Nat} (H : ∀ i, i < N → c.slots[i]? = some (f i)) (hj : j.toNatClampNeg = i) (hi : i < N) : c.slots[j.toNatClampNeg]? = some (f i) := by rw [hj]; exact H i hi
theorem own_len {c : Cell} {z : Int32} (S : c.slots.size = N) (q : N.toInt32 = z) : c.slots.size.toInt32 = z := by rw [S]; exact q
theorem own_wrj {j : Int32} {i : Nat} (W : Wr h h' a j.toNatClampNeg v) (hj : j.toNatClampNeg = i) : Wr h h' a i v := hj ▸ W
theorem own_nb (x : Int32) : nar .byte (x.toInt8.toInt32) = x.toInt8.toInt32 := by show (x.toInt8.toInt32).toInt8.toInt32 = _; simp
theorem own_nwb (x : Int32) : narrow .byte (.int x.toInt8.toInt32) = .int x.toInt8.toInt32 := by show Value.int ((x.toInt8.toInt32).toInt8.toInt32) = _; simp
end OwnArr
theorem own_pn1 : plainFor (⟨"io/countersign/TimestampFormWriteDigitsPinLaw", "before", "(II)B"⟩ : MethodName) = true := plainFor_of_name (by first | (simp [plainName, overriddenIn]; done) | decide +kernel)
theorem own_ef1_II (m : MethodId) (x0 : Int32) (x1 : Int32) : entryFrame m #[(.int x0), (.int x1)] 2 = mkF m 0 #[.val (.int x0), .val (.int x1)] [] := by first | (simp [entryFrame, mkF, argsToLocals, Value.category]; done) | rfl
theorem own_d1_0 : decode method_3_code 0 = .ok (.iload_n 0, 1) := by decide +kernel
theorem own_d1_1 : decode method_3_code 1 = .ok (.bipush 31, 2) := by decide +kernel
theorem own_d1_3 : decode method_3_code 3 = .ok (.iload_n 1, 1) := by decide +kernel
theorem own_d1_4 : decode method_3_code 4 = .ok (.imul, 1) := by decide +kernel
theorem own_d1_5 : decode method_3_code 5 = .ok (.iadd, 1) := by decide +kernel
theorem own_d1_6 : decode method_3_code 6 = .ok (.i2b, 1) := by decide +kernel
theorem own_d1_7 : decode method_3_code 7 = .ok (.ireturn, 1) := by decide +kernel
theorem own_d2_10 : decode prog_24_method_5_code 10 = .ok (.iload 5, 2) := by decide +kernel
theorem own_d2_12 : decode prog_24_method_5_code 12 = .ok (.iload_n 1, 1) := by decide +kernel
theorem own_d2_13 : decode prog_24_method_5_code 13 = .ok (.if_icmp .lt 29, 3) := by decide +kernel
theorem own_d2_42 : decode prog_24_method_5_code 42 = .ok (.return_, 1) := by decide +kernel
theorem own_d2_16 : decode prog_24_method_5_code 16 = .ok (.aload_n 0, 1) := by decide +kernel
theorem own_d2_17 : decode prog_24_method_5_code 17 = .ok (.iload 5, 2) := by decide +kernel
theorem own_d2_19 : decode prog_24_method_5_code 19 = .ok (.bipush 48, 2) := by decide +kernel
theorem own_d2_21 : decode prog_24_method_5_code 21 = .ok (.iload 4, 2) := by decide +kernel
theorem own_d2_23 : decode prog_24_method_5_code 23 = .ok (.bipush 10, 2) := by decide +kernel
theorem own_d2_25 : decode prog_24_method_5_code 25 = .ok (.irem, 1) := by decide +kernel
theorem own_d2_26 : decode prog_24_method_5_code 26 = .ok (.iadd, 1) := by decide +kernel
theorem own_d2_27 : decode prog_24_method_5_code 27 = .ok (.i2b, 1) := by decide +kernel
theorem own_d2_28 : decode prog_24_method_5_code 28 = .ok (.bastore, 1) := by decide +kernel
theorem own_d2_29 : decode prog_24_method_5_code 29 = .ok (.iload 4, 2) := by decide +kernel
theorem own_d2_31 : decode prog_24_method_5_code 31 = .ok (.bipush 10, 2) := by decide +kernel
theorem own_d2_33 : decode prog_24_method_5_code 33 = .ok (.idiv, 1) := by decide +kernel
theorem own_d2_34 : decode prog_24_method_5_code 34 = .ok (.istore 4, 2) := by decide +kernel
theorem own_d2_36 : decode prog_24_method_5_code 36 = .ok (.iinc 5 (-1), 3) := by decide +kernel
theorem own_d2_39 : decode prog_24_method_5_code 39 = .ok (.goto (-29), 3) := by decide +kernel
theorem own_pn2 : plainFor (⟨"io/countersign/TimestampForm", "writeDigits", "([BIII)V"⟩ : MethodName) = true := plainFor_of_name (by first | (simp [plainName, overriddenIn]; done) | decide +kernel)
theorem own_ef2_RIII (m : MethodId) (x0 : Addr) (x1 : Int32) (x2 : Int32) (x3 : Int32) : entryFrame m #[(.ref x0), (.int x1), (.int x2), (.int x3)] 6 = mkF m 0 #[.val (.ref x0), .val (.int x1), .val (.int x2), .val (.int x3), .unset, .unset] [] := by first | (simp [entryFrame, mkF, argsToLocals, Value.category]; done) | rfl
theorem own_d2_0 : decode prog_24_method_5_code 0 = .ok (.iload_n 3, 1) := by decide +kernel
theorem own_d2_1 : decode prog_24_method_5_code 1 = .ok (.istore 4, 2) := by decide +kernel
theorem own_d2_3 : decode prog_24_method_5_code 3 = .ok (.iload_n 1, 1) := by decide +kernel
theorem own_d2_4 : decode prog_24_method_5_code 4 = .ok (.iload_n 2, 1) := by decide +kernel
theorem own_d2_5 : decode prog_24_method_5_code 5 = .ok (.iadd, 1) := by decide +kernel
theorem own_d2_6 : decode prog_24_method_5_code 6 = .ok (.iconst 1, 1) := by decide +kernel
theorem own_d2_7 : decode prog_24_method_5_code 7 = .ok (.isub, 1) := by decide +kernel
theorem own_d2_8 : decode prog_24_method_5_code 8 = .ok (.istore 5, 2) := by decide +kernel
theorem own_pn3 : plainFor (⟨"io/countersign/TimestampFormWriteDigitsPinLaw", "ok", "([BIIIII)Z"⟩ : MethodName) = true := plainFor_of_name (by first | (simp [plainName, overriddenIn]; done) | decide +kernel)
theorem own_ef3_RIIIII (m : MethodId) (x0 : Addr) (x1 : Int32) (x2 : Int32) (x3 : Int32) (x4 : Int32) (x5 : Int32) : entryFrame m #[(.ref x0), (.int x1), (.int x2), (.int x3), (.int x4), (.int x5)] 9 = mkF m 0 #[.val (.ref x0), .val (.int x1), .val (.int x2), .val (.int x3), .val (.int x4), .val (.int x5), .unset, .unset, .unset] [] := by first | (simp [entryFrame, mkF, argsToLocals, Value.category]; done) | rfl
theorem own_d3_0 : decode method_4_code 0 = .ok (.iload_n 1, 1) := by decide +kernel
theorem own_d3_1 : decode method_4_code 1 = .ok (.iload_n 2, 1) := by decide +kernel
theorem own_d3_2 : decode method_4_code 2 = .ok (.if_icmp .lt 10, 3) := by decide +kernel
theorem own_d3_12 : decode method_4_code 12 = .ok (.iload 5, 2) := by decide +kernel
theorem own_d3_14 : decode method_4_code 14 = .ok (.iload_n 1, 1) := by decide +kernel
theorem own_d3_15 : decode method_4_code 15 = .ok (.invokestatic 8, 3) := by decide +kernel
theorem own_pd0 : parseMethodDescriptor "(II)B" = some ⟨[.int, .int], some .byte⟩ := by decide +kernel
theorem own_d3_18 : decode method_4_code 18 = .ok (.istore 6, 2) := by decide +kernel
theorem own_d3_20 : decode method_4_code 20 = .ok (.goto 108, 3) := by decide +kernel
theorem own_d3_128 : decode method_4_code 128 = .ok (.aload_n 0, 1) := by decide +kernel
theorem own_d3_129 : decode method_4_code 129 = .ok (.iload_n 1, 1) := by decide +kernel
theorem own_d3_130 : decode method_4_code 130 = .ok (.baload, 1) := by decide +kernel
theorem own_d3_131 : decode method_4_code 131 = .ok (.iload 6, 2) := by decide +kernel
theorem own_d3_133 : decode method_4_code 133 = .ok (.if_icmp .ne 7, 3) := by decide +kernel
theorem own_d3_136 : decode method_4_code 136 = .ok (.iconst 1, 1) := by decide +kernel
theorem own_d3_137 : decode method_4_code 137 = .ok (.goto 4, 3) := by decide +kernel
theorem own_d3_141 : decode method_4_code 141 = .ok (.ireturn, 1) := by decide +kernel
theorem own_d3_5 : decode method_4_code 5 = .ok (.iload_n 1, 1) := by decide +kernel
theorem own_d3_6 : decode method_4_code 6 = .ok (.iload_n 2, 1) := by decide +kernel
theorem own_d3_7 : decode method_4_code 7 = .ok (.iload_n 3, 1) := by decide +kernel
theorem own_d3_8 : decode method_4_code 8 = .ok (.iadd, 1) := by decide +kernel
theorem own_d3_9 : decode method_4_code 9 = .ok (.if_icmp .lt 14, 3) := by decide +kernel
theorem own_d3_23 : decode method_4_code 23 = .ok (.iload_n 2, 1) := by decide +kernel
theorem own_d3_24 : decode method_4_code 24 = .ok (.iload_n 3, 1) := by decide +kernel
theorem own_d3_25 : decode method_4_code 25 = .ok (.iadd, 1) := by decide +kernel
theorem own_d3_26 : decode method_4_code 26 = .ok (.iconst 1, 1) := by decide +kernel
theorem own_d3_27 : decode method_4_code 27 = .ok (.isub, 1) := by decide +kernel
theorem own_d3_28 : decode method_4_code 28 = .ok (.iload_n 1, 1) := by decide +kernel
theorem own_d3_29 : decode method_4_code 29 = .ok (.isub, 1) := by decide +kernel
theorem own_d3_30 : decode method_4_code 30 = .ok (.istore 7, 2) := by decide +kernel
theorem own_d3_32 : decode method_4_code 32 = .ok (.bipush 11, 2) := by decide +kernel
theorem own_d3_34 : decode method_4_code 34 = .ok (.newarray .long, 2) := by decide +kernel
theorem own_d3_36 : decode method_4_code 36 = .ok (.dup, 1) := by decide +kernel
theorem own_d3_37 : decode method_4_code 37 = .ok (.iconst 0, 1) := by decide +kernel
theorem own_d3_38 : decode method_4_code 38 = .ok (.lconst 1, 1) := by decide +kernel
theorem own_d3_39 : decode method_4_code 39 = .ok (.lastore, 1) := by decide +kernel
theorem own_d3_40 : decode method_4_code 40 = .ok (.dup, 1) := by decide +kernel
theorem own_d3_41 : decode method_4_code 41 = .ok (.iconst 1, 1) := by decide +kernel
theorem own_d3_42 : decode method_4_code 42 = .ok (.ldc2_w 24, 3) := by decide +kernel
theorem own_d3_45 : decode method_4_code 45 = .ok (.lastore, 1) := by decide +kernel
theorem own_d3_46 : decode method_4_code 46 = .ok (.dup, 1) := by decide +kernel
theorem own_d3_47 : decode method_4_code 47 = .ok (.iconst 2, 1) := by decide +kernel
theorem own_d3_48 : decode method_4_code 48 = .ok (.ldc2_w 26, 3) := by decide +kernel
theorem own_d3_51 : decode method_4_code 51 = .ok (.lastore, 1) := by decide +kernel
theorem own_d3_52 : decode method_4_code 52 = .ok (.dup, 1) := by decide +kernel
theorem own_d3_53 : decode method_4_code 53 = .ok (.iconst 3, 1) := by decide +kernel
theorem own_d3_54 : decode method_4_code 54 = .ok (.ldc2_w 28, 3) := by decide +kernel
theorem own_d3_57 : decode method_4_code 57 = .ok (.lastore, 1) := by decide +kernel
theorem own_d3_58 : decode method_4_code 58 = .ok (.dup, 1) := by decide +kernel
theorem own_d3_59 : decode method_4_code 59 = .ok (.iconst 4, 1) := by decide +kernel
theorem own_d3_60 : decode method_4_code 60 = .ok (.ldc2_w 30, 3) := by decide +kernel
theorem own_d3_63 : decode method_4_code 63 = .ok (.lastore, 1) := by decide +kernel
theorem own_d3_64 : decode method_4_code 64 = .ok (.dup, 1) := by decide +kernel
theorem own_d3_65 : decode method_4_code 65 = .ok (.iconst 5, 1) := by decide +kernel
theorem own_d3_66 : decode method_4_code 66 = .ok (.ldc2_w 32, 3) := by decide +kernel
theorem own_d3_69 : decode method_4_code 69 = .ok (.lastore, 1) := by decide +kernel
theorem own_d3_70 : decode method_4_code 70 = .ok (.dup, 1) := by decide +kernel
theorem own_d3_71 : decode method_4_code 71 = .ok (.bipush 6, 2) := by decide +kernel
theorem own_d3_73 : decode method_4_code 73 = .ok (.ldc2_w 34, 3) := by decide +kernel
theorem own_d3_76 : decode method_4_code 76 = .ok (.lastore, 1) := by decide +kernel
theorem own_d3_77 : decode method_4_code 77 = .ok (.dup, 1) := by decide +kernel
theorem own_d3_78 : decode method_4_code 78 = .ok (.bipush 7, 2) := by decide +kernel
theorem own_d3_80 : decode method_4_code 80 = .ok (.ldc2_w 36, 3) := by decide +kernel
theorem own_d3_83 : decode method_4_code 83 = .ok (.lastore, 1) := by decide +kernel
theorem own_d3_84 : decode method_4_code 84 = .ok (.dup, 1) := by decide +kernel
theorem own_d3_85 : decode method_4_code 85 = .ok (.bipush 8, 2) := by decide +kernel
theorem own_d3_87 : decode method_4_code 87 = .ok (.ldc2_w 38, 3) := by decide +kernel
theorem own_d3_90 : decode method_4_code 90 = .ok (.lastore, 1) := by decide +kernel
theorem own_d3_91 : decode method_4_code 91 = .ok (.dup, 1) := by decide +kernel
theorem own_d3_92 : decode method_4_code 92 = .ok (.bipush 9, 2) := by decide +kernel
theorem own_d3_94 : decode method_4_code 94 = .ok (.ldc2_w 40, 3) := by decide +kernel
theorem own_d3_97 : decode method_4_code 97 = .ok (.lastore, 1) := by decide +kernel
theorem own_d3_98 : decode method_4_code 98 = .ok (.dup, 1) := by decide +kernel
theorem own_d3_99 : decode method_4_code 99 = .ok (.bipush 10, 2) := by decide +kernel
theorem own_d3_101 : decode method_4_code 101 = .ok (.ldc2_w 42, 3) := by decide +kernel
theorem own_d3_104 : decode method_4_code 104 = .ok (.lastore, 1) := by decide +kernel
theorem own_d3_105 : decode method_4_code 105 = .ok (.astore 8, 2) := by decide +kernel
theorem own_d3_107 : decode method_4_code 107 = .ok (.ldc2_w 44, 3) := by decide +kernel
theorem own_d3_110 : decode method_4_code 110 = .ok (.iload 4, 2) := by decide +kernel
theorem own_d3_112 : decode method_4_code 112 = .ok (.i2l, 1) := by decide +kernel
theorem own_d3_113 : decode method_4_code 113 = .ok (.aload 8, 2) := by decide +kernel
theorem own_d3_115 : decode method_4_code 115 = .ok (.iload 7, 2) := by decide +kernel
theorem own_d3_117 : decode method_4_code 117 = .ok (.laload, 1) := by decide +kernel
theorem own_d3_118 : decode method_4_code 118 = .ok (.ldiv, 1) := by decide +kernel
theorem own_d3_119 : decode method_4_code 119 = .ok (.ldc2_w 24, 3) := by decide +kernel
theorem own_d3_122 : decode method_4_code 122 = .ok (.lrem, 1) := by decide +kernel
theorem own_d3_123 : decode method_4_code 123 = .ok (.ladd, 1) := by decide +kernel
theorem own_d3_124 : decode method_4_code 124 = .ok (.l2i, 1) := by decide +kernel
theorem own_d3_125 : decode method_4_code 125 = .ok (.i2b, 1) := by decide +kernel
theorem own_d3_126 : decode method_4_code 126 = .ok (.istore 6, 2) := by decide +kernel
theorem own_pn0 : plainFor (⟨"io/countersign/TimestampFormWriteDigitsPinLaw", "law", "(IIII)Z"⟩ : MethodName) = true := plainFor_of_name (by first | (simp [plainName, overriddenIn]; done) | decide +kernel)
theorem own_ef0_IIII (m : MethodId) (x0 : Int32) (x1 : Int32) (x2 : Int32) (x3 : Int32) : entryFrame m #[(.int x0), (.int x1), (.int x2), (.int x3)] maxLocals = mkF m 0 #[.val (.int x0), .val (.int x1), .val (.int x2), .val (.int x3), .unset, .unset, .unset, .unset] [] := by first | (simp [entryFrame, mkF, argsToLocals, Value.category, maxLocals]; done) | rfl
theorem own_pd1 : parseMethodDescriptor "([BIII)V" = some ⟨[(.array .byte), .int, .int, .int], none⟩ := by decide +kernel
theorem own_pd2 : parseMethodDescriptor "([BIIIII)Z" = some ⟨[(.array .byte), .int, .int, .int, .int, .int], some .boolean⟩ := by decide +kernel
def own_bf (fill pos : Int32) : Int32 := (fill + (31 * pos)).toInt8.toInt32
def own_dg (r : Int32) : Int32 := (48 + (r % 10)).toInt8.toInt32
def own_wr (fb : Nat → Int32) (s : Nat) : Nat → Int32 → Nat → Int32
  | 0, _, i => fb i
  | n + 1, r, i => own_wr (fun i => if i = s + n then own_dg r else fb i) s n (r / 10) i
def own_dv (r : Int32) : Nat → Int32
  | 0 => r
  | k + 1 => own_dv (r / 10) k
theorem own_wr_eq (s : Nat) : ∀ (n : Nat) (fb : Nat → Int32) (r : Int32) (i : Nat), own_wr fb s n r i = if s ≤ i ∧ i < s + n then own_dg (own_dv r (s + n - 1 - i)) else fb i
  | 0, fb, r, i => by
    rw [if_neg (by omega)]; rfl
  | n + 1, fb, r, i => by
    show own_wr (fun i => if i = s + n then own_dg r else fb i) s n (r / 10) i = _
    rw [own_wr_eq s n]
    by_cases h1 : s ≤ i ∧ i < s + n
    · rw [if_pos h1, if_pos (by omega)]
      have e : s + (n + 1) - 1 - i = (s + n - 1 - i) + 1 := by omega
      rw [e]; rfl
    · rw [if_neg h1]
      by_cases h2 : i = s + n
      · subst h2
        rw [if_pos rfl, if_pos (by omega)]
        have e : s + (n + 1) - 1 - (s + n) = 0 := by omega
        rw [e]; rfl
      · rw [if_neg h2, if_neg (by omega)]
theorem own_div10 {r : Int32} (h : 0 ≤ r.toInt) : (r / 10).toInt = r.toInt / 10 := by
  have e : (r / 10).toInt = r.toInt.tdiv (10 : Int32).toInt := Jvm.Kit.i32_div (by intro q; exact absurd q.2 (by decide))
  rw [e]; show r.toInt.tdiv 10 = _; exact Int.tdiv_eq_ediv_of_nonneg h
theorem own_dv_eq : ∀ (k : Nat) (r : Int32), 0 ≤ r.toInt → (own_dv r k).toInt = r.toInt / 10 ^ k
  | 0, r, h => by show r.toInt = _; simp
  | k + 1, r, h => by
    show (own_dv (r / 10) k).toInt = _
    have h1 := own_div10 h
    rw [own_dv_eq k (r / 10) (by rw [h1]; omega), h1, Int.pow_succ', Int.ediv_ediv_of_nonneg (by decide)]
theorem own_mod10 {r : Int32} (h : 0 ≤ r.toInt) : (r % 10).toInt = r.toInt % 10 := by
  rw [Int32.toInt_mod]; show r.toInt.tmod 10 = _; exact Int.tmod_eq_emod_of_nonneg h
def own_p10 (k : Nat) : Int64 := Int64.ofNat (10 ^ k)
def own_dl (v : Int32) (k : Nat) : Int32 := ((48 + ((v.toInt64 / own_p10 k) - ((v.toInt64 / own_p10 k) / 10) * 10))).toInt32.toInt8.toInt32
theorem own_p10_val (k : Nat) (h : k < 11) : (own_p10 k).toInt = 10 ^ k := by
  rcases (by omega : k = 0 ∨ k = 1 ∨ k = 2 ∨ k = 3 ∨ k = 4 ∨ k = 5 ∨ k = 6 ∨ k = 7 ∨ k = 8 ∨ k = 9 ∨ k = 10) with rfl | rfl | rfl | rfl | rfl | rfl | rfl | rfl | rfl | rfl | rfl <;> decide
theorem own_p10_nz (k : Nat) (h : k < 11) : own_p10 k ≠ 0 := fun q => by
  have e := own_p10_val k h
  rw [q] at e
  have h2 : (0 : Int) < 10 ^ k := Int.pow_pos (by decide)
  rw [← e] at h2; exact absurd h2 (by decide)
theorem own_dl_eq {v : Int32} {k : Nat} (hv : 0 ≤ v.toInt) (hk : k < 11) : own_dg (own_dv v k) = own_dl v k := by
  have e1 := own_dv_eq k v hv
  have hp := own_p10_val k hk
  have hp0 : (0 : Int) < 10 ^ k := Int.pow_pos (by decide)
  have hd0 : 0 ≤ v.toInt / 10 ^ k := Int.ediv_nonneg hv (Int.le_of_lt hp0)
  have e2 : (v.toInt64 / own_p10 k).toInt = v.toInt / 10 ^ k := by
    rw [Jvm.Kit.i64_div (by rw [hp]; omega), hp, Jvm.Kit.i64_of_i32]
    exact Int.tdiv_eq_ediv_of_nonneg hv
  show (48 + (own_dv v k % 10)).toInt8.toInt32 = ((48 + ((v.toInt64 / own_p10 k) - ((v.toInt64 / own_p10 k) / 10) * 10))).toInt32.toInt8.toInt32
  generalize v.toInt64 / own_p10 k = w at e2 ⊢
  generalize v.toInt / 10 ^ k = D at *
  have e3 : (w - (w / 10) * 10).toInt = D % 10 := by
    rw [Jvm.Kit.i64_rem w 10, e2]; show D.tmod 10 = _; exact Int.tmod_eq_emod_of_nonneg hd0
  have e4 : (48 + (w - (w / 10) * 10)).toInt = 48 + D % 10 := by
    rw [Jvm.Kit.i64_add (by show _ ≤ 48 + _; omega) (by show 48 + _ < _; omega), e3]; rfl
  have e5 : (48 + (w - (w / 10) * 10)).toInt32.toInt = 48 + D % 10 := by rw [Jvm.Kit.i32_of_i64 (by omega) (by omega), e4]
  have e6 : (own_dv v k % 10).toInt = D % 10 := by rw [own_mod10 (by omega), e1]
  have e7 : (48 + (own_dv v k % 10)).toInt = 48 + D % 10 := by
    rw [Jvm.Kit.i32_add (by show _ ≤ 48 + _; omega) (by show 48 + _ < _; omega), e6]; rfl
  rw [Int32.toInt_inj.mp (e7.trans e5.symm)]
theorem own_m31 (x : Int32) : 0 ≤ (x &&& 2147483647).toInt := by
  have e : (x &&& 2147483647).toInt = x.toInt % 2 ^ 31 := Jvm.Kit.i32_mask x 2147483647 (k := 31) (by decide) (by decide)
  omega
theorem own_rem {a n : Int32} (ha : 0 ≤ a.toInt) (hn : 0 < n.toInt) : 0 ≤ (a % n).toInt ∧ (a % n).toInt < n.toInt := by
  have e : (a % n).toInt = a.toInt % n.toInt := by rw [Int32.toInt_mod]; exact Int.tmod_eq_emod_of_nonneg ha
  have h1 := Int.emod_nonneg a.toInt (show n.toInt ≠ 0 by omega)
  have h2 := Int.emod_lt_of_pos a.toInt hn
  rw [e]; exact ⟨h1, h2⟩
theorem own_cnt (x : Int32) : 0 ≤ ((x &&& 2147483647) % 12).toInt ∧ ((x &&& 2147483647) % 12).toInt < 12 := own_rem (own_m31 x) (by decide)
theorem own_13 {c : Int32} (h : 0 ≤ c.toInt ∧ c.toInt < 12) : (13 - c).toInt = 13 - c.toInt := by
  have e13 : (13 : Int32).toInt = 13 := rfl
  exact Jvm.Kit.i32_sub (by omega) (by omega)
theorem own_13z {c : Int32} (h : 0 ≤ c.toInt ∧ c.toInt < 12) : 13 - c ≠ 0 := fun q => by
  have e := own_13 h
  rw [q] at e; have : (0 : Int32).toInt = 0 := rfl; omega
theorem own_str (x : Int32) {c : Int32} (h : 0 ≤ c.toInt ∧ c.toInt < 12) : 0 ≤ ((x &&& 2147483647) % (13 - c)).toInt ∧ ((x &&& 2147483647) % (13 - c)).toInt + c.toInt ≤ 12 := by
  have e := own_13 h
  have := own_rem (own_m31 x) (n := 13 - c) (by omega)
  omega
theorem own_cl {j : Int32} {i : Nat} (h : j.toInt = i) : ¬ j < 0 ∧ j.toNatClampNeg = i := by
  constructor
  · rw [Int32.lt_iff_toInt_lt, h]; show ¬ (i : Int) < 0; omega
  · simp only [Int32.toNatClampNeg, h]; omega
theorem own_lt {a b : Int32} : a < b ↔ a.toInt < b.toInt := Int32.lt_iff_toInt_lt
theorem own_dec (i : Int32) (sn n : Nat) (hi : i.toInt = sn + (n + 1 : Nat) - 1) (hsum : sn + (n + 1) ≤ 12) : ∃ z : Int32, i + (-1 : Int32) = z ∧ z.toInt = i.toInt - 1 := by
  refine ⟨_, rfl, ?_⟩
  have e : (-1 : Int32).toInt = -1 := rfl
  rw [Jvm.Kit.i32_add (by rw [e]; omega) (by rw [e]; omega), e]
  omega
set_option maxRecDepth 65536 in
set_option maxHeartbeats 40000000 in
theorem rmB (l : Launch) (Z : State) (a0 : Array Value) (hw : ∀ d ∈ tables_1, d.before a0 Z = true) (p1 : Int32) (p2 : Int32) (h0 : Heap)  :
    OMet l Z (⟨"io/countersign/TimestampFormWriteDigitsPinLaw", "before", "(II)B"⟩ : MethodName) method_3_code 2 (some .byte) (⟨0, 0, 0, 0⟩ : Room) #[(.int p1), (.int p2)] h0 (fun v h L => v = some (.int (own_bf p1 p2)) ∧ h = h0 ∧ L = []) := by
  refine own_enter own_pn1 ?_
  intro p e s m below meth c T0 X0 hC e0
  obtain ⟨hx, hZ, hby, hml, hown, hret, hlk, hnm⟩ := hC
  have hown : s.vm.findClass "io/countersign/TimestampFormWriteDigitsPinLaw" = some m.cls := hown
  refine own_at (own_ef1_II m p1 p2) ?_
  show OFin p e below s _ _ _ (T0.setTop (mkF m 0 #[.val (.int p1), .val (.int p2)] []))
  refine own_st (fun _ kS => XS.iloadN X0.here hx rfl (hb hby own_d1_0) rfl kS) ?_
  show OFin p e below s _ _ _ (T0.setTop (mkF m 1 #[.val (.int p1), .val (.int p2)] [(.int p1)]))
  refine own_st (fun _ kS => XS.bipush X0.here hx rfl (hb hby own_d1_1) kS) ?_
  show OFin p e below s _ _ _ (T0.setTop (mkF m 3 #[.val (.int p1), .val (.int p2)] [(.int (31 : Int32)), (.int p1)]))
  refine own_st (fun _ kS => XS.iloadN X0.here hx rfl (hb hby own_d1_3) rfl kS) ?_
  show OFin p e below s _ _ _ (T0.setTop (mkF m 4 #[.val (.int p1), .val (.int p2)] [(.int p2), (.int (31 : Int32)), (.int p1)]))
  refine own_st (fun _ kS => XS.imul X0.here hx rfl (hb hby own_d1_4) rfl kS) ?_
  show OFin p e below s _ _ _ (T0.setTop (mkF m 5 #[.val (.int p1), .val (.int p2)] [(.int ((31 : Int32) * p2)), (.int p1)]))
  refine own_st (fun _ kS => XS.iadd X0.here hx rfl (hb hby own_d1_5) rfl kS) ?_
  show OFin p e below s _ _ _ (T0.setTop (mkF m 6 #[.val (.int p1), .val (.int p2)] [(.int (p1 + ((31 : Int32) * p2)))]))
  refine own_st (fun _ kS => XS.i2b X0.here hx rfl (hb hby own_d1_6) rfl kS) ?_
  show OFin p e below s _ _ _ (T0.setTop (mkF m 7 #[.val (.int p1), .val (.int p2)] [(.int ((p1 + ((31 : Int32) * p2)).toInt8.toInt32))]))
  exact own_ret X0 hx (t := .byte) hret hlk (own_nwb _) (Or.inl ⟨rfl, by simp, _, rfl⟩) (hb hby own_d1_7) (by decide) (by decide) ⟨rfl, e0, rfl⟩
set_option maxRecDepth 65536 in
set_option maxHeartbeats 40000000 in
theorem lpW {l : Launch} {Z : State} {a0 : Array Value} (hw : ∀ d ∈ tables_1, d.before a0 Z = true) {p : Program} {e : Env} {s : State} {m : MethodId} {args : Array Value} {below : List Frame} {meth : Method} {c : Code} (hC : OCtx Z p s m meth c "io/countersign/TimestampForm" "writeDigits" prog_24_method_5_code 6 none) {Q : Option Value → Heap → List Loc → Prop} (a : Addr) (p1 p2 p3 : Int32) (sn n0 : Nat) (hI : Heap) (hs : p1.toInt = sn) (g_a : n0 ≤ a) :
    ∀ (n : Nat) {T0 : State} {locs : List Loc} {cells slots : Nat} (X0 : Stand p l e (⟨0, 0, 0, 0⟩ : Room) s m args below meth c T0 locs cells slots) {h0 : Heap} (e0 : T0.heap = h0) (rem i : Int32) (fb : Nat → Int32) (hi : i.toInt = sn + n - 1) (hsum : sn + n ≤ 12) (hr : 0 ≤ rem.toInt) (F0 : OArr Z h0 a .byte 12 (fun i => .int (fb i))) (kp0 : Keep hI h0 [a]) (N0 : Fr n0 locs) (hcs : cells ≤ 0) (hss : slots ≤ 0) (hQ : ∀ h L, Fr n0 L → Keep hI h [a] → OArr Z h a .byte 12 (fun j => .int (own_wr fb sn n rem j)) → Q none h L), OFin p e below s 0 0 Q (T0.setTop (mkF m 10 #[.val (.ref a), .val (.int p1), .val (.int p2), .val (.int p3), .val (.int rem), .val (.int i)] [])) := by
  have hC0 := hC
  obtain ⟨hx, hZ, hby, hml, hown, hret, hlk, hnm⟩ := hC
  intro n
  induction n with
  | zero =>
    intro T0 locs cells slots X0 h0 e0 rem i fb hi hsum hr F0 kp0 N0 hcs hss hQ
    show OFin p e below s _ _ _ (T0.setTop (mkF m 10 #[.val (.ref a), .val (.int p1), .val (.int p2), .val (.int p3), .val (.int rem), .val (.int i)] []))
    refine own_st (fun _ kS => XS.iload X0.here hx rfl (hb hby own_d2_10) rfl kS) ?_
    show OFin p e below s _ _ _ (T0.setTop (mkF m 12 #[.val (.ref a), .val (.int p1), .val (.int p2), .val (.int p3), .val (.int rem), .val (.int i)] [(.int i)]))
    refine own_st (fun _ kS => XS.iloadN X0.here hx rfl (hb hby own_d2_12) rfl kS) ?_
    show OFin p e below s _ _ _ (T0.setTop (mkF m 13 #[.val (.ref a), .val (.int p1), .val (.int p2), .val (.int p3), .val (.int rem), .val (.int i)] [(.int p1), (.int i)]))
    have c1 : i < p1 := by rw [own_lt]; omega
    refine own_st (fun _ kS => XS.icmpYes X0.here hx rfl (pc0 := 13) (pc' := 42) rfl (hb hby own_d2_13) rfl (tlt c1).1 (by decide) (by decide) kS) ?_
    show OFin p e below s _ _ _ (T0.setTop (mkF m 42 #[.val (.ref a), .val (.int p1), .val (.int p2), .val (.int p3), .val (.int rem), .val (.int i)] []))
    exact own_retV X0 hx hret hlk (hb hby own_d2_42) hcs hss (hQ _ _ N0 (by rw [e0]; exact kp0) (by rw [e0]; exact F0))
  | succ n ih =>
    intro T0 locs cells slots X0 h0 e0 rem i fb hi hsum hr F0 kp0 N0 hcs hss hQ
    show OFin p e below s _ _ _ (T0.setTop (mkF m 10 #[.val (.ref a), .val (.int p1), .val (.int p2), .val (.int p3), .val (.int rem), .val (.int i)] []))
    refine own_st (fun _ kS => XS.iload X0.here hx rfl (hb hby own_d2_10) rfl kS) ?_
    show OFin p e below s _ _ _ (T0.setTop (mkF m 12 #[.val (.ref a), .val (.int p1), .val (.int p2), .val (.int p3), .val (.int rem), .val (.int i)] [(.int i)]))
    refine own_st (fun _ kS => XS.iloadN X0.here hx rfl (hb hby own_d2_12) rfl kS) ?_
    show OFin p e below s _ _ _ (T0.setTop (mkF m 13 #[.val (.ref a), .val (.int p1), .val (.int p2), .val (.int p3), .val (.int rem), .val (.int i)] [(.int p1), (.int i)]))
    have c1 : ¬ i < p1 := by rw [own_lt]; omega
    refine own_st (fun _ kS => XS.icmpNo X0.here hx rfl (hb hby own_d2_13) rfl (flt c1).1 kS) ?_
    show OFin p e below s _ _ _ (T0.setTop (mkF m 16 #[.val (.ref a), .val (.int p1), .val (.int p2), .val (.int p3), .val (.int rem), .val (.int i)] []))
    refine own_st (fun _ kS => XS.aloadN X0.here hx rfl (hb hby own_d2_16) rfl rfl kS) ?_
    show OFin p e below s _ _ _ (T0.setTop (mkF m 17 #[.val (.ref a), .val (.int p1), .val (.int p2), .val (.int p3), .val (.int rem), .val (.int i)] [(.ref a)]))
    refine own_st (fun _ kS => XS.iload X0.here hx rfl (hb hby own_d2_17) rfl kS) ?_
    show OFin p e below s _ _ _ (T0.setTop (mkF m 19 #[.val (.ref a), .val (.int p1), .val (.int p2), .val (.int p3), .val (.int rem), .val (.int i)] [(.int i), (.ref a)]))
    refine own_st (fun _ kS => XS.bipush X0.here hx rfl (hb hby own_d2_19) kS) ?_
    show OFin p e below s _ _ _ (T0.setTop (mkF m 21 #[.val (.ref a), .val (.int p1), .val (.int p2), .val (.int p3), .val (.int rem), .val (.int i)] [(.int (48 : Int32)), (.int i), (.ref a)]))
    refine own_st (fun _ kS => XS.iload X0.here hx rfl (hb hby own_d2_21) rfl kS) ?_
    show OFin p e below s _ _ _ (T0.setTop (mkF m 23 #[.val (.ref a), .val (.int p1), .val (.int p2), .val (.int p3), .val (.int rem), .val (.int i)] [(.int rem), (.int (48 : Int32)), (.int i), (.ref a)]))
    refine own_st (fun _ kS => XS.bipush X0.here hx rfl (hb hby own_d2_23) kS) ?_
    show OFin p e below s _ _ _ (T0.setTop (mkF m 25 #[.val (.ref a), .val (.int p1), .val (.int p2), .val (.int p3), .val (.int rem), .val (.int i)] [(.int (10 : Int32)), (.int rem), (.int (48 : Int32)), (.int i), (.ref a)]))
    refine own_st (fun _ kS => iremM (g := (mkF m 25 #[.val (.ref a), .val (.int p1), .val (.int p2), .val (.int p3), .val (.int rem), .val (.int i)] [(.int (10 : Int32)), (.int rem), (.int (48 : Int32)), (.int i), (.ref a)])) X0 hx rfl (hb hby own_d2_25) rfl (by decide) kS) ?_
    show OFin p e below s _ _ _ (T0.setTop (mkF m 26 #[.val (.ref a), .val (.int p1), .val (.int p2), .val (.int p3), .val (.int rem), .val (.int i)] [(.int (rem % (10 : Int32))), (.int (48 : Int32)), (.int i), (.ref a)]))
    refine own_st (fun _ kS => XS.iadd X0.here hx rfl (hb hby own_d2_26) rfl kS) ?_
    show OFin p e below s _ _ _ (T0.setTop (mkF m 27 #[.val (.ref a), .val (.int p1), .val (.int p2), .val (.int p3), .val (.int rem), .val (.int i)] [(.int ((48 : Int32) + (rem % (10 : Int32)))), (.int i), (.ref a)]))
    refine own_st (fun _ kS => XS.i2b X0.here hx rfl (hb hby own_d2_27) rfl kS) ?_
    show OFin p e below s _ _ _ (T0.setTop (mkF m 28 #[.val (.ref a), .val (.int p1), .val (.int p2), .val (.int p3), .val (.int rem), .val (.int i)] [(.int (((48 : Int32) + (rem % (10 : Int32))).toInt8.toInt32)), (.int i), (.ref a)]))
    obtain ⟨q0, q1⟩ := own_cl (j := i) (i := sn + n) (by omega)
    obtain ⟨cl1, Ar1, S1, B1, H1⟩ := id F0
    obtain ⟨T1, h1, X1, e1, W1, st1⟩ := stB X0 hx hZ e0 Ar1 (j := i) (own_inb S1 q0 q1 (by omega)) (g := (mkF m 28 #[.val (.ref a), .val (.int p1), .val (.int p2), .val (.int p3), .val (.int rem), .val (.int i)] [(.int (((48 : Int32) + (rem % (10 : Int32))).toInt8.toInt32)), (.int i), (.ref a)])) rfl rfl (hb hby own_d2_28)
    rw [own_nb] at W1
    have V1 := own_wrj W1 q1
    have f2 := (F0).setI V1
    have fr1 := Fr.snoc X1 N0 g_a
    clear N0
    have kp1 := kp0.wr W1 (Or.inl (List.mem_of_getElem? (i := 0) rfl))
    clear kp0
    refine own_st (st1) ?_
    clear st1 X0 e0 W1 V1 Ar1 S1 B1 H1
    show OFin p e below s _ _ _ (T1.setTop (mkF m 29 #[.val (.ref a), .val (.int p1), .val (.int p2), .val (.int p3), .val (.int rem), .val (.int i)] []))
    refine own_st (fun _ kS => XS.iload X1.here hx rfl (hb hby own_d2_29) rfl kS) ?_
    show OFin p e below s _ _ _ (T1.setTop (mkF m 31 #[.val (.ref a), .val (.int p1), .val (.int p2), .val (.int p3), .val (.int rem), .val (.int i)] [(.int rem)]))
    refine own_st (fun _ kS => XS.bipush X1.here hx rfl (hb hby own_d2_31) kS) ?_
    show OFin p e below s _ _ _ (T1.setTop (mkF m 33 #[.val (.ref a), .val (.int p1), .val (.int p2), .val (.int p3), .val (.int rem), .val (.int i)] [(.int (10 : Int32)), (.int rem)]))
    refine own_st (fun _ kS => XS.idiv X1.here hx rfl (hb hby own_d2_33) rfl (by decide) kS) ?_
    show OFin p e below s _ _ _ (T1.setTop (mkF m 34 #[.val (.ref a), .val (.int p1), .val (.int p2), .val (.int p3), .val (.int rem), .val (.int i)] [(.int (rem / (10 : Int32)))]))
    refine own_st (fun _ kS => XS.istore X1.here hx rfl (hb hby own_d2_34) rfl (l' := #[.val (.ref a), .val (.int p1), .val (.int p2), .val (.int p3), .val (.int (rem / (10 : Int32))), .val (.int i)]) rfl kS) ?_
    show OFin p e below s _ _ _ (T1.setTop (mkF m 36 #[.val (.ref a), .val (.int p1), .val (.int p2), .val (.int p3), .val (.int (rem / (10 : Int32))), .val (.int i)] []))
    refine own_st (fun _ kS => XS.iinc X1.here hx rfl (hb hby own_d2_36) rfl (l' := #[.val (.ref a), .val (.int p1), .val (.int p2), .val (.int p3), .val (.int (rem / (10 : Int32))), .val (.int (i + (-1 : Int32)))]) rfl kS) ?_
    show OFin p e below s _ _ _ (T1.setTop (mkF m 39 #[.val (.ref a), .val (.int p1), .val (.int p2), .val (.int p3), .val (.int (rem / (10 : Int32))), .val (.int (i + (-1 : Int32)))] []))
    refine own_st (fun _ kS => XS.goto X1.here hx rfl (pc0 := 39) (pc' := 10) rfl (hb hby own_d2_39) (by decide) (by decide) kS) ?_
    show OFin p e below s _ _ _ (T1.setTop (mkF m 10 #[.val (.ref a), .val (.int p1), .val (.int p2), .val (.int p3), .val (.int (rem / (10 : Int32))), .val (.int (i + (-1 : Int32)))] []))
    have hr1 := own_div10 hr
    obtain ⟨i', ei', hi1⟩ := own_dec i sn n hi hsum
    rw [ei']
    show OFin p e below s _ _ _ (T1.setTop (mkF m 10 #[.val (.ref a), .val (.int p1), .val (.int p2), .val (.int p3), .val (.int (rem / (10 : Int32))), .val (.int i')] []))
    exact ih X1 e1 _ _ _ (by omega) (by omega) (by omega) f2 kp1 fr1 hcs hss hQ
set_option maxRecDepth 65536 in
set_option maxHeartbeats 40000000 in
theorem rmW (l : Launch) (Z : State) (a0 : Array Value) (hw : ∀ d ∈ tables_1, d.before a0 Z = true) (a : Addr) (p1 : Int32) (p2 : Int32) (p3 : Int32) (h0 : Heap) (n0 sn cn : Nat) (fb : Nat → Int32) (hs : p1.toInt = sn) (hc : p2.toInt = cn) (hsum : sn + cn ≤ 12) (hv : 0 ≤ p3.toInt) (F0 : OArr Z h0 a .byte 12 (fun i => .int (fb i))) (g_a : n0 ≤ a) :
    OMet l Z (⟨"io/countersign/TimestampForm", "writeDigits", "([BIII)V"⟩ : MethodName) prog_24_method_5_code 6 none (⟨0, 0, 0, 0⟩ : Room) #[(.ref a), (.int p1), (.int p2), (.int p3)] h0 (fun v h L => v = none ∧ Fr n0 L ∧ Keep h0 h [a] ∧ OArr Z h a .byte 12 (fun i => .int (own_wr fb sn cn p3 i))) := by
  refine own_enter own_pn2 ?_
  intro p e s m below meth c T0 X0 hC e0
  obtain ⟨hx, hZ, hby, hml, hown, hret, hlk, hnm⟩ := hC
  have hown : s.vm.findClass "io/countersign/TimestampForm" = some m.cls := hown
  refine own_at (own_ef2_RIII m a p1 p2 p3) ?_
  show OFin p e below s _ _ _ (T0.setTop (mkF m 0 #[.val (.ref a), .val (.int p1), .val (.int p2), .val (.int p3), .unset, .unset] []))
  have hC0 : OCtx Z p s m meth c "io/countersign/TimestampForm" "writeDigits" prog_24_method_5_code 6 none := ⟨hx, hZ, hby, hml, hown, hret, hlk, hnm⟩
  refine own_st (fun _ kS => XS.iloadN X0.here hx rfl (hb hby own_d2_0) rfl kS) ?_
  show OFin p e below s _ _ _ (T0.setTop (mkF m 1 #[.val (.ref a), .val (.int p1), .val (.int p2), .val (.int p3), .unset, .unset] [(.int p3)]))
  refine own_st (fun _ kS => XS.istore X0.here hx rfl (hb hby own_d2_1) rfl (l' := #[.val (.ref a), .val (.int p1), .val (.int p2), .val (.int p3), .val (.int p3), .unset]) rfl kS) ?_
  show OFin p e below s _ _ _ (T0.setTop (mkF m 3 #[.val (.ref a), .val (.int p1), .val (.int p2), .val (.int p3), .val (.int p3), .unset] []))
  refine own_st (fun _ kS => XS.iloadN X0.here hx rfl (hb hby own_d2_3) rfl kS) ?_
  show OFin p e below s _ _ _ (T0.setTop (mkF m 4 #[.val (.ref a), .val (.int p1), .val (.int p2), .val (.int p3), .val (.int p3), .unset] [(.int p1)]))
  refine own_st (fun _ kS => XS.iloadN X0.here hx rfl (hb hby own_d2_4) rfl kS) ?_
  show OFin p e below s _ _ _ (T0.setTop (mkF m 5 #[.val (.ref a), .val (.int p1), .val (.int p2), .val (.int p3), .val (.int p3), .unset] [(.int p2), (.int p1)]))
  refine own_st (fun _ kS => XS.iadd X0.here hx rfl (hb hby own_d2_5) rfl kS) ?_
  show OFin p e below s _ _ _ (T0.setTop (mkF m 6 #[.val (.ref a), .val (.int p1), .val (.int p2), .val (.int p3), .val (.int p3), .unset] [(.int (p1 + p2))]))
  refine own_st (fun _ kS => XS.iconst X0.here hx rfl (hb hby own_d2_6) kS) ?_
  show OFin p e below s _ _ _ (T0.setTop (mkF m 7 #[.val (.ref a), .val (.int p1), .val (.int p2), .val (.int p3), .val (.int p3), .unset] [(.int (1 : Int32)), (.int (p1 + p2))]))
  refine own_st (fun _ kS => XS.isub X0.here hx rfl (hb hby own_d2_7) rfl kS) ?_
  show OFin p e below s _ _ _ (T0.setTop (mkF m 8 #[.val (.ref a), .val (.int p1), .val (.int p2), .val (.int p3), .val (.int p3), .unset] [(.int ((p1 + p2) - (1 : Int32)))]))
  refine own_st (fun _ kS => XS.istore X0.here hx rfl (hb hby own_d2_8) rfl (l' := #[.val (.ref a), .val (.int p1), .val (.int p2), .val (.int p3), .val (.int p3), .val (.int ((p1 + p2) - (1 : Int32)))]) rfl kS) ?_
  show OFin p e below s _ _ _ (T0.setTop (mkF m 10 #[.val (.ref a), .val (.int p1), .val (.int p2), .val (.int p3), .val (.int p3), .val (.int ((p1 + p2) - (1 : Int32)))] []))
  have e1 : (p1 + p2).toInt = p1.toInt + p2.toInt := Jvm.Kit.i32_add (by omega) (by omega)
  have e2 : (p1 + p2 - 1).toInt = (p1 + p2).toInt - 1 := Jvm.Kit.i32_sub (by show _ ≤ _ - 1; omega) (by show _ - 1 < _; omega)
  exact lpW hw hC0 a p1 p2 p3 sn n0 h0 hs g_a cn X0 e0 _ _ fb (by omega) hsum hv F0 (Keep.refl h0 [a]) (Fr.nil n0) (by decide) (by decide) (fun _ _ q1 q2 q3 => ⟨rfl, q1, q2, q3⟩)
set_option maxRecDepth 65536 in
set_option maxHeartbeats 40000000 in
theorem rmO (l : Launch) (Z : State) (a0 : Array Value) (hw : ∀ d ∈ tables_1, d.before a0 Z = true) (a : Addr) (p1 : Int32) (p2 : Int32) (p3 : Int32) (p4 : Int32) (p5 : Int32) (h0 : Heap) (n0 : Nat) (Z0 : n0 ≤ h0.size) (fb : Nat → Int32) (pn : Nat) (F0 : OArr Z h0 a .byte 12 (fun i => .int (fb i))) (hp : p1.toInt = pn) (hpn : pn < 12) (hX : (p1 < p2 ∨ ¬ p1 < p2 + p3) → fb pn = own_bf p5 p1) (hY : ¬ p1 < p2 → p1 < p2 + p3 → ∃ kn : Nat, kn < 11 ∧ (p2 + p3 - 1 - p1).toInt = kn ∧ fb pn = own_dl p4 kn) :
    OMet l Z (⟨"io/countersign/TimestampFormWriteDigitsPinLaw", "ok", "([BIIIII)Z"⟩ : MethodName) method_4_code 9 (some .boolean) (⟨1, 1, 11, 13⟩ : Room) #[(.ref a), (.int p1), (.int p2), (.int p3), (.int p4), (.int p5)] h0 (fun v h L => v = some (.int (1 : Int32)) ∧ Fr n0 L ∧ Keep h0 h []) := by
  refine own_enter own_pn3 ?_
  intro p e s m below meth c T0 X0 hC e0
  obtain ⟨hx, hZ, hby, hml, hown, hret, hlk, hnm⟩ := hC
  have hown : s.vm.findClass "io/countersign/TimestampFormWriteDigitsPinLaw" = some m.cls := hown
  refine own_at (own_ef3_RIIIII m a p1 p2 p3 p4 p5) ?_
  show OFin p e below s _ _ _ (T0.setTop (mkF m 0 #[.val (.ref a), .val (.int p1), .val (.int p2), .val (.int p3), .val (.int p4), .val (.int p5), .unset, .unset, .unset] []))
  have N0 := Fr.nil n0
  have kp0 := Keep.refl h0 []
  obtain ⟨q0, q1⟩ := own_cl hp
  refine own_st (fun _ kS => XS.iloadN X0.here hx rfl (hb hby own_d3_0) rfl kS) ?_
  show OFin p e below s _ _ _ (T0.setTop (mkF m 1 #[.val (.ref a), .val (.int p1), .val (.int p2), .val (.int p3), .val (.int p4), .val (.int p5), .unset, .unset, .unset] [(.int p1)]))
  refine own_st (fun _ kS => XS.iloadN X0.here hx rfl (hb hby own_d3_1) rfl kS) ?_
  show OFin p e below s _ _ _ (T0.setTop (mkF m 2 #[.val (.ref a), .val (.int p1), .val (.int p2), .val (.int p3), .val (.int p4), .val (.int p5), .unset, .unset, .unset] [(.int p2), (.int p1)]))
  by_cases c1 : p1 < p2
  · refine own_st (fun _ kS => XS.icmpYes X0.here hx rfl (pc0 := 2) (pc' := 12) rfl (hb hby own_d3_2) rfl (tlt c1).1 (by decide) (by decide) kS) ?_
    show OFin p e below s _ _ _ (T0.setTop (mkF m 12 #[.val (.ref a), .val (.int p1), .val (.int p2), .val (.int p3), .val (.int p4), .val (.int p5), .unset, .unset, .unset] []))
    refine own_st (fun _ kS => XS.iload X0.here hx rfl (hb hby own_d3_12) rfl kS) ?_
    show OFin p e below s _ _ _ (T0.setTop (mkF m 14 #[.val (.ref a), .val (.int p1), .val (.int p2), .val (.int p3), .val (.int p4), .val (.int p5), .unset, .unset, .unset] [(.int p5)]))
    refine own_st (fun _ kS => XS.iloadN X0.here hx rfl (hb hby own_d3_14) rfl kS) ?_
    show OFin p e below s _ _ _ (T0.setTop (mkF m 15 #[.val (.ref a), .val (.int p1), .val (.int p2), .val (.int p3), .val (.int p4), .val (.int p5), .unset, .unset, .unset] [(.int p1), (.int p5)]))
    obtain ⟨v4, T4, L4, X4, hQ4, st4⟩ := own_static X0 hx hZ (y := (⟨"io/countersign/TimestampFormWriteDigitsPinLaw", "before", "(II)B"⟩ : MethodName)) (rm := ⟨0, 0, 0, 0⟩) (W := 0) (argsL := [(.int p5), (.int p1)]) (rest := []) hown (own_w hw 2 rfl) (own_w hw 3 rfl) (own_w hw 4 rfl) (own_w hw 5 rfl) (rmB l Z a0 hw p5 p1 h0) e0 (g := (mkF m 15 #[.val (.ref a), .val (.int p1), .val (.int p2), .val (.int p3), .val (.int p4), .val (.int p5), .unset, .unset, .unset] [(.int p1), (.int p5)])) rfl (by rw [hml]; rfl) (lenOf own_pd0 rfl) rfl (by show 2 * 0 + _ ≤ _; exact Nat.le_of_eq rfl) (hb hby own_d3_15) (by decide) (by decide) (by decide) (by decide)
    obtain ⟨rfl, e4, rfl⟩ := hQ4
    rw [List.append_nil] at X4
    refine own_st (st4) ?_
    clear st4 X0 e0
    show OFin p e below s _ _ _ (T4.setTop (mkF m 18 #[.val (.ref a), .val (.int p1), .val (.int p2), .val (.int p3), .val (.int p4), .val (.int p5), .unset, .unset, .unset] [(.int (own_bf p5 p1))]))
    refine own_st (fun _ kS => XS.istore X4.here hx rfl (hb hby own_d3_18) rfl (l' := #[.val (.ref a), .val (.int p1), .val (.int p2), .val (.int p3), .val (.int p4), .val (.int p5), .val (.int (own_bf p5 p1)), .unset, .unset]) rfl kS) ?_
    show OFin p e below s _ _ _ (T4.setTop (mkF m 20 #[.val (.ref a), .val (.int p1), .val (.int p2), .val (.int p3), .val (.int p4), .val (.int p5), .val (.int (own_bf p5 p1)), .unset, .unset] []))
    refine own_st (fun _ kS => XS.goto X4.here hx rfl (pc0 := 20) (pc' := 128) rfl (hb hby own_d3_20) (by decide) (by decide) kS) ?_
    show OFin p e below s _ _ _ (T4.setTop (mkF m 128 #[.val (.ref a), .val (.int p1), .val (.int p2), .val (.int p3), .val (.int p4), .val (.int p5), .val (.int (own_bf p5 p1)), .unset, .unset] []))
    refine own_st (fun _ kS => XS.aloadN X4.here hx rfl (hb hby own_d3_128) rfl rfl kS) ?_
    show OFin p e below s _ _ _ (T4.setTop (mkF m 129 #[.val (.ref a), .val (.int p1), .val (.int p2), .val (.int p3), .val (.int p4), .val (.int p5), .val (.int (own_bf p5 p1)), .unset, .unset] [(.ref a)]))
    refine own_st (fun _ kS => XS.iloadN X4.here hx rfl (hb hby own_d3_129) rfl kS) ?_
    show OFin p e below s _ _ _ (T4.setTop (mkF m 130 #[.val (.ref a), .val (.int p1), .val (.int p2), .val (.int p3), .val (.int p4), .val (.int p5), .val (.int (own_bf p5 p1)), .unset, .unset] [(.int p1), (.ref a)]))
    obtain ⟨cl5, Ar5, S5, B5, H5⟩ := id F0
    refine own_st (X4.baloadBytes hx (j := p1) (v := (.int (fb pn))) (by rw [e4]; exact Ar5.1) (State.isArrayOf_alike hZ.alike Ar5.2.1) Ar5.2.2 (own_inb S5 q0 q1 hpn) (own_hv H5 q1 hpn) (g := (mkF m 130 #[.val (.ref a), .val (.int p1), .val (.int p2), .val (.int p3), .val (.int p4), .val (.int p5), .val (.int (own_bf p5 p1)), .unset, .unset] [(.int p1), (.ref a)])) rfl rfl (hb hby own_d3_130)) ?_
    clear Ar5 S5 B5 H5
    show OFin p e below s _ _ _ (T4.setTop (mkF m 131 #[.val (.ref a), .val (.int p1), .val (.int p2), .val (.int p3), .val (.int p4), .val (.int p5), .val (.int (own_bf p5 p1)), .unset, .unset] [(.int (fb pn))]))
    refine own_st (fun _ kS => XS.iload X4.here hx rfl (hb hby own_d3_131) rfl kS) ?_
    show OFin p e below s _ _ _ (T4.setTop (mkF m 133 #[.val (.ref a), .val (.int p1), .val (.int p2), .val (.int p3), .val (.int p4), .val (.int p5), .val (.int (own_bf p5 p1)), .unset, .unset] [(.int (own_bf p5 p1)), (.int (fb pn))]))
    refine own_st (fun _ kS => XS.icmpNo X4.here hx rfl (hb hby own_d3_133) rfl (teq (hX (Or.inl c1))).2 kS) ?_
    show OFin p e below s _ _ _ (T4.setTop (mkF m 136 #[.val (.ref a), .val (.int p1), .val (.int p2), .val (.int p3), .val (.int p4), .val (.int p5), .val (.int (own_bf p5 p1)), .unset, .unset] []))
    refine own_st (fun _ kS => XS.iconst X4.here hx rfl (hb hby own_d3_136) kS) ?_
    show OFin p e below s _ _ _ (T4.setTop (mkF m 137 #[.val (.ref a), .val (.int p1), .val (.int p2), .val (.int p3), .val (.int p4), .val (.int p5), .val (.int (own_bf p5 p1)), .unset, .unset] [(.int (1 : Int32))]))
    refine own_st (fun _ kS => XS.goto X4.here hx rfl (pc0 := 137) (pc' := 141) rfl (hb hby own_d3_137) (by decide) (by decide) kS) ?_
    show OFin p e below s _ _ _ (T4.setTop (mkF m 141 #[.val (.ref a), .val (.int p1), .val (.int p2), .val (.int p3), .val (.int p4), .val (.int p5), .val (.int (own_bf p5 p1)), .unset, .unset] [(.int (1 : Int32))]))
    exact own_ret X4 hx (t := .boolean) hret hlk rfl (Or.inl ⟨rfl, by simp, _, rfl⟩) (hb hby own_d3_141) (by decide) (by decide) ⟨rfl, N0, (by rw [e4]; exact kp0)⟩
  · refine own_st (fun _ kS => XS.icmpNo X0.here hx rfl (hb hby own_d3_2) rfl (flt c1).1 kS) ?_
    show OFin p e below s _ _ _ (T0.setTop (mkF m 5 #[.val (.ref a), .val (.int p1), .val (.int p2), .val (.int p3), .val (.int p4), .val (.int p5), .unset, .unset, .unset] []))
    refine own_st (fun _ kS => XS.iloadN X0.here hx rfl (hb hby own_d3_5) rfl kS) ?_
    show OFin p e below s _ _ _ (T0.setTop (mkF m 6 #[.val (.ref a), .val (.int p1), .val (.int p2), .val (.int p3), .val (.int p4), .val (.int p5), .unset, .unset, .unset] [(.int p1)]))
    refine own_st (fun _ kS => XS.iloadN X0.here hx rfl (hb hby own_d3_6) rfl kS) ?_
    show OFin p e below s _ _ _ (T0.setTop (mkF m 7 #[.val (.ref a), .val (.int p1), .val (.int p2), .val (.int p3), .val (.int p4), .val (.int p5), .unset, .unset, .unset] [(.int p2), (.int p1)]))
    refine own_st (fun _ kS => XS.iloadN X0.here hx rfl (hb hby own_d3_7) rfl kS) ?_
    show OFin p e below s _ _ _ (T0.setTop (mkF m 8 #[.val (.ref a), .val (.int p1), .val (.int p2), .val (.int p3), .val (.int p4), .val (.int p5), .unset, .unset, .unset] [(.int p3), (.int p2), (.int p1)]))
    refine own_st (fun _ kS => XS.iadd X0.here hx rfl (hb hby own_d3_8) rfl kS) ?_
    show OFin p e below s _ _ _ (T0.setTop (mkF m 9 #[.val (.ref a), .val (.int p1), .val (.int p2), .val (.int p3), .val (.int p4), .val (.int p5), .unset, .unset, .unset] [(.int (p2 + p3)), (.int p1)]))
    by_cases c2 : p1 < (p2 + p3)
    · refine own_st (fun _ kS => XS.icmpYes X0.here hx rfl (pc0 := 9) (pc' := 23) rfl (hb hby own_d3_9) rfl (tlt c2).1 (by decide) (by decide) kS) ?_
      show OFin p e below s _ _ _ (T0.setTop (mkF m 23 #[.val (.ref a), .val (.int p1), .val (.int p2), .val (.int p3), .val (.int p4), .val (.int p5), .unset, .unset, .unset] []))
      obtain ⟨kn, k1, k2, k3⟩ := hY c1 c2
      obtain ⟨q2, q3⟩ := own_cl k2
      refine own_st (fun _ kS => XS.iloadN X0.here hx rfl (hb hby own_d3_23) rfl kS) ?_
      show OFin p e below s _ _ _ (T0.setTop (mkF m 24 #[.val (.ref a), .val (.int p1), .val (.int p2), .val (.int p3), .val (.int p4), .val (.int p5), .unset, .unset, .unset] [(.int p2)]))
      refine own_st (fun _ kS => XS.iloadN X0.here hx rfl (hb hby own_d3_24) rfl kS) ?_
      show OFin p e below s _ _ _ (T0.setTop (mkF m 25 #[.val (.ref a), .val (.int p1), .val (.int p2), .val (.int p3), .val (.int p4), .val (.int p5), .unset, .unset, .unset] [(.int p3), (.int p2)]))
      refine own_st (fun _ kS => XS.iadd X0.here hx rfl (hb hby own_d3_25) rfl kS) ?_
      show OFin p e below s _ _ _ (T0.setTop (mkF m 26 #[.val (.ref a), .val (.int p1), .val (.int p2), .val (.int p3), .val (.int p4), .val (.int p5), .unset, .unset, .unset] [(.int (p2 + p3))]))
      refine own_st (fun _ kS => XS.iconst X0.here hx rfl (hb hby own_d3_26) kS) ?_
      show OFin p e below s _ _ _ (T0.setTop (mkF m 27 #[.val (.ref a), .val (.int p1), .val (.int p2), .val (.int p3), .val (.int p4), .val (.int p5), .unset, .unset, .unset] [(.int (1 : Int32)), (.int (p2 + p3))]))
      refine own_st (fun _ kS => XS.isub X0.here hx rfl (hb hby own_d3_27) rfl kS) ?_
      show OFin p e below s _ _ _ (T0.setTop (mkF m 28 #[.val (.ref a), .val (.int p1), .val (.int p2), .val (.int p3), .val (.int p4), .val (.int p5), .unset, .unset, .unset] [(.int ((p2 + p3) - (1 : Int32)))]))
      refine own_st (fun _ kS => XS.iloadN X0.here hx rfl (hb hby own_d3_28) rfl kS) ?_
      show OFin p e below s _ _ _ (T0.setTop (mkF m 29 #[.val (.ref a), .val (.int p1), .val (.int p2), .val (.int p3), .val (.int p4), .val (.int p5), .unset, .unset, .unset] [(.int p1), (.int ((p2 + p3) - (1 : Int32)))]))
      refine own_st (fun _ kS => XS.isub X0.here hx rfl (hb hby own_d3_29) rfl kS) ?_
      show OFin p e below s _ _ _ (T0.setTop (mkF m 30 #[.val (.ref a), .val (.int p1), .val (.int p2), .val (.int p3), .val (.int p4), .val (.int p5), .unset, .unset, .unset] [(.int (((p2 + p3) - (1 : Int32)) - p1))]))
      refine own_st (fun _ kS => XS.istore X0.here hx rfl (hb hby own_d3_30) rfl (l' := #[.val (.ref a), .val (.int p1), .val (.int p2), .val (.int p3), .val (.int p4), .val (.int p5), .unset, .val (.int (((p2 + p3) - (1 : Int32)) - p1)), .unset]) rfl kS) ?_
      show OFin p e below s _ _ _ (T0.setTop (mkF m 32 #[.val (.ref a), .val (.int p1), .val (.int p2), .val (.int p3), .val (.int p4), .val (.int p5), .unset, .val (.int (((p2 + p3) - (1 : Int32)) - p1)), .unset] []))
      refine own_st (fun _ kS => XS.bipush X0.here hx rfl (hb hby own_d3_32) kS) ?_
      show OFin p e below s _ _ _ (T0.setTop (mkF m 34 #[.val (.ref a), .val (.int p1), .val (.int p2), .val (.int p3), .val (.int p4), .val (.int p5), .unset, .val (.int (((p2 + p3) - (1 : Int32)) - p1)), .unset] [(.int (11 : Int32))]))
      obtain ⟨T6, h6, k6, X6, e6, E6, A6, st6⟩ := newP X0 hx hZ (own_w hw 13 rfl) e0 (g := (mkF m 34 #[.val (.ref a), .val (.int p1), .val (.int p2), .val (.int p3), .val (.int p4), .val (.int p5), .unset, .val (.int (((p2 + p3) - (1 : Int32)) - p1)), .unset] [(.int (11 : Int32))])) rfl (hb hby own_d3_34) rfl (by decide) (cap := 11) (by decide) (by decide) (by decide) (by decide)
      obtain ⟨tb, g6⟩ : ∃ z, z = h0.size := ⟨_, rfl⟩
      rw [← g6] at A6 st6
      have ne_a_tb : a ≠ tb := Nat.ne_of_lt (Nat.lt_of_lt_of_le F0.lt (Nat.le_of_eq g6.symm))
      have g_tb : n0 ≤ tb := Nat.le_trans Z0 (Nat.le_of_eq g6.symm)
      have f7 := F0.ext E6
      have f8 : Arv Z h6 tb k6 .long (11 : Int32) [(.long (0 : Int64)), (.long (0 : Int64)), (.long (0 : Int64)), (.long (0 : Int64)), (.long (0 : Int64)), (.long (0 : Int64)), (.long (0 : Int64)), (.long (0 : Int64)), (.long (0 : Int64)), (.long (0 : Int64)), (.long (0 : Int64))] (.long (0 : Int64)) := (Arv.new A6 (by decide)).pad (pad_rep [] (.long (0 : Int64)) 11)
      have sz6 : n0 ≤ h6.size := Nat.le_trans Z0 E6.1
      have kp6 := kp0.ext E6
      have kz_tb := Nat.le_trans kp0.1 (Nat.le_of_eq g6.symm)
      clear kp0
      refine own_st (st6) ?_
      clear st6 X0 e0 E6 g6
      show OFin p e below s _ _ _ (T6.setTop (mkF m 36 #[.val (.ref a), .val (.int p1), .val (.int p2), .val (.int p3), .val (.int p4), .val (.int p5), .unset, .val (.int (((p2 + p3) - (1 : Int32)) - p1)), .unset] [(.ref tb)]))
      refine own_st (fun _ kS => XS.dup X6.here hx rfl (hb hby own_d3_36) rfl rfl kS) ?_
      show OFin p e below s _ _ _ (T6.setTop (mkF m 37 #[.val (.ref a), .val (.int p1), .val (.int p2), .val (.int p3), .val (.int p4), .val (.int p5), .unset, .val (.int (((p2 + p3) - (1 : Int32)) - p1)), .unset] [(.ref tb), (.ref tb)]))
      refine own_st (fun _ kS => XS.iconst X6.here hx rfl (hb hby own_d3_37) kS) ?_
      show OFin p e below s _ _ _ (T6.setTop (mkF m 38 #[.val (.ref a), .val (.int p1), .val (.int p2), .val (.int p3), .val (.int p4), .val (.int p5), .unset, .val (.int (((p2 + p3) - (1 : Int32)) - p1)), .unset] [(.int (0 : Int32)), (.ref tb), (.ref tb)]))
      refine own_st (fun _ kS => XS.lconst X6.here hx rfl (hb hby own_d3_38) kS) ?_
      show OFin p e below s _ _ _ (T6.setTop (mkF m 39 #[.val (.ref a), .val (.int p1), .val (.int p2), .val (.int p3), .val (.int p4), .val (.int p5), .unset, .val (.int (((p2 + p3) - (1 : Int32)) - p1)), .unset] [(.long (1 : Int64)), (.int (0 : Int32)), (.ref tb), (.ref tb)]))
      obtain ⟨cl9, Ar9, q9, S9, N9, H9, G9⟩ := id f8
      have hin9 : ¬ ((0 : Int32) < 0 ∨ cl9.slots.size ≤ ((0 : Int32)).toNatClampNeg) := inb_of S9 ⟨by decide, by decide⟩
      obtain ⟨T9, h9, X9, e9, W9, st9⟩ := stJ X6 hx hZ e6 Ar9 (j := (0 : Int32)) hin9 (g := (mkF m 39 #[.val (.ref a), .val (.int p1), .val (.int p2), .val (.int p3), .val (.int p4), .val (.int p5), .unset, .val (.int (((p2 + p3) - (1 : Int32)) - p1)), .unset] [(.long (1 : Int64)), (.int (0 : Int32)), (.ref tb), (.ref tb)])) rfl rfl (hb hby own_d3_39)
      have f10 := Arv.set Ar9 q9 S9 N9 H9 G9 rfl W9 0 rfl (Nat.le_of_ble_eq_true rfl)
      have f11 := f7.other W9 ne_a_tb
      clear f7
      have sz9 : n0 ≤ h9.size := by rw [W9.size]; exact sz6
      clear sz6
      have fr9 := Fr.snoc X9 N0 g_tb
      clear N0
      have kp9 := kp6.wr W9 (Or.inr kz_tb)
      clear kp6
      refine own_st (st9) ?_
      clear st9 X6 e6 W9 Ar9 q9 S9 N9 H9 G9 hin9 f8
      show OFin p e below s _ _ _ (T9.setTop (mkF m 40 #[.val (.ref a), .val (.int p1), .val (.int p2), .val (.int p3), .val (.int p4), .val (.int p5), .unset, .val (.int (((p2 + p3) - (1 : Int32)) - p1)), .unset] [(.ref tb)]))
      refine own_st (fun _ kS => XS.dup X9.here hx rfl (hb hby own_d3_40) rfl rfl kS) ?_
      show OFin p e below s _ _ _ (T9.setTop (mkF m 41 #[.val (.ref a), .val (.int p1), .val (.int p2), .val (.int p3), .val (.int p4), .val (.int p5), .unset, .val (.int (((p2 + p3) - (1 : Int32)) - p1)), .unset] [(.ref tb), (.ref tb)]))
      refine own_st (fun _ kS => XS.iconst X9.here hx rfl (hb hby own_d3_41) kS) ?_
      show OFin p e below s _ _ _ (T9.setTop (mkF m 42 #[.val (.ref a), .val (.int p1), .val (.int p2), .val (.int p3), .val (.int p4), .val (.int p5), .unset, .val (.int (((p2 + p3) - (1 : Int32)) - p1)), .unset] [(.int (1 : Int32)), (.ref tb), (.ref tb)]))
      refine own_st (X9.ldc2Long hx hown (mvT hZ (own_w hw 14 rfl)) (g := (mkF m 42 #[.val (.ref a), .val (.int p1), .val (.int p2), .val (.int p3), .val (.int p4), .val (.int p5), .unset, .val (.int (((p2 + p3) - (1 : Int32)) - p1)), .unset] [(.int (1 : Int32)), (.ref tb), (.ref tb)])) rfl (hb hby own_d3_42)) ?_
      show OFin p e below s _ _ _ (T9.setTop (mkF m 45 #[.val (.ref a), .val (.int p1), .val (.int p2), .val (.int p3), .val (.int p4), .val (.int p5), .unset, .val (.int (((p2 + p3) - (1 : Int32)) - p1)), .unset] [(.long (10 : Int64)), (.int (1 : Int32)), (.ref tb), (.ref tb)]))
      obtain ⟨cl13, Ar13, q13, S13, N13, H13, G13⟩ := id f10
      have hin13 : ¬ ((1 : Int32) < 0 ∨ cl13.slots.size ≤ ((1 : Int32)).toNatClampNeg) := inb_of S13 ⟨by decide, by decide⟩
      obtain ⟨T13, h13, X13, e13, W13, st13⟩ := stJ X9 hx hZ e9 Ar13 (j := (1 : Int32)) hin13 (g := (mkF m 45 #[.val (.ref a), .val (.int p1), .val (.int p2), .val (.int p3), .val (.int p4), .val (.int p5), .unset, .val (.int (((p2 + p3) - (1 : Int32)) - p1)), .unset] [(.long (10 : Int64)), (.int (1 : Int32)), (.ref tb), (.ref tb)])) rfl rfl (hb hby own_d3_45)
      have f14 := Arv.set Ar13 q13 S13 N13 H13 G13 rfl W13 1 rfl (Nat.le_of_ble_eq_true rfl)
      have f15 := f11.other W13 ne_a_tb
      clear f11
      have sz13 : n0 ≤ h13.size := by rw [W13.size]; exact sz9
      clear sz9
      have fr13 := Fr.snoc X13 fr9 g_tb
      clear fr9
      have kp13 := kp9.wr W13 (Or.inr kz_tb)
      clear kp9
      refine own_st (st13) ?_
      clear st13 X9 e9 W13 Ar13 q13 S13 N13 H13 G13 hin13 f10
      show OFin p e below s _ _ _ (T13.setTop (mkF m 46 #[.val (.ref a), .val (.int p1), .val (.int p2), .val (.int p3), .val (.int p4), .val (.int p5), .unset, .val (.int (((p2 + p3) - (1 : Int32)) - p1)), .unset] [(.ref tb)]))
      refine own_st (fun _ kS => XS.dup X13.here hx rfl (hb hby own_d3_46) rfl rfl kS) ?_
      show OFin p e below s _ _ _ (T13.setTop (mkF m 47 #[.val (.ref a), .val (.int p1), .val (.int p2), .val (.int p3), .val (.int p4), .val (.int p5), .unset, .val (.int (((p2 + p3) - (1 : Int32)) - p1)), .unset] [(.ref tb), (.ref tb)]))
      refine own_st (fun _ kS => XS.iconst X13.here hx rfl (hb hby own_d3_47) kS) ?_
      show OFin p e below s _ _ _ (T13.setTop (mkF m 48 #[.val (.ref a), .val (.int p1), .val (.int p2), .val (.int p3), .val (.int p4), .val (.int p5), .unset, .val (.int (((p2 + p3) - (1 : Int32)) - p1)), .unset] [(.int (2 : Int32)), (.ref tb), (.ref tb)]))
      refine own_st (X13.ldc2Long hx hown (mvT hZ (own_w hw 15 rfl)) (g := (mkF m 48 #[.val (.ref a), .val (.int p1), .val (.int p2), .val (.int p3), .val (.int p4), .val (.int p5), .unset, .val (.int (((p2 + p3) - (1 : Int32)) - p1)), .unset] [(.int (2 : Int32)), (.ref tb), (.ref tb)])) rfl (hb hby own_d3_48)) ?_
      show OFin p e below s _ _ _ (T13.setTop (mkF m 51 #[.val (.ref a), .val (.int p1), .val (.int p2), .val (.int p3), .val (.int p4), .val (.int p5), .unset, .val (.int (((p2 + p3) - (1 : Int32)) - p1)), .unset] [(.long (100 : Int64)), (.int (2 : Int32)), (.ref tb), (.ref tb)]))
      obtain ⟨cl17, Ar17, q17, S17, N17, H17, G17⟩ := id f14
      have hin17 : ¬ ((2 : Int32) < 0 ∨ cl17.slots.size ≤ ((2 : Int32)).toNatClampNeg) := inb_of S17 ⟨by decide, by decide⟩
      obtain ⟨T17, h17, X17, e17, W17, st17⟩ := stJ X13 hx hZ e13 Ar17 (j := (2 : Int32)) hin17 (g := (mkF m 51 #[.val (.ref a), .val (.int p1), .val (.int p2), .val (.int p3), .val (.int p4), .val (.int p5), .unset, .val (.int (((p2 + p3) - (1 : Int32)) - p1)), .unset] [(.long (100 : Int64)), (.int (2 : Int32)), (.ref tb), (.ref tb)])) rfl rfl (hb hby own_d3_51)
      have f18 := Arv.set Ar17 q17 S17 N17 H17 G17 rfl W17 2 rfl (Nat.le_of_ble_eq_true rfl)
      have f19 := f15.other W17 ne_a_tb
      clear f15
      have sz17 : n0 ≤ h17.size := by rw [W17.size]; exact sz13
      clear sz13
      have fr17 := Fr.snoc X17 fr13 g_tb
      clear fr13
      have kp17 := kp13.wr W17 (Or.inr kz_tb)
      clear kp13
      refine own_st (st17) ?_
      clear st17 X13 e13 W17 Ar17 q17 S17 N17 H17 G17 hin17 f14
      show OFin p e below s _ _ _ (T17.setTop (mkF m 52 #[.val (.ref a), .val (.int p1), .val (.int p2), .val (.int p3), .val (.int p4), .val (.int p5), .unset, .val (.int (((p2 + p3) - (1 : Int32)) - p1)), .unset] [(.ref tb)]))
      refine own_st (fun _ kS => XS.dup X17.here hx rfl (hb hby own_d3_52) rfl rfl kS) ?_
      show OFin p e below s _ _ _ (T17.setTop (mkF m 53 #[.val (.ref a), .val (.int p1), .val (.int p2), .val (.int p3), .val (.int p4), .val (.int p5), .unset, .val (.int (((p2 + p3) - (1 : Int32)) - p1)), .unset] [(.ref tb), (.ref tb)]))
      refine own_st (fun _ kS => XS.iconst X17.here hx rfl (hb hby own_d3_53) kS) ?_
      show OFin p e below s _ _ _ (T17.setTop (mkF m 54 #[.val (.ref a), .val (.int p1), .val (.int p2), .val (.int p3), .val (.int p4), .val (.int p5), .unset, .val (.int (((p2 + p3) - (1 : Int32)) - p1)), .unset] [(.int (3 : Int32)), (.ref tb), (.ref tb)]))
      refine own_st (X17.ldc2Long hx hown (mvT hZ (own_w hw 16 rfl)) (g := (mkF m 54 #[.val (.ref a), .val (.int p1), .val (.int p2), .val (.int p3), .val (.int p4), .val (.int p5), .unset, .val (.int (((p2 + p3) - (1 : Int32)) - p1)), .unset] [(.int (3 : Int32)), (.ref tb), (.ref tb)])) rfl (hb hby own_d3_54)) ?_
      show OFin p e below s _ _ _ (T17.setTop (mkF m 57 #[.val (.ref a), .val (.int p1), .val (.int p2), .val (.int p3), .val (.int p4), .val (.int p5), .unset, .val (.int (((p2 + p3) - (1 : Int32)) - p1)), .unset] [(.long (1000 : Int64)), (.int (3 : Int32)), (.ref tb), (.ref tb)]))
      obtain ⟨cl21, Ar21, q21, S21, N21, H21, G21⟩ := id f18
      have hin21 : ¬ ((3 : Int32) < 0 ∨ cl21.slots.size ≤ ((3 : Int32)).toNatClampNeg) := inb_of S21 ⟨by decide, by decide⟩
      obtain ⟨T21, h21, X21, e21, W21, st21⟩ := stJ X17 hx hZ e17 Ar21 (j := (3 : Int32)) hin21 (g := (mkF m 57 #[.val (.ref a), .val (.int p1), .val (.int p2), .val (.int p3), .val (.int p4), .val (.int p5), .unset, .val (.int (((p2 + p3) - (1 : Int32)) - p1)), .unset] [(.long (1000 : Int64)), (.int (3 : Int32)), (.ref tb), (.ref tb)])) rfl rfl (hb hby own_d3_57)
      have f22 := Arv.set Ar21 q21 S21 N21 H21 G21 rfl W21 3 rfl (Nat.le_of_ble_eq_true rfl)
      have f23 := f19.other W21 ne_a_tb
      clear f19
      have sz21 : n0 ≤ h21.size := by rw [W21.size]; exact sz17
      clear sz17
      have fr21 := Fr.snoc X21 fr17 g_tb
      clear fr17
      have kp21 := kp17.wr W21 (Or.inr kz_tb)
      clear kp17
      refine own_st (st21) ?_
      clear st21 X17 e17 W21 Ar21 q21 S21 N21 H21 G21 hin21 f18
      show OFin p e below s _ _ _ (T21.setTop (mkF m 58 #[.val (.ref a), .val (.int p1), .val (.int p2), .val (.int p3), .val (.int p4), .val (.int p5), .unset, .val (.int (((p2 + p3) - (1 : Int32)) - p1)), .unset] [(.ref tb)]))
      refine own_st (fun _ kS => XS.dup X21.here hx rfl (hb hby own_d3_58) rfl rfl kS) ?_
      show OFin p e below s _ _ _ (T21.setTop (mkF m 59 #[.val (.ref a), .val (.int p1), .val (.int p2), .val (.int p3), .val (.int p4), .val (.int p5), .unset, .val (.int (((p2 + p3) - (1 : Int32)) - p1)), .unset] [(.ref tb), (.ref tb)]))
      refine own_st (fun _ kS => XS.iconst X21.here hx rfl (hb hby own_d3_59) kS) ?_
      show OFin p e below s _ _ _ (T21.setTop (mkF m 60 #[.val (.ref a), .val (.int p1), .val (.int p2), .val (.int p3), .val (.int p4), .val (.int p5), .unset, .val (.int (((p2 + p3) - (1 : Int32)) - p1)), .unset] [(.int (4 : Int32)), (.ref tb), (.ref tb)]))
      refine own_st (X21.ldc2Long hx hown (mvT hZ (own_w hw 17 rfl)) (g := (mkF m 60 #[.val (.ref a), .val (.int p1), .val (.int p2), .val (.int p3), .val (.int p4), .val (.int p5), .unset, .val (.int (((p2 + p3) - (1 : Int32)) - p1)), .unset] [(.int (4 : Int32)), (.ref tb), (.ref tb)])) rfl (hb hby own_d3_60)) ?_
      show OFin p e below s _ _ _ (T21.setTop (mkF m 63 #[.val (.ref a), .val (.int p1), .val (.int p2), .val (.int p3), .val (.int p4), .val (.int p5), .unset, .val (.int (((p2 + p3) - (1 : Int32)) - p1)), .unset] [(.long (10000 : Int64)), (.int (4 : Int32)), (.ref tb), (.ref tb)]))
      obtain ⟨cl25, Ar25, q25, S25, N25, H25, G25⟩ := id f22
      have hin25 : ¬ ((4 : Int32) < 0 ∨ cl25.slots.size ≤ ((4 : Int32)).toNatClampNeg) := inb_of S25 ⟨by decide, by decide⟩
      obtain ⟨T25, h25, X25, e25, W25, st25⟩ := stJ X21 hx hZ e21 Ar25 (j := (4 : Int32)) hin25 (g := (mkF m 63 #[.val (.ref a), .val (.int p1), .val (.int p2), .val (.int p3), .val (.int p4), .val (.int p5), .unset, .val (.int (((p2 + p3) - (1 : Int32)) - p1)), .unset] [(.long (10000 : Int64)), (.int (4 : Int32)), (.ref tb), (.ref tb)])) rfl rfl (hb hby own_d3_63)
      have f26 := Arv.set Ar25 q25 S25 N25 H25 G25 rfl W25 4 rfl (Nat.le_of_ble_eq_true rfl)
      have f27 := f23.other W25 ne_a_tb
      clear f23
      have sz25 : n0 ≤ h25.size := by rw [W25.size]; exact sz21
      clear sz21
      have fr25 := Fr.snoc X25 fr21 g_tb
      clear fr21
      have kp25 := kp21.wr W25 (Or.inr kz_tb)
      clear kp21
      refine own_st (st25) ?_
      clear st25 X21 e21 W25 Ar25 q25 S25 N25 H25 G25 hin25 f22
      show OFin p e below s _ _ _ (T25.setTop (mkF m 64 #[.val (.ref a), .val (.int p1), .val (.int p2), .val (.int p3), .val (.int p4), .val (.int p5), .unset, .val (.int (((p2 + p3) - (1 : Int32)) - p1)), .unset] [(.ref tb)]))
      refine own_st (fun _ kS => XS.dup X25.here hx rfl (hb hby own_d3_64) rfl rfl kS) ?_
      show OFin p e below s _ _ _ (T25.setTop (mkF m 65 #[.val (.ref a), .val (.int p1), .val (.int p2), .val (.int p3), .val (.int p4), .val (.int p5), .unset, .val (.int (((p2 + p3) - (1 : Int32)) - p1)), .unset] [(.ref tb), (.ref tb)]))
      refine own_st (fun _ kS => XS.iconst X25.here hx rfl (hb hby own_d3_65) kS) ?_
      show OFin p e below s _ _ _ (T25.setTop (mkF m 66 #[.val (.ref a), .val (.int p1), .val (.int p2), .val (.int p3), .val (.int p4), .val (.int p5), .unset, .val (.int (((p2 + p3) - (1 : Int32)) - p1)), .unset] [(.int (5 : Int32)), (.ref tb), (.ref tb)]))
      refine own_st (X25.ldc2Long hx hown (mvT hZ (own_w hw 18 rfl)) (g := (mkF m 66 #[.val (.ref a), .val (.int p1), .val (.int p2), .val (.int p3), .val (.int p4), .val (.int p5), .unset, .val (.int (((p2 + p3) - (1 : Int32)) - p1)), .unset] [(.int (5 : Int32)), (.ref tb), (.ref tb)])) rfl (hb hby own_d3_66)) ?_
      show OFin p e below s _ _ _ (T25.setTop (mkF m 69 #[.val (.ref a), .val (.int p1), .val (.int p2), .val (.int p3), .val (.int p4), .val (.int p5), .unset, .val (.int (((p2 + p3) - (1 : Int32)) - p1)), .unset] [(.long (100000 : Int64)), (.int (5 : Int32)), (.ref tb), (.ref tb)]))
      obtain ⟨cl29, Ar29, q29, S29, N29, H29, G29⟩ := id f26
      have hin29 : ¬ ((5 : Int32) < 0 ∨ cl29.slots.size ≤ ((5 : Int32)).toNatClampNeg) := inb_of S29 ⟨by decide, by decide⟩
      obtain ⟨T29, h29, X29, e29, W29, st29⟩ := stJ X25 hx hZ e25 Ar29 (j := (5 : Int32)) hin29 (g := (mkF m 69 #[.val (.ref a), .val (.int p1), .val (.int p2), .val (.int p3), .val (.int p4), .val (.int p5), .unset, .val (.int (((p2 + p3) - (1 : Int32)) - p1)), .unset] [(.long (100000 : Int64)), (.int (5 : Int32)), (.ref tb), (.ref tb)])) rfl rfl (hb hby own_d3_69)
      have f30 := Arv.set Ar29 q29 S29 N29 H29 G29 rfl W29 5 rfl (Nat.le_of_ble_eq_true rfl)
      have f31 := f27.other W29 ne_a_tb
      clear f27
      have sz29 : n0 ≤ h29.size := by rw [W29.size]; exact sz25
      clear sz25
      have fr29 := Fr.snoc X29 fr25 g_tb
      clear fr25
      have kp29 := kp25.wr W29 (Or.inr kz_tb)
      clear kp25
      refine own_st (st29) ?_
      clear st29 X25 e25 W29 Ar29 q29 S29 N29 H29 G29 hin29 f26
      show OFin p e below s _ _ _ (T29.setTop (mkF m 70 #[.val (.ref a), .val (.int p1), .val (.int p2), .val (.int p3), .val (.int p4), .val (.int p5), .unset, .val (.int (((p2 + p3) - (1 : Int32)) - p1)), .unset] [(.ref tb)]))
      refine own_st (fun _ kS => XS.dup X29.here hx rfl (hb hby own_d3_70) rfl rfl kS) ?_
      show OFin p e below s _ _ _ (T29.setTop (mkF m 71 #[.val (.ref a), .val (.int p1), .val (.int p2), .val (.int p3), .val (.int p4), .val (.int p5), .unset, .val (.int (((p2 + p3) - (1 : Int32)) - p1)), .unset] [(.ref tb), (.ref tb)]))
      refine own_st (fun _ kS => XS.bipush X29.here hx rfl (hb hby own_d3_71) kS) ?_
      show OFin p e below s _ _ _ (T29.setTop (mkF m 73 #[.val (.ref a), .val (.int p1), .val (.int p2), .val (.int p3), .val (.int p4), .val (.int p5), .unset, .val (.int (((p2 + p3) - (1 : Int32)) - p1)), .unset] [(.int (6 : Int32)), (.ref tb), (.ref tb)]))
      refine own_st (X29.ldc2Long hx hown (mvT hZ (own_w hw 19 rfl)) (g := (mkF m 73 #[.val (.ref a), .val (.int p1), .val (.int p2), .val (.int p3), .val (.int p4), .val (.int p5), .unset, .val (.int (((p2 + p3) - (1 : Int32)) - p1)), .unset] [(.int (6 : Int32)), (.ref tb), (.ref tb)])) rfl (hb hby own_d3_73)) ?_
      show OFin p e below s _ _ _ (T29.setTop (mkF m 76 #[.val (.ref a), .val (.int p1), .val (.int p2), .val (.int p3), .val (.int p4), .val (.int p5), .unset, .val (.int (((p2 + p3) - (1 : Int32)) - p1)), .unset] [(.long (1000000 : Int64)), (.int (6 : Int32)), (.ref tb), (.ref tb)]))
      obtain ⟨cl33, Ar33, q33, S33, N33, H33, G33⟩ := id f30
      have hin33 : ¬ ((6 : Int32) < 0 ∨ cl33.slots.size ≤ ((6 : Int32)).toNatClampNeg) := inb_of S33 ⟨by decide, by decide⟩
      obtain ⟨T33, h33, X33, e33, W33, st33⟩ := stJ X29 hx hZ e29 Ar33 (j := (6 : Int32)) hin33 (g := (mkF m 76 #[.val (.ref a), .val (.int p1), .val (.int p2), .val (.int p3), .val (.int p4), .val (.int p5), .unset, .val (.int (((p2 + p3) - (1 : Int32)) - p1)), .unset] [(.long (1000000 : Int64)), (.int (6 : Int32)), (.ref tb), (.ref tb)])) rfl rfl (hb hby own_d3_76)
      have f34 := Arv.set Ar33 q33 S33 N33 H33 G33 rfl W33 6 rfl (Nat.le_of_ble_eq_true rfl)
      have f35 := f31.other W33 ne_a_tb
      clear f31
      have sz33 : n0 ≤ h33.size := by rw [W33.size]; exact sz29
      clear sz29
      have fr33 := Fr.snoc X33 fr29 g_tb
      clear fr29
      have kp33 := kp29.wr W33 (Or.inr kz_tb)
      clear kp29
      refine own_st (st33) ?_
      clear st33 X29 e29 W33 Ar33 q33 S33 N33 H33 G33 hin33 f30
      show OFin p e below s _ _ _ (T33.setTop (mkF m 77 #[.val (.ref a), .val (.int p1), .val (.int p2), .val (.int p3), .val (.int p4), .val (.int p5), .unset, .val (.int (((p2 + p3) - (1 : Int32)) - p1)), .unset] [(.ref tb)]))
      refine own_st (fun _ kS => XS.dup X33.here hx rfl (hb hby own_d3_77) rfl rfl kS) ?_
      show OFin p e below s _ _ _ (T33.setTop (mkF m 78 #[.val (.ref a), .val (.int p1), .val (.int p2), .val (.int p3), .val (.int p4), .val (.int p5), .unset, .val (.int (((p2 + p3) - (1 : Int32)) - p1)), .unset] [(.ref tb), (.ref tb)]))
      refine own_st (fun _ kS => XS.bipush X33.here hx rfl (hb hby own_d3_78) kS) ?_
      show OFin p e below s _ _ _ (T33.setTop (mkF m 80 #[.val (.ref a), .val (.int p1), .val (.int p2), .val (.int p3), .val (.int p4), .val (.int p5), .unset, .val (.int (((p2 + p3) - (1 : Int32)) - p1)), .unset] [(.int (7 : Int32)), (.ref tb), (.ref tb)]))
      refine own_st (X33.ldc2Long hx hown (mvT hZ (own_w hw 20 rfl)) (g := (mkF m 80 #[.val (.ref a), .val (.int p1), .val (.int p2), .val (.int p3), .val (.int p4), .val (.int p5), .unset, .val (.int (((p2 + p3) - (1 : Int32)) - p1)), .unset] [(.int (7 : Int32)), (.ref tb), (.ref tb)])) rfl (hb hby own_d3_80)) ?_
      show OFin p e below s _ _ _ (T33.setTop (mkF m 83 #[.val (.ref a), .val (.int p1), .val (.int p2), .val (.int p3), .val (.int p4), .val (.int p5), .unset, .val (.int (((p2 + p3) - (1 : Int32)) - p1)), .unset] [(.long (10000000 : Int64)), (.int (7 : Int32)), (.ref tb), (.ref tb)]))
      obtain ⟨cl37, Ar37, q37, S37, N37, H37, G37⟩ := id f34
      have hin37 : ¬ ((7 : Int32) < 0 ∨ cl37.slots.size ≤ ((7 : Int32)).toNatClampNeg) := inb_of S37 ⟨by decide, by decide⟩
      obtain ⟨T37, h37, X37, e37, W37, st37⟩ := stJ X33 hx hZ e33 Ar37 (j := (7 : Int32)) hin37 (g := (mkF m 83 #[.val (.ref a), .val (.int p1), .val (.int p2), .val (.int p3), .val (.int p4), .val (.int p5), .unset, .val (.int (((p2 + p3) - (1 : Int32)) - p1)), .unset] [(.long (10000000 : Int64)), (.int (7 : Int32)), (.ref tb), (.ref tb)])) rfl rfl (hb hby own_d3_83)
      have f38 := Arv.set Ar37 q37 S37 N37 H37 G37 rfl W37 7 rfl (Nat.le_of_ble_eq_true rfl)
      have f39 := f35.other W37 ne_a_tb
      clear f35
      have sz37 : n0 ≤ h37.size := by rw [W37.size]; exact sz33
      clear sz33
      have fr37 := Fr.snoc X37 fr33 g_tb
      clear fr33
      have kp37 := kp33.wr W37 (Or.inr kz_tb)
      clear kp33
      refine own_st (st37) ?_
      clear st37 X33 e33 W37 Ar37 q37 S37 N37 H37 G37 hin37 f34
      show OFin p e below s _ _ _ (T37.setTop (mkF m 84 #[.val (.ref a), .val (.int p1), .val (.int p2), .val (.int p3), .val (.int p4), .val (.int p5), .unset, .val (.int (((p2 + p3) - (1 : Int32)) - p1)), .unset] [(.ref tb)]))
      refine own_st (fun _ kS => XS.dup X37.here hx rfl (hb hby own_d3_84) rfl rfl kS) ?_
      show OFin p e below s _ _ _ (T37.setTop (mkF m 85 #[.val (.ref a), .val (.int p1), .val (.int p2), .val (.int p3), .val (.int p4), .val (.int p5), .unset, .val (.int (((p2 + p3) - (1 : Int32)) - p1)), .unset] [(.ref tb), (.ref tb)]))
      refine own_st (fun _ kS => XS.bipush X37.here hx rfl (hb hby own_d3_85) kS) ?_
      show OFin p e below s _ _ _ (T37.setTop (mkF m 87 #[.val (.ref a), .val (.int p1), .val (.int p2), .val (.int p3), .val (.int p4), .val (.int p5), .unset, .val (.int (((p2 + p3) - (1 : Int32)) - p1)), .unset] [(.int (8 : Int32)), (.ref tb), (.ref tb)]))
      refine own_st (X37.ldc2Long hx hown (mvT hZ (own_w hw 21 rfl)) (g := (mkF m 87 #[.val (.ref a), .val (.int p1), .val (.int p2), .val (.int p3), .val (.int p4), .val (.int p5), .unset, .val (.int (((p2 + p3) - (1 : Int32)) - p1)), .unset] [(.int (8 : Int32)), (.ref tb), (.ref tb)])) rfl (hb hby own_d3_87)) ?_
      show OFin p e below s _ _ _ (T37.setTop (mkF m 90 #[.val (.ref a), .val (.int p1), .val (.int p2), .val (.int p3), .val (.int p4), .val (.int p5), .unset, .val (.int (((p2 + p3) - (1 : Int32)) - p1)), .unset] [(.long (100000000 : Int64)), (.int (8 : Int32)), (.ref tb), (.ref tb)]))
      obtain ⟨cl41, Ar41, q41, S41, N41, H41, G41⟩ := id f38
      have hin41 : ¬ ((8 : Int32) < 0 ∨ cl41.slots.size ≤ ((8 : Int32)).toNatClampNeg) := inb_of S41 ⟨by decide, by decide⟩
      obtain ⟨T41, h41, X41, e41, W41, st41⟩ := stJ X37 hx hZ e37 Ar41 (j := (8 : Int32)) hin41 (g := (mkF m 90 #[.val (.ref a), .val (.int p1), .val (.int p2), .val (.int p3), .val (.int p4), .val (.int p5), .unset, .val (.int (((p2 + p3) - (1 : Int32)) - p1)), .unset] [(.long (100000000 : Int64)), (.int (8 : Int32)), (.ref tb), (.ref tb)])) rfl rfl (hb hby own_d3_90)
      have f42 := Arv.set Ar41 q41 S41 N41 H41 G41 rfl W41 8 rfl (Nat.le_of_ble_eq_true rfl)
      have f43 := f39.other W41 ne_a_tb
      clear f39
      have sz41 : n0 ≤ h41.size := by rw [W41.size]; exact sz37
      clear sz37
      have fr41 := Fr.snoc X41 fr37 g_tb
      clear fr37
      have kp41 := kp37.wr W41 (Or.inr kz_tb)
      clear kp37
      refine own_st (st41) ?_
      clear st41 X37 e37 W41 Ar41 q41 S41 N41 H41 G41 hin41 f38
      show OFin p e below s _ _ _ (T41.setTop (mkF m 91 #[.val (.ref a), .val (.int p1), .val (.int p2), .val (.int p3), .val (.int p4), .val (.int p5), .unset, .val (.int (((p2 + p3) - (1 : Int32)) - p1)), .unset] [(.ref tb)]))
      refine own_st (fun _ kS => XS.dup X41.here hx rfl (hb hby own_d3_91) rfl rfl kS) ?_
      show OFin p e below s _ _ _ (T41.setTop (mkF m 92 #[.val (.ref a), .val (.int p1), .val (.int p2), .val (.int p3), .val (.int p4), .val (.int p5), .unset, .val (.int (((p2 + p3) - (1 : Int32)) - p1)), .unset] [(.ref tb), (.ref tb)]))
      refine own_st (fun _ kS => XS.bipush X41.here hx rfl (hb hby own_d3_92) kS) ?_
      show OFin p e below s _ _ _ (T41.setTop (mkF m 94 #[.val (.ref a), .val (.int p1), .val (.int p2), .val (.int p3), .val (.int p4), .val (.int p5), .unset, .val (.int (((p2 + p3) - (1 : Int32)) - p1)), .unset] [(.int (9 : Int32)), (.ref tb), (.ref tb)]))
      refine own_st (X41.ldc2Long hx hown (mvT hZ (own_w hw 22 rfl)) (g := (mkF m 94 #[.val (.ref a), .val (.int p1), .val (.int p2), .val (.int p3), .val (.int p4), .val (.int p5), .unset, .val (.int (((p2 + p3) - (1 : Int32)) - p1)), .unset] [(.int (9 : Int32)), (.ref tb), (.ref tb)])) rfl (hb hby own_d3_94)) ?_
      show OFin p e below s _ _ _ (T41.setTop (mkF m 97 #[.val (.ref a), .val (.int p1), .val (.int p2), .val (.int p3), .val (.int p4), .val (.int p5), .unset, .val (.int (((p2 + p3) - (1 : Int32)) - p1)), .unset] [(.long (1000000000 : Int64)), (.int (9 : Int32)), (.ref tb), (.ref tb)]))
      obtain ⟨cl45, Ar45, q45, S45, N45, H45, G45⟩ := id f42
      have hin45 : ¬ ((9 : Int32) < 0 ∨ cl45.slots.size ≤ ((9 : Int32)).toNatClampNeg) := inb_of S45 ⟨by decide, by decide⟩
      obtain ⟨T45, h45, X45, e45, W45, st45⟩ := stJ X41 hx hZ e41 Ar45 (j := (9 : Int32)) hin45 (g := (mkF m 97 #[.val (.ref a), .val (.int p1), .val (.int p2), .val (.int p3), .val (.int p4), .val (.int p5), .unset, .val (.int (((p2 + p3) - (1 : Int32)) - p1)), .unset] [(.long (1000000000 : Int64)), (.int (9 : Int32)), (.ref tb), (.ref tb)])) rfl rfl (hb hby own_d3_97)
      have f46 := Arv.set Ar45 q45 S45 N45 H45 G45 rfl W45 9 rfl (Nat.le_of_ble_eq_true rfl)
      have f47 := f43.other W45 ne_a_tb
      clear f43
      have sz45 : n0 ≤ h45.size := by rw [W45.size]; exact sz41
      clear sz41
      have fr45 := Fr.snoc X45 fr41 g_tb
      clear fr41
      have kp45 := kp41.wr W45 (Or.inr kz_tb)
      clear kp41
      refine own_st (st45) ?_
      clear st45 X41 e41 W45 Ar45 q45 S45 N45 H45 G45 hin45 f42
      show OFin p e below s _ _ _ (T45.setTop (mkF m 98 #[.val (.ref a), .val (.int p1), .val (.int p2), .val (.int p3), .val (.int p4), .val (.int p5), .unset, .val (.int (((p2 + p3) - (1 : Int32)) - p1)), .unset] [(.ref tb)]))
      refine own_st (fun _ kS => XS.dup X45.here hx rfl (hb hby own_d3_98) rfl rfl kS) ?_
      show OFin p e below s _ _ _ (T45.setTop (mkF m 99 #[.val (.ref a), .val (.int p1), .val (.int p2), .val (.int p3), .val (.int p4), .val (.int p5), .unset, .val (.int (((p2 + p3) - (1 : Int32)) - p1)), .unset] [(.ref tb), (.ref tb)]))
      refine own_st (fun _ kS => XS.bipush X45.here hx rfl (hb hby own_d3_99) kS) ?_
      show OFin p e below s _ _ _ (T45.setTop (mkF m 101 #[.val (.ref a), .val (.int p1), .val (.int p2), .val (.int p3), .val (.int p4), .val (.int p5), .unset, .val (.int (((p2 + p3) - (1 : Int32)) - p1)), .unset] [(.int (10 : Int32)), (.ref tb), (.ref tb)]))
      refine own_st (X45.ldc2Long hx hown (mvT hZ (own_w hw 23 rfl)) (g := (mkF m 101 #[.val (.ref a), .val (.int p1), .val (.int p2), .val (.int p3), .val (.int p4), .val (.int p5), .unset, .val (.int (((p2 + p3) - (1 : Int32)) - p1)), .unset] [(.int (10 : Int32)), (.ref tb), (.ref tb)])) rfl (hb hby own_d3_101)) ?_
      show OFin p e below s _ _ _ (T45.setTop (mkF m 104 #[.val (.ref a), .val (.int p1), .val (.int p2), .val (.int p3), .val (.int p4), .val (.int p5), .unset, .val (.int (((p2 + p3) - (1 : Int32)) - p1)), .unset] [(.long (10000000000 : Int64)), (.int (10 : Int32)), (.ref tb), (.ref tb)]))
      obtain ⟨cl49, Ar49, q49, S49, N49, H49, G49⟩ := id f46
      have hin49 : ¬ ((10 : Int32) < 0 ∨ cl49.slots.size ≤ ((10 : Int32)).toNatClampNeg) := inb_of S49 ⟨by decide, by decide⟩
      obtain ⟨T49, h49, X49, e49, W49, st49⟩ := stJ X45 hx hZ e45 Ar49 (j := (10 : Int32)) hin49 (g := (mkF m 104 #[.val (.ref a), .val (.int p1), .val (.int p2), .val (.int p3), .val (.int p4), .val (.int p5), .unset, .val (.int (((p2 + p3) - (1 : Int32)) - p1)), .unset] [(.long (10000000000 : Int64)), (.int (10 : Int32)), (.ref tb), (.ref tb)])) rfl rfl (hb hby own_d3_104)
      have f50 := Arv.set Ar49 q49 S49 N49 H49 G49 rfl W49 10 rfl (Nat.le_of_ble_eq_true rfl)
      have f51 := f47.other W49 ne_a_tb
      clear f47
      have sz49 : n0 ≤ h49.size := by rw [W49.size]; exact sz45
      clear sz45
      have fr49 := Fr.snoc X49 fr45 g_tb
      clear fr45
      have kp49 := kp45.wr W49 (Or.inr kz_tb)
      clear kp45
      refine own_st (st49) ?_
      clear st49 X45 e45 W49 Ar49 q49 S49 N49 H49 G49 hin49 f46
      show OFin p e below s _ _ _ (T49.setTop (mkF m 105 #[.val (.ref a), .val (.int p1), .val (.int p2), .val (.int p3), .val (.int p4), .val (.int p5), .unset, .val (.int (((p2 + p3) - (1 : Int32)) - p1)), .unset] [(.ref tb)]))
      refine own_st (fun _ kS => XS.astore X49.here hx rfl (hb hby own_d3_105) rfl rfl (l' := #[.val (.ref a), .val (.int p1), .val (.int p2), .val (.int p3), .val (.int p4), .val (.int p5), .unset, .val (.int (((p2 + p3) - (1 : Int32)) - p1)), .val (.ref tb)]) rfl kS) ?_
      show OFin p e below s _ _ _ (T49.setTop (mkF m 107 #[.val (.ref a), .val (.int p1), .val (.int p2), .val (.int p3), .val (.int p4), .val (.int p5), .unset, .val (.int (((p2 + p3) - (1 : Int32)) - p1)), .val (.ref tb)] []))
      refine own_st (X49.ldc2Long hx hown (mvT hZ (own_w hw 24 rfl)) (g := (mkF m 107 #[.val (.ref a), .val (.int p1), .val (.int p2), .val (.int p3), .val (.int p4), .val (.int p5), .unset, .val (.int (((p2 + p3) - (1 : Int32)) - p1)), .val (.ref tb)] [])) rfl (hb hby own_d3_107)) ?_
      show OFin p e below s _ _ _ (T49.setTop (mkF m 110 #[.val (.ref a), .val (.int p1), .val (.int p2), .val (.int p3), .val (.int p4), .val (.int p5), .unset, .val (.int (((p2 + p3) - (1 : Int32)) - p1)), .val (.ref tb)] [(.long (48 : Int64))]))
      refine own_st (fun _ kS => XS.iload X49.here hx rfl (hb hby own_d3_110) rfl kS) ?_
      show OFin p e below s _ _ _ (T49.setTop (mkF m 112 #[.val (.ref a), .val (.int p1), .val (.int p2), .val (.int p3), .val (.int p4), .val (.int p5), .unset, .val (.int (((p2 + p3) - (1 : Int32)) - p1)), .val (.ref tb)] [(.int p4), (.long (48 : Int64))]))
      refine own_st (fun _ kS => XS.i2l X49.here hx rfl (hb hby own_d3_112) rfl kS) ?_
      show OFin p e below s _ _ _ (T49.setTop (mkF m 113 #[.val (.ref a), .val (.int p1), .val (.int p2), .val (.int p3), .val (.int p4), .val (.int p5), .unset, .val (.int (((p2 + p3) - (1 : Int32)) - p1)), .val (.ref tb)] [(.long (p4.toInt64)), (.long (48 : Int64))]))
      refine own_st (fun _ kS => XS.aload X49.here hx rfl (hb hby own_d3_113) rfl rfl kS) ?_
      show OFin p e below s _ _ _ (T49.setTop (mkF m 115 #[.val (.ref a), .val (.int p1), .val (.int p2), .val (.int p3), .val (.int p4), .val (.int p5), .unset, .val (.int (((p2 + p3) - (1 : Int32)) - p1)), .val (.ref tb)] [(.ref tb), (.long (p4.toInt64)), (.long (48 : Int64))]))
      refine own_st (fun _ kS => XS.iload X49.here hx rfl (hb hby own_d3_115) rfl kS) ?_
      show OFin p e below s _ _ _ (T49.setTop (mkF m 117 #[.val (.ref a), .val (.int p1), .val (.int p2), .val (.int p3), .val (.int p4), .val (.int p5), .unset, .val (.int (((p2 + p3) - (1 : Int32)) - p1)), .val (.ref tb)] [(.int (((p2 + p3) - (1 : Int32)) - p1)), (.ref tb), (.long (p4.toInt64)), (.long (48 : Int64))]))
      have f53 : OArr Z h49 tb .long 11 (fun i => .long (own_p10 i)) := OArr.of f50 rfl (fun i hi => by rcases (by omega : i = 0 ∨ i = 1 ∨ i = 2 ∨ i = 3 ∨ i = 4 ∨ i = 5 ∨ i = 6 ∨ i = 7 ∨ i = 8 ∨ i = 9 ∨ i = 10) with rfl | rfl | rfl | rfl | rfl | rfl | rfl | rfl | rfl | rfl | rfl <;> rfl)
      obtain ⟨cl54, Ar54, S54, B54, H54⟩ := id f53
      refine own_st (X49.laload hx (j := (((p2 + p3) - (1 : Int32)) - p1)) (v := (.long (own_p10 kn))) (by rw [e49]; exact Ar54.1) (State.isArrayOf_alike hZ.alike Ar54.2.1) Ar54.2.2 (own_inb S54 q2 q3 k1) (own_hv H54 q3 k1) (g := (mkF m 117 #[.val (.ref a), .val (.int p1), .val (.int p2), .val (.int p3), .val (.int p4), .val (.int p5), .unset, .val (.int (((p2 + p3) - (1 : Int32)) - p1)), .val (.ref tb)] [(.int (((p2 + p3) - (1 : Int32)) - p1)), (.ref tb), (.long (p4.toInt64)), (.long (48 : Int64))])) rfl rfl (hb hby own_d3_117)) ?_
      clear Ar54 S54 B54 H54
      show OFin p e below s _ _ _ (T49.setTop (mkF m 118 #[.val (.ref a), .val (.int p1), .val (.int p2), .val (.int p3), .val (.int p4), .val (.int p5), .unset, .val (.int (((p2 + p3) - (1 : Int32)) - p1)), .val (.ref tb)] [(.long (own_p10 kn)), (.long (p4.toInt64)), (.long (48 : Int64))]))
      refine own_st (fun _ kS => XS.ldiv X49.here hx rfl (hb hby own_d3_118) rfl (own_p10_nz kn k1) kS) ?_
      show OFin p e below s _ _ _ (T49.setTop (mkF m 119 #[.val (.ref a), .val (.int p1), .val (.int p2), .val (.int p3), .val (.int p4), .val (.int p5), .unset, .val (.int (((p2 + p3) - (1 : Int32)) - p1)), .val (.ref tb)] [(.long ((p4.toInt64) / (own_p10 kn))), (.long (48 : Int64))]))
      refine own_st (X49.ldc2Long hx hown (mvT hZ (own_w hw 14 rfl)) (g := (mkF m 119 #[.val (.ref a), .val (.int p1), .val (.int p2), .val (.int p3), .val (.int p4), .val (.int p5), .unset, .val (.int (((p2 + p3) - (1 : Int32)) - p1)), .val (.ref tb)] [(.long ((p4.toInt64) / (own_p10 kn))), (.long (48 : Int64))])) rfl (hb hby own_d3_119)) ?_
      show OFin p e below s _ _ _ (T49.setTop (mkF m 122 #[.val (.ref a), .val (.int p1), .val (.int p2), .val (.int p3), .val (.int p4), .val (.int p5), .unset, .val (.int (((p2 + p3) - (1 : Int32)) - p1)), .val (.ref tb)] [(.long (10 : Int64)), (.long ((p4.toInt64) / (own_p10 kn))), (.long (48 : Int64))]))
      refine own_st (fun _ kS => XS.lrem X49.here hx rfl (hb hby own_d3_122) rfl (by decide) kS) ?_
      show OFin p e below s _ _ _ (T49.setTop (mkF m 123 #[.val (.ref a), .val (.int p1), .val (.int p2), .val (.int p3), .val (.int p4), .val (.int p5), .unset, .val (.int (((p2 + p3) - (1 : Int32)) - p1)), .val (.ref tb)] [(.long (((p4.toInt64) / (own_p10 kn)) - (((p4.toInt64) / (own_p10 kn)) / (10 : Int64)) * (10 : Int64))), (.long (48 : Int64))]))
      refine own_st (fun _ kS => XS.ladd X49.here hx rfl (hb hby own_d3_123) rfl kS) ?_
      show OFin p e below s _ _ _ (T49.setTop (mkF m 124 #[.val (.ref a), .val (.int p1), .val (.int p2), .val (.int p3), .val (.int p4), .val (.int p5), .unset, .val (.int (((p2 + p3) - (1 : Int32)) - p1)), .val (.ref tb)] [(.long ((48 : Int64) + (((p4.toInt64) / (own_p10 kn)) - (((p4.toInt64) / (own_p10 kn)) / (10 : Int64)) * (10 : Int64))))]))
      refine own_st (fun _ kS => XS.l2i X49.here hx rfl (hb hby own_d3_124) rfl kS) ?_
      show OFin p e below s _ _ _ (T49.setTop (mkF m 125 #[.val (.ref a), .val (.int p1), .val (.int p2), .val (.int p3), .val (.int p4), .val (.int p5), .unset, .val (.int (((p2 + p3) - (1 : Int32)) - p1)), .val (.ref tb)] [(.int (((48 : Int64) + (((p4.toInt64) / (own_p10 kn)) - (((p4.toInt64) / (own_p10 kn)) / (10 : Int64)) * (10 : Int64))).toInt32))]))
      refine own_st (fun _ kS => XS.i2b X49.here hx rfl (hb hby own_d3_125) rfl kS) ?_
      show OFin p e below s _ _ _ (T49.setTop (mkF m 126 #[.val (.ref a), .val (.int p1), .val (.int p2), .val (.int p3), .val (.int p4), .val (.int p5), .unset, .val (.int (((p2 + p3) - (1 : Int32)) - p1)), .val (.ref tb)] [(.int ((((48 : Int64) + (((p4.toInt64) / (own_p10 kn)) - (((p4.toInt64) / (own_p10 kn)) / (10 : Int64)) * (10 : Int64))).toInt32).toInt8.toInt32))]))
      refine own_st (fun _ kS => XS.istore X49.here hx rfl (hb hby own_d3_126) rfl (l' := #[.val (.ref a), .val (.int p1), .val (.int p2), .val (.int p3), .val (.int p4), .val (.int p5), .val (.int ((((48 : Int64) + (((p4.toInt64) / (own_p10 kn)) - (((p4.toInt64) / (own_p10 kn)) / (10 : Int64)) * (10 : Int64))).toInt32).toInt8.toInt32)), .val (.int (((p2 + p3) - (1 : Int32)) - p1)), .val (.ref tb)]) rfl kS) ?_
      show OFin p e below s _ _ _ (T49.setTop (mkF m 128 #[.val (.ref a), .val (.int p1), .val (.int p2), .val (.int p3), .val (.int p4), .val (.int p5), .val (.int ((((48 : Int64) + (((p4.toInt64) / (own_p10 kn)) - (((p4.toInt64) / (own_p10 kn)) / (10 : Int64)) * (10 : Int64))).toInt32).toInt8.toInt32)), .val (.int (((p2 + p3) - (1 : Int32)) - p1)), .val (.ref tb)] []))
      refine own_st (fun _ kS => XS.aloadN X49.here hx rfl (hb hby own_d3_128) rfl rfl kS) ?_
      show OFin p e below s _ _ _ (T49.setTop (mkF m 129 #[.val (.ref a), .val (.int p1), .val (.int p2), .val (.int p3), .val (.int p4), .val (.int p5), .val (.int ((((48 : Int64) + (((p4.toInt64) / (own_p10 kn)) - (((p4.toInt64) / (own_p10 kn)) / (10 : Int64)) * (10 : Int64))).toInt32).toInt8.toInt32)), .val (.int (((p2 + p3) - (1 : Int32)) - p1)), .val (.ref tb)] [(.ref a)]))
      refine own_st (fun _ kS => XS.iloadN X49.here hx rfl (hb hby own_d3_129) rfl kS) ?_
      show OFin p e below s _ _ _ (T49.setTop (mkF m 130 #[.val (.ref a), .val (.int p1), .val (.int p2), .val (.int p3), .val (.int p4), .val (.int p5), .val (.int ((((48 : Int64) + (((p4.toInt64) / (own_p10 kn)) - (((p4.toInt64) / (own_p10 kn)) / (10 : Int64)) * (10 : Int64))).toInt32).toInt8.toInt32)), .val (.int (((p2 + p3) - (1 : Int32)) - p1)), .val (.ref tb)] [(.int p1), (.ref a)]))
      obtain ⟨cl55, Ar55, S55, B55, H55⟩ := id f51
      refine own_st (X49.baloadBytes hx (j := p1) (v := (.int (fb pn))) (by rw [e49]; exact Ar55.1) (State.isArrayOf_alike hZ.alike Ar55.2.1) Ar55.2.2 (own_inb S55 q0 q1 hpn) (own_hv H55 q1 hpn) (g := (mkF m 130 #[.val (.ref a), .val (.int p1), .val (.int p2), .val (.int p3), .val (.int p4), .val (.int p5), .val (.int ((((48 : Int64) + (((p4.toInt64) / (own_p10 kn)) - (((p4.toInt64) / (own_p10 kn)) / (10 : Int64)) * (10 : Int64))).toInt32).toInt8.toInt32)), .val (.int (((p2 + p3) - (1 : Int32)) - p1)), .val (.ref tb)] [(.int p1), (.ref a)])) rfl rfl (hb hby own_d3_130)) ?_
      clear Ar55 S55 B55 H55
      show OFin p e below s _ _ _ (T49.setTop (mkF m 131 #[.val (.ref a), .val (.int p1), .val (.int p2), .val (.int p3), .val (.int p4), .val (.int p5), .val (.int ((((48 : Int64) + (((p4.toInt64) / (own_p10 kn)) - (((p4.toInt64) / (own_p10 kn)) / (10 : Int64)) * (10 : Int64))).toInt32).toInt8.toInt32)), .val (.int (((p2 + p3) - (1 : Int32)) - p1)), .val (.ref tb)] [(.int (fb pn))]))
      refine own_st (fun _ kS => XS.iload X49.here hx rfl (hb hby own_d3_131) rfl kS) ?_
      show OFin p e below s _ _ _ (T49.setTop (mkF m 133 #[.val (.ref a), .val (.int p1), .val (.int p2), .val (.int p3), .val (.int p4), .val (.int p5), .val (.int ((((48 : Int64) + (((p4.toInt64) / (own_p10 kn)) - (((p4.toInt64) / (own_p10 kn)) / (10 : Int64)) * (10 : Int64))).toInt32).toInt8.toInt32)), .val (.int (((p2 + p3) - (1 : Int32)) - p1)), .val (.ref tb)] [(.int ((((48 : Int64) + (((p4.toInt64) / (own_p10 kn)) - (((p4.toInt64) / (own_p10 kn)) / (10 : Int64)) * (10 : Int64))).toInt32).toInt8.toInt32)), (.int (fb pn))]))
      refine own_st (fun _ kS => XS.icmpNo X49.here hx rfl (hb hby own_d3_133) rfl (teq k3).2 kS) ?_
      show OFin p e below s _ _ _ (T49.setTop (mkF m 136 #[.val (.ref a), .val (.int p1), .val (.int p2), .val (.int p3), .val (.int p4), .val (.int p5), .val (.int ((((48 : Int64) + (((p4.toInt64) / (own_p10 kn)) - (((p4.toInt64) / (own_p10 kn)) / (10 : Int64)) * (10 : Int64))).toInt32).toInt8.toInt32)), .val (.int (((p2 + p3) - (1 : Int32)) - p1)), .val (.ref tb)] []))
      refine own_st (fun _ kS => XS.iconst X49.here hx rfl (hb hby own_d3_136) kS) ?_
      show OFin p e below s _ _ _ (T49.setTop (mkF m 137 #[.val (.ref a), .val (.int p1), .val (.int p2), .val (.int p3), .val (.int p4), .val (.int p5), .val (.int ((((48 : Int64) + (((p4.toInt64) / (own_p10 kn)) - (((p4.toInt64) / (own_p10 kn)) / (10 : Int64)) * (10 : Int64))).toInt32).toInt8.toInt32)), .val (.int (((p2 + p3) - (1 : Int32)) - p1)), .val (.ref tb)] [(.int (1 : Int32))]))
      refine own_st (fun _ kS => XS.goto X49.here hx rfl (pc0 := 137) (pc' := 141) rfl (hb hby own_d3_137) (by decide) (by decide) kS) ?_
      show OFin p e below s _ _ _ (T49.setTop (mkF m 141 #[.val (.ref a), .val (.int p1), .val (.int p2), .val (.int p3), .val (.int p4), .val (.int p5), .val (.int ((((48 : Int64) + (((p4.toInt64) / (own_p10 kn)) - (((p4.toInt64) / (own_p10 kn)) / (10 : Int64)) * (10 : Int64))).toInt32).toInt8.toInt32)), .val (.int (((p2 + p3) - (1 : Int32)) - p1)), .val (.ref tb)] [(.int (1 : Int32))]))
      exact own_ret X49 hx (t := .boolean) hret hlk rfl (Or.inl ⟨rfl, by simp, _, rfl⟩) (hb hby own_d3_141) (by decide) (by decide) ⟨rfl, fr49, (by rw [e49]; exact kp49)⟩
    · refine own_st (fun _ kS => XS.icmpNo X0.here hx rfl (hb hby own_d3_9) rfl (flt c2).1 kS) ?_
      show OFin p e below s _ _ _ (T0.setTop (mkF m 12 #[.val (.ref a), .val (.int p1), .val (.int p2), .val (.int p3), .val (.int p4), .val (.int p5), .unset, .unset, .unset] []))
      refine own_st (fun _ kS => XS.iload X0.here hx rfl (hb hby own_d3_12) rfl kS) ?_
      show OFin p e below s _ _ _ (T0.setTop (mkF m 14 #[.val (.ref a), .val (.int p1), .val (.int p2), .val (.int p3), .val (.int p4), .val (.int p5), .unset, .unset, .unset] [(.int p5)]))
      refine own_st (fun _ kS => XS.iloadN X0.here hx rfl (hb hby own_d3_14) rfl kS) ?_
      show OFin p e below s _ _ _ (T0.setTop (mkF m 15 #[.val (.ref a), .val (.int p1), .val (.int p2), .val (.int p3), .val (.int p4), .val (.int p5), .unset, .unset, .unset] [(.int p1), (.int p5)]))
      obtain ⟨v56, T56, L56, X56, hQ56, st56⟩ := own_static X0 hx hZ (y := (⟨"io/countersign/TimestampFormWriteDigitsPinLaw", "before", "(II)B"⟩ : MethodName)) (rm := ⟨0, 0, 0, 0⟩) (W := 0) (argsL := [(.int p5), (.int p1)]) (rest := []) hown (own_w hw 2 rfl) (own_w hw 3 rfl) (own_w hw 4 rfl) (own_w hw 5 rfl) (rmB l Z a0 hw p5 p1 h0) e0 (g := (mkF m 15 #[.val (.ref a), .val (.int p1), .val (.int p2), .val (.int p3), .val (.int p4), .val (.int p5), .unset, .unset, .unset] [(.int p1), (.int p5)])) rfl (by rw [hml]; rfl) (lenOf own_pd0 rfl) rfl (by show 2 * 0 + _ ≤ _; exact Nat.le_of_eq rfl) (hb hby own_d3_15) (by decide) (by decide) (by decide) (by decide)
      obtain ⟨rfl, e56, rfl⟩ := hQ56
      rw [List.append_nil] at X56
      refine own_st (st56) ?_
      clear st56 X0 e0
      show OFin p e below s _ _ _ (T56.setTop (mkF m 18 #[.val (.ref a), .val (.int p1), .val (.int p2), .val (.int p3), .val (.int p4), .val (.int p5), .unset, .unset, .unset] [(.int (own_bf p5 p1))]))
      refine own_st (fun _ kS => XS.istore X56.here hx rfl (hb hby own_d3_18) rfl (l' := #[.val (.ref a), .val (.int p1), .val (.int p2), .val (.int p3), .val (.int p4), .val (.int p5), .val (.int (own_bf p5 p1)), .unset, .unset]) rfl kS) ?_
      show OFin p e below s _ _ _ (T56.setTop (mkF m 20 #[.val (.ref a), .val (.int p1), .val (.int p2), .val (.int p3), .val (.int p4), .val (.int p5), .val (.int (own_bf p5 p1)), .unset, .unset] []))
      refine own_st (fun _ kS => XS.goto X56.here hx rfl (pc0 := 20) (pc' := 128) rfl (hb hby own_d3_20) (by decide) (by decide) kS) ?_
      show OFin p e below s _ _ _ (T56.setTop (mkF m 128 #[.val (.ref a), .val (.int p1), .val (.int p2), .val (.int p3), .val (.int p4), .val (.int p5), .val (.int (own_bf p5 p1)), .unset, .unset] []))
      refine own_st (fun _ kS => XS.aloadN X56.here hx rfl (hb hby own_d3_128) rfl rfl kS) ?_
      show OFin p e below s _ _ _ (T56.setTop (mkF m 129 #[.val (.ref a), .val (.int p1), .val (.int p2), .val (.int p3), .val (.int p4), .val (.int p5), .val (.int (own_bf p5 p1)), .unset, .unset] [(.ref a)]))
      refine own_st (fun _ kS => XS.iloadN X56.here hx rfl (hb hby own_d3_129) rfl kS) ?_
      show OFin p e below s _ _ _ (T56.setTop (mkF m 130 #[.val (.ref a), .val (.int p1), .val (.int p2), .val (.int p3), .val (.int p4), .val (.int p5), .val (.int (own_bf p5 p1)), .unset, .unset] [(.int p1), (.ref a)]))
      obtain ⟨cl57, Ar57, S57, B57, H57⟩ := id F0
      refine own_st (X56.baloadBytes hx (j := p1) (v := (.int (fb pn))) (by rw [e56]; exact Ar57.1) (State.isArrayOf_alike hZ.alike Ar57.2.1) Ar57.2.2 (own_inb S57 q0 q1 hpn) (own_hv H57 q1 hpn) (g := (mkF m 130 #[.val (.ref a), .val (.int p1), .val (.int p2), .val (.int p3), .val (.int p4), .val (.int p5), .val (.int (own_bf p5 p1)), .unset, .unset] [(.int p1), (.ref a)])) rfl rfl (hb hby own_d3_130)) ?_
      clear Ar57 S57 B57 H57
      show OFin p e below s _ _ _ (T56.setTop (mkF m 131 #[.val (.ref a), .val (.int p1), .val (.int p2), .val (.int p3), .val (.int p4), .val (.int p5), .val (.int (own_bf p5 p1)), .unset, .unset] [(.int (fb pn))]))
      refine own_st (fun _ kS => XS.iload X56.here hx rfl (hb hby own_d3_131) rfl kS) ?_
      show OFin p e below s _ _ _ (T56.setTop (mkF m 133 #[.val (.ref a), .val (.int p1), .val (.int p2), .val (.int p3), .val (.int p4), .val (.int p5), .val (.int (own_bf p5 p1)), .unset, .unset] [(.int (own_bf p5 p1)), (.int (fb pn))]))
      refine own_st (fun _ kS => XS.icmpNo X56.here hx rfl (hb hby own_d3_133) rfl (teq (hX (Or.inr c2))).2 kS) ?_
      show OFin p e below s _ _ _ (T56.setTop (mkF m 136 #[.val (.ref a), .val (.int p1), .val (.int p2), .val (.int p3), .val (.int p4), .val (.int p5), .val (.int (own_bf p5 p1)), .unset, .unset] []))
      refine own_st (fun _ kS => XS.iconst X56.here hx rfl (hb hby own_d3_136) kS) ?_
      show OFin p e below s _ _ _ (T56.setTop (mkF m 137 #[.val (.ref a), .val (.int p1), .val (.int p2), .val (.int p3), .val (.int p4), .val (.int p5), .val (.int (own_bf p5 p1)), .unset, .unset] [(.int (1 : Int32))]))
      refine own_st (fun _ kS => XS.goto X56.here hx rfl (pc0 := 137) (pc' := 141) rfl (hb hby own_d3_137) (by decide) (by decide) kS) ?_
      show OFin p e below s _ _ _ (T56.setTop (mkF m 141 #[.val (.ref a), .val (.int p1), .val (.int p2), .val (.int p3), .val (.int p4), .val (.int p5), .val (.int (own_bf p5 p1)), .unset, .unset] [(.int (1 : Int32))]))
      exact own_ret X56 hx (t := .boolean) hret hlk rfl (Or.inl ⟨rfl, by simp, _, rfl⟩) (hb hby own_d3_141) (by decide) (by decide) ⟨rfl, N0, (by rw [e56]; exact kp0)⟩
theorem own_sum {st cn : Int32} (hst : 0 ≤ st.toInt ∧ st.toInt + cn.toInt ≤ 12) (hcn : 0 ≤ cn.toInt ∧ cn.toInt < 12) : (st + cn).toInt = st.toInt + cn.toInt := Jvm.Kit.i32_add (by omega) (by omega)
theorem own_X (i : Nat) {st cn vv p4 : Int32} {fb : Nat → Int32} (hst : 0 ≤ st.toInt ∧ st.toInt + cn.toInt ≤ 12) (hcn : 0 ≤ cn.toInt ∧ cn.toInt < 12) (hfb : fb = own_wr (fun i => own_bf p4 (Int32.ofNat i)) st.toInt.toNat cn.toInt.toNat vv) {j : Int32} (hi : i < 12) (hj : j = Int32.ofNat i) :
    (j < st ∨ ¬ j < st + cn) → fb i = own_bf p4 j := by
  intro q
  have e := own_sum hst hcn
  have ej : j.toInt = i := by rw [hj]; exact Int32.toInt_ofNat_small (by omega)
  rw [own_lt, own_lt, e, ej] at q
  rw [hfb, own_wr_eq, if_neg (by omega), hj]
theorem own_Y (i : Nat) {st cn vv p4 : Int32} {fb : Nat → Int32} (hst : 0 ≤ st.toInt ∧ st.toInt + cn.toInt ≤ 12) (hcn : 0 ≤ cn.toInt ∧ cn.toInt < 12) (hv : 0 ≤ vv.toInt) (hfb : fb = own_wr (fun i => own_bf p4 (Int32.ofNat i)) st.toInt.toNat cn.toInt.toNat vv) {j : Int32} (hi : i < 12) (hj : j = Int32.ofNat i) :
    ¬ j < st → j < st + cn → ∃ kn : Nat, kn < 11 ∧ (st + cn - 1 - j).toInt = kn ∧ fb i = own_dl vv kn := by
  intro q1 q2
  have e := own_sum hst hcn
  have ej : j.toInt = i := by rw [hj]; exact Int32.toInt_ofNat_small (by omega)
  rw [own_lt, ej] at q1
  rw [own_lt, e, ej] at q2
  have e2 : (st + cn - 1).toInt = (st + cn).toInt - 1 := Jvm.Kit.i32_sub (by show _ ≤ _ - 1; omega) (by show _ - 1 < _; omega)
  have e3 : (st + cn - 1 - j).toInt = (st + cn - 1).toInt - j.toInt := Jvm.Kit.i32_sub (by omega) (by omega)
  refine ⟨st.toInt.toNat + cn.toInt.toNat - 1 - i, by omega, by omega, ?_⟩
  rw [hfb, own_wr_eq, if_pos (by omega)]
  exact own_dl_eq hv (by omega)
set_option maxRecDepth 65536 in
set_option maxHeartbeats 40000000 in
theorem rm0 (l : Launch) (Z : State) (a0 : Array Value) (hw : ∀ d ∈ tables_1, d.before a0 Z = true) (p1 : Int32) (p2 : Int32) (p3 : Int32) (p4 : Int32) (h0 : Heap) (n0 : Nat) (Z0 : n0 ≤ h0.size)  :
    OMet l Z x code maxLocals ret room_1 #[(.int p1), (.int p2), (.int p3), (.int p4)] h0 (fun v h L => v = some (.int (1 : Int32)) ∧ Fr n0 L) := by
  refine own_enter own_pn0 ?_
  intro p e s m below meth c T0 X0 hC e0
  obtain ⟨hx, hZ, hby, hml, hown, hret, hlk, hnm⟩ := hC
  have hown : s.vm.findClass "io/countersign/TimestampFormWriteDigitsPinLaw" = some m.cls := hown
  refine own_at (own_ef0_IIII m p1 p2 p3 p4) ?_
  show OFin p e below s _ _ _ (T0.setTop (mkF m 0 #[.val (.int p1), .val (.int p2), .val (.int p3), .val (.int p4), .unset, .unset, .unset, .unset] []))
  have N0 := Fr.nil n0
  refine own_st (fun _ kS => XS.iloadN X0.here hx rfl (hb hby at_0) rfl kS) ?_
  show OFin p e below s _ _ _ (T0.setTop (mkF m 1 #[.val (.int p1), .val (.int p2), .val (.int p3), .val (.int p4), .unset, .unset, .unset, .unset] [(.int p2)]))
  refine own_st (X0.ldcInt hx hown (mvT hZ (own_w hw 0 rfl)) (g := (mkF m 1 #[.val (.int p1), .val (.int p2), .val (.int p3), .val (.int p4), .unset, .unset, .unset, .unset] [(.int p2)])) rfl (hb hby at_1)) ?_
  show OFin p e below s _ _ _ (T0.setTop (mkF m 3 #[.val (.int p1), .val (.int p2), .val (.int p3), .val (.int p4), .unset, .unset, .unset, .unset] [(.int (2147483647 : Int32)), (.int p2)]))
  refine own_st (fun _ kS => XS.iand X0.here hx rfl (hb hby at_3) rfl kS) ?_
  show OFin p e below s _ _ _ (T0.setTop (mkF m 4 #[.val (.int p1), .val (.int p2), .val (.int p3), .val (.int p4), .unset, .unset, .unset, .unset] [(.int (p2 &&& (2147483647 : Int32)))]))
  refine own_st (fun _ kS => XS.bipush X0.here hx rfl (hb hby at_4) kS) ?_
  show OFin p e below s _ _ _ (T0.setTop (mkF m 6 #[.val (.int p1), .val (.int p2), .val (.int p3), .val (.int p4), .unset, .unset, .unset, .unset] [(.int (12 : Int32)), (.int (p2 &&& (2147483647 : Int32)))]))
  refine own_st (fun _ kS => iremM (g := (mkF m 6 #[.val (.int p1), .val (.int p2), .val (.int p3), .val (.int p4), .unset, .unset, .unset, .unset] [(.int (12 : Int32)), (.int (p2 &&& (2147483647 : Int32)))])) X0 hx rfl (hb hby at_6) rfl (by decide) kS) ?_
  show OFin p e below s _ _ _ (T0.setTop (mkF m 7 #[.val (.int p1), .val (.int p2), .val (.int p3), .val (.int p4), .unset, .unset, .unset, .unset] [(.int ((p2 &&& (2147483647 : Int32)) % (12 : Int32)))]))
  refine own_st (fun _ kS => XS.istore X0.here hx rfl (hb hby at_7) rfl (l' := #[.val (.int p1), .val (.int p2), .val (.int p3), .val (.int p4), .val (.int ((p2 &&& (2147483647 : Int32)) % (12 : Int32))), .unset, .unset, .unset]) rfl kS) ?_
  show OFin p e below s _ _ _ (T0.setTop (mkF m 9 #[.val (.int p1), .val (.int p2), .val (.int p3), .val (.int p4), .val (.int ((p2 &&& (2147483647 : Int32)) % (12 : Int32))), .unset, .unset, .unset] []))
  have hcn := own_cnt p2
  generalize ((p2 &&& (2147483647 : Int32)) % (12 : Int32)) = cn at hcn ⊢
  show OFin p e below s _ _ _ (T0.setTop (mkF m 9 #[.val (.int p1), .val (.int p2), .val (.int p3), .val (.int p4), .val (.int cn), .unset, .unset, .unset] []))
  refine own_st (fun _ kS => XS.iloadN X0.here hx rfl (hb hby at_9) rfl kS) ?_
  show OFin p e below s _ _ _ (T0.setTop (mkF m 10 #[.val (.int p1), .val (.int p2), .val (.int p3), .val (.int p4), .val (.int cn), .unset, .unset, .unset] [(.int p1)]))
  refine own_st (X0.ldcInt hx hown (mvT hZ (own_w hw 0 rfl)) (g := (mkF m 10 #[.val (.int p1), .val (.int p2), .val (.int p3), .val (.int p4), .val (.int cn), .unset, .unset, .unset] [(.int p1)])) rfl (hb hby at_10)) ?_
  show OFin p e below s _ _ _ (T0.setTop (mkF m 12 #[.val (.int p1), .val (.int p2), .val (.int p3), .val (.int p4), .val (.int cn), .unset, .unset, .unset] [(.int (2147483647 : Int32)), (.int p1)]))
  refine own_st (fun _ kS => XS.iand X0.here hx rfl (hb hby at_12) rfl kS) ?_
  show OFin p e below s _ _ _ (T0.setTop (mkF m 13 #[.val (.int p1), .val (.int p2), .val (.int p3), .val (.int p4), .val (.int cn), .unset, .unset, .unset] [(.int (p1 &&& (2147483647 : Int32)))]))
  refine own_st (fun _ kS => XS.bipush X0.here hx rfl (hb hby at_13) kS) ?_
  show OFin p e below s _ _ _ (T0.setTop (mkF m 15 #[.val (.int p1), .val (.int p2), .val (.int p3), .val (.int p4), .val (.int cn), .unset, .unset, .unset] [(.int (13 : Int32)), (.int (p1 &&& (2147483647 : Int32)))]))
  refine own_st (fun _ kS => XS.iload X0.here hx rfl (hb hby at_15) rfl kS) ?_
  show OFin p e below s _ _ _ (T0.setTop (mkF m 17 #[.val (.int p1), .val (.int p2), .val (.int p3), .val (.int p4), .val (.int cn), .unset, .unset, .unset] [(.int cn), (.int (13 : Int32)), (.int (p1 &&& (2147483647 : Int32)))]))
  refine own_st (fun _ kS => XS.isub X0.here hx rfl (hb hby at_17) rfl kS) ?_
  show OFin p e below s _ _ _ (T0.setTop (mkF m 18 #[.val (.int p1), .val (.int p2), .val (.int p3), .val (.int p4), .val (.int cn), .unset, .unset, .unset] [(.int ((13 : Int32) - cn)), (.int (p1 &&& (2147483647 : Int32)))]))
  refine own_st (fun _ kS => iremM (g := (mkF m 18 #[.val (.int p1), .val (.int p2), .val (.int p3), .val (.int p4), .val (.int cn), .unset, .unset, .unset] [(.int ((13 : Int32) - cn)), (.int (p1 &&& (2147483647 : Int32)))])) X0 hx rfl (hb hby at_18) rfl (own_13z hcn) kS) ?_
  show OFin p e below s _ _ _ (T0.setTop (mkF m 19 #[.val (.int p1), .val (.int p2), .val (.int p3), .val (.int p4), .val (.int cn), .unset, .unset, .unset] [(.int ((p1 &&& (2147483647 : Int32)) % ((13 : Int32) - cn)))]))
  refine own_st (fun _ kS => XS.istore X0.here hx rfl (hb hby at_19) rfl (l' := #[.val (.int p1), .val (.int p2), .val (.int p3), .val (.int p4), .val (.int cn), .val (.int ((p1 &&& (2147483647 : Int32)) % ((13 : Int32) - cn))), .unset, .unset]) rfl kS) ?_
  show OFin p e below s _ _ _ (T0.setTop (mkF m 21 #[.val (.int p1), .val (.int p2), .val (.int p3), .val (.int p4), .val (.int cn), .val (.int ((p1 &&& (2147483647 : Int32)) % ((13 : Int32) - cn))), .unset, .unset] []))
  have hst := own_str p1 hcn
  generalize ((p1 &&& (2147483647 : Int32)) % ((13 : Int32) - cn)) = st at hst ⊢
  show OFin p e below s _ _ _ (T0.setTop (mkF m 21 #[.val (.int p1), .val (.int p2), .val (.int p3), .val (.int p4), .val (.int cn), .val (.int st), .unset, .unset] []))
  refine own_st (fun _ kS => XS.iloadN X0.here hx rfl (hb hby at_21) rfl kS) ?_
  show OFin p e below s _ _ _ (T0.setTop (mkF m 22 #[.val (.int p1), .val (.int p2), .val (.int p3), .val (.int p4), .val (.int cn), .val (.int st), .unset, .unset] [(.int p3)]))
  refine own_st (X0.ldcInt hx hown (mvT hZ (own_w hw 0 rfl)) (g := (mkF m 22 #[.val (.int p1), .val (.int p2), .val (.int p3), .val (.int p4), .val (.int cn), .val (.int st), .unset, .unset] [(.int p3)])) rfl (hb hby at_22)) ?_
  show OFin p e below s _ _ _ (T0.setTop (mkF m 24 #[.val (.int p1), .val (.int p2), .val (.int p3), .val (.int p4), .val (.int cn), .val (.int st), .unset, .unset] [(.int (2147483647 : Int32)), (.int p3)]))
  refine own_st (fun _ kS => XS.iand X0.here hx rfl (hb hby at_24) rfl kS) ?_
  show OFin p e below s _ _ _ (T0.setTop (mkF m 25 #[.val (.int p1), .val (.int p2), .val (.int p3), .val (.int p4), .val (.int cn), .val (.int st), .unset, .unset] [(.int (p3 &&& (2147483647 : Int32)))]))
  refine own_st (fun _ kS => XS.istore X0.here hx rfl (hb hby at_25) rfl (l' := #[.val (.int p1), .val (.int p2), .val (.int p3), .val (.int p4), .val (.int cn), .val (.int st), .val (.int (p3 &&& (2147483647 : Int32))), .unset]) rfl kS) ?_
  show OFin p e below s _ _ _ (T0.setTop (mkF m 27 #[.val (.int p1), .val (.int p2), .val (.int p3), .val (.int p4), .val (.int cn), .val (.int st), .val (.int (p3 &&& (2147483647 : Int32))), .unset] []))
  have hv := own_m31 p3
  generalize (p3 &&& (2147483647 : Int32)) = vv at hv ⊢
  show OFin p e below s _ _ _ (T0.setTop (mkF m 27 #[.val (.int p1), .val (.int p2), .val (.int p3), .val (.int p4), .val (.int cn), .val (.int st), .val (.int vv), .unset] []))
  refine own_st (fun _ kS => XS.bipush X0.here hx rfl (hb hby at_27) kS) ?_
  show OFin p e below s _ _ _ (T0.setTop (mkF m 29 #[.val (.int p1), .val (.int p2), .val (.int p3), .val (.int p4), .val (.int cn), .val (.int st), .val (.int vv), .unset] [(.int (12 : Int32))]))
  obtain ⟨T58, h58, k58, X58, e58, E58, A58, st58⟩ := newP X0 hx hZ (own_w hw 1 rfl) e0 (g := (mkF m 29 #[.val (.int p1), .val (.int p2), .val (.int p3), .val (.int p4), .val (.int cn), .val (.int st), .val (.int vv), .unset] [(.int (12 : Int32))])) rfl (hb hby at_29) rfl (by decide) (cap := 12) (by decide) (by decide) (by decide) (by decide)
  obtain ⟨tx, g58⟩ : ∃ z, z = h0.size := ⟨_, rfl⟩
  rw [← g58] at A58 st58
  have g_tx : n0 ≤ tx := Nat.le_trans Z0 (Nat.le_of_eq g58.symm)
  have f59 : Arv Z h58 tx k58 .byte (12 : Int32) [(.int (0 : Int32)), (.int (0 : Int32)), (.int (0 : Int32)), (.int (0 : Int32)), (.int (0 : Int32)), (.int (0 : Int32)), (.int (0 : Int32)), (.int (0 : Int32)), (.int (0 : Int32)), (.int (0 : Int32)), (.int (0 : Int32)), (.int (0 : Int32))] (.int (0 : Int32)) := (Arv.new A58 (by decide)).pad (pad_rep [] (.int (0 : Int32)) 12)
  have sz58 : n0 ≤ h58.size := Nat.le_trans Z0 E58.1
  refine own_st (st58) ?_
  clear st58 X0 e0 E58 g58
  show OFin p e below s _ _ _ (T58.setTop (mkF m 31 #[.val (.int p1), .val (.int p2), .val (.int p3), .val (.int p4), .val (.int cn), .val (.int st), .val (.int vv), .unset] [(.ref tx)]))
  refine own_st (fun _ kS => XS.astore X58.here hx rfl (hb hby at_31) rfl rfl (l' := #[.val (.int p1), .val (.int p2), .val (.int p3), .val (.int p4), .val (.int cn), .val (.int st), .val (.int vv), .val (.ref tx)]) rfl kS) ?_
  show OFin p e below s _ _ _ (T58.setTop (mkF m 33 #[.val (.int p1), .val (.int p2), .val (.int p3), .val (.int p4), .val (.int cn), .val (.int st), .val (.int vv), .val (.ref tx)] []))
  refine own_st (fun _ kS => XS.aload X58.here hx rfl (hb hby at_33) rfl rfl kS) ?_
  show OFin p e below s _ _ _ (T58.setTop (mkF m 35 #[.val (.int p1), .val (.int p2), .val (.int p3), .val (.int p4), .val (.int cn), .val (.int st), .val (.int vv), .val (.ref tx)] [(.ref tx)]))
  refine own_st (fun _ kS => XS.iconst X58.here hx rfl (hb hby at_35) kS) ?_
  show OFin p e below s _ _ _ (T58.setTop (mkF m 36 #[.val (.int p1), .val (.int p2), .val (.int p3), .val (.int p4), .val (.int cn), .val (.int st), .val (.int vv), .val (.ref tx)] [(.int (0 : Int32)), (.ref tx)]))
  refine own_st (fun _ kS => XS.iloadN X58.here hx rfl (hb hby at_36) rfl kS) ?_
  show OFin p e below s _ _ _ (T58.setTop (mkF m 37 #[.val (.int p1), .val (.int p2), .val (.int p3), .val (.int p4), .val (.int cn), .val (.int st), .val (.int vv), .val (.ref tx)] [(.int p4), (.int (0 : Int32)), (.ref tx)]))
  refine own_st (fun _ kS => XS.iconst X58.here hx rfl (hb hby at_37) kS) ?_
  show OFin p e below s _ _ _ (T58.setTop (mkF m 38 #[.val (.int p1), .val (.int p2), .val (.int p3), .val (.int p4), .val (.int cn), .val (.int st), .val (.int vv), .val (.ref tx)] [(.int (0 : Int32)), (.int p4), (.int (0 : Int32)), (.ref tx)]))
  obtain ⟨v60, T60, L60, X60, hQ60, st60⟩ := own_static X58 hx hZ (y := (⟨"io/countersign/TimestampFormWriteDigitsPinLaw", "before", "(II)B"⟩ : MethodName)) (rm := ⟨0, 0, 0, 0⟩) (W := 2) (argsL := [(.int p4), (.int (0 : Int32))]) (rest := [(.int (0 : Int32)), (.ref tx)]) hown (own_w hw 2 rfl) (own_w hw 3 rfl) (own_w hw 4 rfl) (own_w hw 5 rfl) (rmB l Z a0 hw p4 (0 : Int32) h58) e58 (g := (mkF m 38 #[.val (.int p1), .val (.int p2), .val (.int p3), .val (.int p4), .val (.int cn), .val (.int st), .val (.int vv), .val (.ref tx)] [(.int (0 : Int32)), (.int p4), (.int (0 : Int32)), (.ref tx)])) rfl (by rw [hml]; rfl) (lenOf own_pd0 rfl) rfl (by show 2 * 0 + _ ≤ _; exact Nat.le_of_eq rfl) (hb hby at_38) (by decide) (by decide) (by decide) (by decide)
  obtain ⟨rfl, e60, rfl⟩ := hQ60
  rw [List.append_nil] at X60
  refine own_st (st60) ?_
  clear st60 X58 e58
  show OFin p e below s _ _ _ (T60.setTop (mkF m 41 #[.val (.int p1), .val (.int p2), .val (.int p3), .val (.int p4), .val (.int cn), .val (.int st), .val (.int vv), .val (.ref tx)] [(.int (own_bf p4 (0 : Int32))), (.int (0 : Int32)), (.ref tx)]))
  obtain ⟨cl61, Ar61, q61, S61, N61, H61, G61⟩ := id f59
  have hin61 : ¬ ((0 : Int32) < 0 ∨ cl61.slots.size ≤ ((0 : Int32)).toNatClampNeg) := inb_of S61 ⟨by decide, by decide⟩
  obtain ⟨T61, h61, X61, e61, W61, st61⟩ := stB X60 hx hZ e60 Ar61 (j := (0 : Int32)) hin61 (g := (mkF m 41 #[.val (.int p1), .val (.int p2), .val (.int p3), .val (.int p4), .val (.int cn), .val (.int st), .val (.int vv), .val (.ref tx)] [(.int (own_bf p4 (0 : Int32))), (.int (0 : Int32)), (.ref tx)])) rfl rfl (hb hby at_41)
  have f62 := Arv.set Ar61 q61 S61 N61 H61 G61 (fits_nar_byte _) W61 0 rfl (Nat.le_of_ble_eq_true rfl)
  have sz61 : n0 ≤ h61.size := by rw [W61.size]; exact sz58
  clear sz58
  have fr61 := Fr.snoc X61 N0 g_tx
  clear N0
  refine own_st (st61) ?_
  clear st61 X60 e60 W61 Ar61 q61 S61 N61 H61 G61 hin61 f59
  show OFin p e below s _ _ _ (T61.setTop (mkF m 42 #[.val (.int p1), .val (.int p2), .val (.int p3), .val (.int p4), .val (.int cn), .val (.int st), .val (.int vv), .val (.ref tx)] []))
  refine own_st (fun _ kS => XS.aload X61.here hx rfl (hb hby at_42) rfl rfl kS) ?_
  show OFin p e below s _ _ _ (T61.setTop (mkF m 44 #[.val (.int p1), .val (.int p2), .val (.int p3), .val (.int p4), .val (.int cn), .val (.int st), .val (.int vv), .val (.ref tx)] [(.ref tx)]))
  refine own_st (fun _ kS => XS.iconst X61.here hx rfl (hb hby at_44) kS) ?_
  show OFin p e below s _ _ _ (T61.setTop (mkF m 45 #[.val (.int p1), .val (.int p2), .val (.int p3), .val (.int p4), .val (.int cn), .val (.int st), .val (.int vv), .val (.ref tx)] [(.int (1 : Int32)), (.ref tx)]))
  refine own_st (fun _ kS => XS.iloadN X61.here hx rfl (hb hby at_45) rfl kS) ?_
  show OFin p e below s _ _ _ (T61.setTop (mkF m 46 #[.val (.int p1), .val (.int p2), .val (.int p3), .val (.int p4), .val (.int cn), .val (.int st), .val (.int vv), .val (.ref tx)] [(.int p4), (.int (1 : Int32)), (.ref tx)]))
  refine own_st (fun _ kS => XS.iconst X61.here hx rfl (hb hby at_46) kS) ?_
  show OFin p e below s _ _ _ (T61.setTop (mkF m 47 #[.val (.int p1), .val (.int p2), .val (.int p3), .val (.int p4), .val (.int cn), .val (.int st), .val (.int vv), .val (.ref tx)] [(.int (1 : Int32)), (.int p4), (.int (1 : Int32)), (.ref tx)]))
  obtain ⟨v64, T64, L64, X64, hQ64, st64⟩ := own_static X61 hx hZ (y := (⟨"io/countersign/TimestampFormWriteDigitsPinLaw", "before", "(II)B"⟩ : MethodName)) (rm := ⟨0, 0, 0, 0⟩) (W := 2) (argsL := [(.int p4), (.int (1 : Int32))]) (rest := [(.int (1 : Int32)), (.ref tx)]) hown (own_w hw 2 rfl) (own_w hw 3 rfl) (own_w hw 4 rfl) (own_w hw 5 rfl) (rmB l Z a0 hw p4 (1 : Int32) h61) e61 (g := (mkF m 47 #[.val (.int p1), .val (.int p2), .val (.int p3), .val (.int p4), .val (.int cn), .val (.int st), .val (.int vv), .val (.ref tx)] [(.int (1 : Int32)), (.int p4), (.int (1 : Int32)), (.ref tx)])) rfl (by rw [hml]; rfl) (lenOf own_pd0 rfl) rfl (by show 2 * 0 + _ ≤ _; exact Nat.le_of_eq rfl) (hb hby at_47) (by decide) (by decide) (by decide) (by decide)
  obtain ⟨rfl, e64, rfl⟩ := hQ64
  rw [List.append_nil] at X64
  refine own_st (st64) ?_
  clear st64 X61 e61
  show OFin p e below s _ _ _ (T64.setTop (mkF m 50 #[.val (.int p1), .val (.int p2), .val (.int p3), .val (.int p4), .val (.int cn), .val (.int st), .val (.int vv), .val (.ref tx)] [(.int (own_bf p4 (1 : Int32))), (.int (1 : Int32)), (.ref tx)]))
  obtain ⟨cl65, Ar65, q65, S65, N65, H65, G65⟩ := id f62
  have hin65 : ¬ ((1 : Int32) < 0 ∨ cl65.slots.size ≤ ((1 : Int32)).toNatClampNeg) := inb_of S65 ⟨by decide, by decide⟩
  obtain ⟨T65, h65, X65, e65, W65, st65⟩ := stB X64 hx hZ e64 Ar65 (j := (1 : Int32)) hin65 (g := (mkF m 50 #[.val (.int p1), .val (.int p2), .val (.int p3), .val (.int p4), .val (.int cn), .val (.int st), .val (.int vv), .val (.ref tx)] [(.int (own_bf p4 (1 : Int32))), (.int (1 : Int32)), (.ref tx)])) rfl rfl (hb hby at_50)
  have f66 := Arv.set Ar65 q65 S65 N65 H65 G65 (fits_nar_byte _) W65 1 rfl (Nat.le_of_ble_eq_true rfl)
  have sz65 : n0 ≤ h65.size := by rw [W65.size]; exact sz61
  clear sz61
  have fr65 := Fr.snoc X65 fr61 g_tx
  clear fr61
  refine own_st (st65) ?_
  clear st65 X64 e64 W65 Ar65 q65 S65 N65 H65 G65 hin65 f62
  show OFin p e below s _ _ _ (T65.setTop (mkF m 51 #[.val (.int p1), .val (.int p2), .val (.int p3), .val (.int p4), .val (.int cn), .val (.int st), .val (.int vv), .val (.ref tx)] []))
  refine own_st (fun _ kS => XS.aload X65.here hx rfl (hb hby at_51) rfl rfl kS) ?_
  show OFin p e below s _ _ _ (T65.setTop (mkF m 53 #[.val (.int p1), .val (.int p2), .val (.int p3), .val (.int p4), .val (.int cn), .val (.int st), .val (.int vv), .val (.ref tx)] [(.ref tx)]))
  refine own_st (fun _ kS => XS.iconst X65.here hx rfl (hb hby at_53) kS) ?_
  show OFin p e below s _ _ _ (T65.setTop (mkF m 54 #[.val (.int p1), .val (.int p2), .val (.int p3), .val (.int p4), .val (.int cn), .val (.int st), .val (.int vv), .val (.ref tx)] [(.int (2 : Int32)), (.ref tx)]))
  refine own_st (fun _ kS => XS.iloadN X65.here hx rfl (hb hby at_54) rfl kS) ?_
  show OFin p e below s _ _ _ (T65.setTop (mkF m 55 #[.val (.int p1), .val (.int p2), .val (.int p3), .val (.int p4), .val (.int cn), .val (.int st), .val (.int vv), .val (.ref tx)] [(.int p4), (.int (2 : Int32)), (.ref tx)]))
  refine own_st (fun _ kS => XS.iconst X65.here hx rfl (hb hby at_55) kS) ?_
  show OFin p e below s _ _ _ (T65.setTop (mkF m 56 #[.val (.int p1), .val (.int p2), .val (.int p3), .val (.int p4), .val (.int cn), .val (.int st), .val (.int vv), .val (.ref tx)] [(.int (2 : Int32)), (.int p4), (.int (2 : Int32)), (.ref tx)]))
  obtain ⟨v68, T68, L68, X68, hQ68, st68⟩ := own_static X65 hx hZ (y := (⟨"io/countersign/TimestampFormWriteDigitsPinLaw", "before", "(II)B"⟩ : MethodName)) (rm := ⟨0, 0, 0, 0⟩) (W := 2) (argsL := [(.int p4), (.int (2 : Int32))]) (rest := [(.int (2 : Int32)), (.ref tx)]) hown (own_w hw 2 rfl) (own_w hw 3 rfl) (own_w hw 4 rfl) (own_w hw 5 rfl) (rmB l Z a0 hw p4 (2 : Int32) h65) e65 (g := (mkF m 56 #[.val (.int p1), .val (.int p2), .val (.int p3), .val (.int p4), .val (.int cn), .val (.int st), .val (.int vv), .val (.ref tx)] [(.int (2 : Int32)), (.int p4), (.int (2 : Int32)), (.ref tx)])) rfl (by rw [hml]; rfl) (lenOf own_pd0 rfl) rfl (by show 2 * 0 + _ ≤ _; exact Nat.le_of_eq rfl) (hb hby at_56) (by decide) (by decide) (by decide) (by decide)
  obtain ⟨rfl, e68, rfl⟩ := hQ68
  rw [List.append_nil] at X68
  refine own_st (st68) ?_
  clear st68 X65 e65
  show OFin p e below s _ _ _ (T68.setTop (mkF m 59 #[.val (.int p1), .val (.int p2), .val (.int p3), .val (.int p4), .val (.int cn), .val (.int st), .val (.int vv), .val (.ref tx)] [(.int (own_bf p4 (2 : Int32))), (.int (2 : Int32)), (.ref tx)]))
  obtain ⟨cl69, Ar69, q69, S69, N69, H69, G69⟩ := id f66
  have hin69 : ¬ ((2 : Int32) < 0 ∨ cl69.slots.size ≤ ((2 : Int32)).toNatClampNeg) := inb_of S69 ⟨by decide, by decide⟩
  obtain ⟨T69, h69, X69, e69, W69, st69⟩ := stB X68 hx hZ e68 Ar69 (j := (2 : Int32)) hin69 (g := (mkF m 59 #[.val (.int p1), .val (.int p2), .val (.int p3), .val (.int p4), .val (.int cn), .val (.int st), .val (.int vv), .val (.ref tx)] [(.int (own_bf p4 (2 : Int32))), (.int (2 : Int32)), (.ref tx)])) rfl rfl (hb hby at_59)
  have f70 := Arv.set Ar69 q69 S69 N69 H69 G69 (fits_nar_byte _) W69 2 rfl (Nat.le_of_ble_eq_true rfl)
  have sz69 : n0 ≤ h69.size := by rw [W69.size]; exact sz65
  clear sz65
  have fr69 := Fr.snoc X69 fr65 g_tx
  clear fr65
  refine own_st (st69) ?_
  clear st69 X68 e68 W69 Ar69 q69 S69 N69 H69 G69 hin69 f66
  show OFin p e below s _ _ _ (T69.setTop (mkF m 60 #[.val (.int p1), .val (.int p2), .val (.int p3), .val (.int p4), .val (.int cn), .val (.int st), .val (.int vv), .val (.ref tx)] []))
  refine own_st (fun _ kS => XS.aload X69.here hx rfl (hb hby at_60) rfl rfl kS) ?_
  show OFin p e below s _ _ _ (T69.setTop (mkF m 62 #[.val (.int p1), .val (.int p2), .val (.int p3), .val (.int p4), .val (.int cn), .val (.int st), .val (.int vv), .val (.ref tx)] [(.ref tx)]))
  refine own_st (fun _ kS => XS.iconst X69.here hx rfl (hb hby at_62) kS) ?_
  show OFin p e below s _ _ _ (T69.setTop (mkF m 63 #[.val (.int p1), .val (.int p2), .val (.int p3), .val (.int p4), .val (.int cn), .val (.int st), .val (.int vv), .val (.ref tx)] [(.int (3 : Int32)), (.ref tx)]))
  refine own_st (fun _ kS => XS.iloadN X69.here hx rfl (hb hby at_63) rfl kS) ?_
  show OFin p e below s _ _ _ (T69.setTop (mkF m 64 #[.val (.int p1), .val (.int p2), .val (.int p3), .val (.int p4), .val (.int cn), .val (.int st), .val (.int vv), .val (.ref tx)] [(.int p4), (.int (3 : Int32)), (.ref tx)]))
  refine own_st (fun _ kS => XS.iconst X69.here hx rfl (hb hby at_64) kS) ?_
  show OFin p e below s _ _ _ (T69.setTop (mkF m 65 #[.val (.int p1), .val (.int p2), .val (.int p3), .val (.int p4), .val (.int cn), .val (.int st), .val (.int vv), .val (.ref tx)] [(.int (3 : Int32)), (.int p4), (.int (3 : Int32)), (.ref tx)]))
  obtain ⟨v72, T72, L72, X72, hQ72, st72⟩ := own_static X69 hx hZ (y := (⟨"io/countersign/TimestampFormWriteDigitsPinLaw", "before", "(II)B"⟩ : MethodName)) (rm := ⟨0, 0, 0, 0⟩) (W := 2) (argsL := [(.int p4), (.int (3 : Int32))]) (rest := [(.int (3 : Int32)), (.ref tx)]) hown (own_w hw 2 rfl) (own_w hw 3 rfl) (own_w hw 4 rfl) (own_w hw 5 rfl) (rmB l Z a0 hw p4 (3 : Int32) h69) e69 (g := (mkF m 65 #[.val (.int p1), .val (.int p2), .val (.int p3), .val (.int p4), .val (.int cn), .val (.int st), .val (.int vv), .val (.ref tx)] [(.int (3 : Int32)), (.int p4), (.int (3 : Int32)), (.ref tx)])) rfl (by rw [hml]; rfl) (lenOf own_pd0 rfl) rfl (by show 2 * 0 + _ ≤ _; exact Nat.le_of_eq rfl) (hb hby at_65) (by decide) (by decide) (by decide) (by decide)
  obtain ⟨rfl, e72, rfl⟩ := hQ72
  rw [List.append_nil] at X72
  refine own_st (st72) ?_
  clear st72 X69 e69
  show OFin p e below s _ _ _ (T72.setTop (mkF m 68 #[.val (.int p1), .val (.int p2), .val (.int p3), .val (.int p4), .val (.int cn), .val (.int st), .val (.int vv), .val (.ref tx)] [(.int (own_bf p4 (3 : Int32))), (.int (3 : Int32)), (.ref tx)]))
  obtain ⟨cl73, Ar73, q73, S73, N73, H73, G73⟩ := id f70
  have hin73 : ¬ ((3 : Int32) < 0 ∨ cl73.slots.size ≤ ((3 : Int32)).toNatClampNeg) := inb_of S73 ⟨by decide, by decide⟩
  obtain ⟨T73, h73, X73, e73, W73, st73⟩ := stB X72 hx hZ e72 Ar73 (j := (3 : Int32)) hin73 (g := (mkF m 68 #[.val (.int p1), .val (.int p2), .val (.int p3), .val (.int p4), .val (.int cn), .val (.int st), .val (.int vv), .val (.ref tx)] [(.int (own_bf p4 (3 : Int32))), (.int (3 : Int32)), (.ref tx)])) rfl rfl (hb hby at_68)
  have f74 := Arv.set Ar73 q73 S73 N73 H73 G73 (fits_nar_byte _) W73 3 rfl (Nat.le_of_ble_eq_true rfl)
  have sz73 : n0 ≤ h73.size := by rw [W73.size]; exact sz69
  clear sz69
  have fr73 := Fr.snoc X73 fr69 g_tx
  clear fr69
  refine own_st (st73) ?_
  clear st73 X72 e72 W73 Ar73 q73 S73 N73 H73 G73 hin73 f70
  show OFin p e below s _ _ _ (T73.setTop (mkF m 69 #[.val (.int p1), .val (.int p2), .val (.int p3), .val (.int p4), .val (.int cn), .val (.int st), .val (.int vv), .val (.ref tx)] []))
  refine own_st (fun _ kS => XS.aload X73.here hx rfl (hb hby at_69) rfl rfl kS) ?_
  show OFin p e below s _ _ _ (T73.setTop (mkF m 71 #[.val (.int p1), .val (.int p2), .val (.int p3), .val (.int p4), .val (.int cn), .val (.int st), .val (.int vv), .val (.ref tx)] [(.ref tx)]))
  refine own_st (fun _ kS => XS.iconst X73.here hx rfl (hb hby at_71) kS) ?_
  show OFin p e below s _ _ _ (T73.setTop (mkF m 72 #[.val (.int p1), .val (.int p2), .val (.int p3), .val (.int p4), .val (.int cn), .val (.int st), .val (.int vv), .val (.ref tx)] [(.int (4 : Int32)), (.ref tx)]))
  refine own_st (fun _ kS => XS.iloadN X73.here hx rfl (hb hby at_72) rfl kS) ?_
  show OFin p e below s _ _ _ (T73.setTop (mkF m 73 #[.val (.int p1), .val (.int p2), .val (.int p3), .val (.int p4), .val (.int cn), .val (.int st), .val (.int vv), .val (.ref tx)] [(.int p4), (.int (4 : Int32)), (.ref tx)]))
  refine own_st (fun _ kS => XS.iconst X73.here hx rfl (hb hby at_73) kS) ?_
  show OFin p e below s _ _ _ (T73.setTop (mkF m 74 #[.val (.int p1), .val (.int p2), .val (.int p3), .val (.int p4), .val (.int cn), .val (.int st), .val (.int vv), .val (.ref tx)] [(.int (4 : Int32)), (.int p4), (.int (4 : Int32)), (.ref tx)]))
  obtain ⟨v76, T76, L76, X76, hQ76, st76⟩ := own_static X73 hx hZ (y := (⟨"io/countersign/TimestampFormWriteDigitsPinLaw", "before", "(II)B"⟩ : MethodName)) (rm := ⟨0, 0, 0, 0⟩) (W := 2) (argsL := [(.int p4), (.int (4 : Int32))]) (rest := [(.int (4 : Int32)), (.ref tx)]) hown (own_w hw 2 rfl) (own_w hw 3 rfl) (own_w hw 4 rfl) (own_w hw 5 rfl) (rmB l Z a0 hw p4 (4 : Int32) h73) e73 (g := (mkF m 74 #[.val (.int p1), .val (.int p2), .val (.int p3), .val (.int p4), .val (.int cn), .val (.int st), .val (.int vv), .val (.ref tx)] [(.int (4 : Int32)), (.int p4), (.int (4 : Int32)), (.ref tx)])) rfl (by rw [hml]; rfl) (lenOf own_pd0 rfl) rfl (by show 2 * 0 + _ ≤ _; exact Nat.le_of_eq rfl) (hb hby at_74) (by decide) (by decide) (by decide) (by decide)
  obtain ⟨rfl, e76, rfl⟩ := hQ76
  rw [List.append_nil] at X76
  refine own_st (st76) ?_
  clear st76 X73 e73
  show OFin p e below s _ _ _ (T76.setTop (mkF m 77 #[.val (.int p1), .val (.int p2), .val (.int p3), .val (.int p4), .val (.int cn), .val (.int st), .val (.int vv), .val (.ref tx)] [(.int (own_bf p4 (4 : Int32))), (.int (4 : Int32)), (.ref tx)]))
  obtain ⟨cl77, Ar77, q77, S77, N77, H77, G77⟩ := id f74
  have hin77 : ¬ ((4 : Int32) < 0 ∨ cl77.slots.size ≤ ((4 : Int32)).toNatClampNeg) := inb_of S77 ⟨by decide, by decide⟩
  obtain ⟨T77, h77, X77, e77, W77, st77⟩ := stB X76 hx hZ e76 Ar77 (j := (4 : Int32)) hin77 (g := (mkF m 77 #[.val (.int p1), .val (.int p2), .val (.int p3), .val (.int p4), .val (.int cn), .val (.int st), .val (.int vv), .val (.ref tx)] [(.int (own_bf p4 (4 : Int32))), (.int (4 : Int32)), (.ref tx)])) rfl rfl (hb hby at_77)
  have f78 := Arv.set Ar77 q77 S77 N77 H77 G77 (fits_nar_byte _) W77 4 rfl (Nat.le_of_ble_eq_true rfl)
  have sz77 : n0 ≤ h77.size := by rw [W77.size]; exact sz73
  clear sz73
  have fr77 := Fr.snoc X77 fr73 g_tx
  clear fr73
  refine own_st (st77) ?_
  clear st77 X76 e76 W77 Ar77 q77 S77 N77 H77 G77 hin77 f74
  show OFin p e below s _ _ _ (T77.setTop (mkF m 78 #[.val (.int p1), .val (.int p2), .val (.int p3), .val (.int p4), .val (.int cn), .val (.int st), .val (.int vv), .val (.ref tx)] []))
  refine own_st (fun _ kS => XS.aload X77.here hx rfl (hb hby at_78) rfl rfl kS) ?_
  show OFin p e below s _ _ _ (T77.setTop (mkF m 80 #[.val (.int p1), .val (.int p2), .val (.int p3), .val (.int p4), .val (.int cn), .val (.int st), .val (.int vv), .val (.ref tx)] [(.ref tx)]))
  refine own_st (fun _ kS => XS.iconst X77.here hx rfl (hb hby at_80) kS) ?_
  show OFin p e below s _ _ _ (T77.setTop (mkF m 81 #[.val (.int p1), .val (.int p2), .val (.int p3), .val (.int p4), .val (.int cn), .val (.int st), .val (.int vv), .val (.ref tx)] [(.int (5 : Int32)), (.ref tx)]))
  refine own_st (fun _ kS => XS.iloadN X77.here hx rfl (hb hby at_81) rfl kS) ?_
  show OFin p e below s _ _ _ (T77.setTop (mkF m 82 #[.val (.int p1), .val (.int p2), .val (.int p3), .val (.int p4), .val (.int cn), .val (.int st), .val (.int vv), .val (.ref tx)] [(.int p4), (.int (5 : Int32)), (.ref tx)]))
  refine own_st (fun _ kS => XS.iconst X77.here hx rfl (hb hby at_82) kS) ?_
  show OFin p e below s _ _ _ (T77.setTop (mkF m 83 #[.val (.int p1), .val (.int p2), .val (.int p3), .val (.int p4), .val (.int cn), .val (.int st), .val (.int vv), .val (.ref tx)] [(.int (5 : Int32)), (.int p4), (.int (5 : Int32)), (.ref tx)]))
  obtain ⟨v80, T80, L80, X80, hQ80, st80⟩ := own_static X77 hx hZ (y := (⟨"io/countersign/TimestampFormWriteDigitsPinLaw", "before", "(II)B"⟩ : MethodName)) (rm := ⟨0, 0, 0, 0⟩) (W := 2) (argsL := [(.int p4), (.int (5 : Int32))]) (rest := [(.int (5 : Int32)), (.ref tx)]) hown (own_w hw 2 rfl) (own_w hw 3 rfl) (own_w hw 4 rfl) (own_w hw 5 rfl) (rmB l Z a0 hw p4 (5 : Int32) h77) e77 (g := (mkF m 83 #[.val (.int p1), .val (.int p2), .val (.int p3), .val (.int p4), .val (.int cn), .val (.int st), .val (.int vv), .val (.ref tx)] [(.int (5 : Int32)), (.int p4), (.int (5 : Int32)), (.ref tx)])) rfl (by rw [hml]; rfl) (lenOf own_pd0 rfl) rfl (by show 2 * 0 + _ ≤ _; exact Nat.le_of_eq rfl) (hb hby at_83) (by decide) (by decide) (by decide) (by decide)
  obtain ⟨rfl, e80, rfl⟩ := hQ80
  rw [List.append_nil] at X80
  refine own_st (st80) ?_
  clear st80 X77 e77
  show OFin p e below s _ _ _ (T80.setTop (mkF m 86 #[.val (.int p1), .val (.int p2), .val (.int p3), .val (.int p4), .val (.int cn), .val (.int st), .val (.int vv), .val (.ref tx)] [(.int (own_bf p4 (5 : Int32))), (.int (5 : Int32)), (.ref tx)]))
  obtain ⟨cl81, Ar81, q81, S81, N81, H81, G81⟩ := id f78
  have hin81 : ¬ ((5 : Int32) < 0 ∨ cl81.slots.size ≤ ((5 : Int32)).toNatClampNeg) := inb_of S81 ⟨by decide, by decide⟩
  obtain ⟨T81, h81, X81, e81, W81, st81⟩ := stB X80 hx hZ e80 Ar81 (j := (5 : Int32)) hin81 (g := (mkF m 86 #[.val (.int p1), .val (.int p2), .val (.int p3), .val (.int p4), .val (.int cn), .val (.int st), .val (.int vv), .val (.ref tx)] [(.int (own_bf p4 (5 : Int32))), (.int (5 : Int32)), (.ref tx)])) rfl rfl (hb hby at_86)
  have f82 := Arv.set Ar81 q81 S81 N81 H81 G81 (fits_nar_byte _) W81 5 rfl (Nat.le_of_ble_eq_true rfl)
  have sz81 : n0 ≤ h81.size := by rw [W81.size]; exact sz77
  clear sz77
  have fr81 := Fr.snoc X81 fr77 g_tx
  clear fr77
  refine own_st (st81) ?_
  clear st81 X80 e80 W81 Ar81 q81 S81 N81 H81 G81 hin81 f78
  show OFin p e below s _ _ _ (T81.setTop (mkF m 87 #[.val (.int p1), .val (.int p2), .val (.int p3), .val (.int p4), .val (.int cn), .val (.int st), .val (.int vv), .val (.ref tx)] []))
  refine own_st (fun _ kS => XS.aload X81.here hx rfl (hb hby at_87) rfl rfl kS) ?_
  show OFin p e below s _ _ _ (T81.setTop (mkF m 89 #[.val (.int p1), .val (.int p2), .val (.int p3), .val (.int p4), .val (.int cn), .val (.int st), .val (.int vv), .val (.ref tx)] [(.ref tx)]))
  refine own_st (fun _ kS => XS.bipush X81.here hx rfl (hb hby at_89) kS) ?_
  show OFin p e below s _ _ _ (T81.setTop (mkF m 91 #[.val (.int p1), .val (.int p2), .val (.int p3), .val (.int p4), .val (.int cn), .val (.int st), .val (.int vv), .val (.ref tx)] [(.int (6 : Int32)), (.ref tx)]))
  refine own_st (fun _ kS => XS.iloadN X81.here hx rfl (hb hby at_91) rfl kS) ?_
  show OFin p e below s _ _ _ (T81.setTop (mkF m 92 #[.val (.int p1), .val (.int p2), .val (.int p3), .val (.int p4), .val (.int cn), .val (.int st), .val (.int vv), .val (.ref tx)] [(.int p4), (.int (6 : Int32)), (.ref tx)]))
  refine own_st (fun _ kS => XS.bipush X81.here hx rfl (hb hby at_92) kS) ?_
  show OFin p e below s _ _ _ (T81.setTop (mkF m 94 #[.val (.int p1), .val (.int p2), .val (.int p3), .val (.int p4), .val (.int cn), .val (.int st), .val (.int vv), .val (.ref tx)] [(.int (6 : Int32)), (.int p4), (.int (6 : Int32)), (.ref tx)]))
  obtain ⟨v84, T84, L84, X84, hQ84, st84⟩ := own_static X81 hx hZ (y := (⟨"io/countersign/TimestampFormWriteDigitsPinLaw", "before", "(II)B"⟩ : MethodName)) (rm := ⟨0, 0, 0, 0⟩) (W := 2) (argsL := [(.int p4), (.int (6 : Int32))]) (rest := [(.int (6 : Int32)), (.ref tx)]) hown (own_w hw 2 rfl) (own_w hw 3 rfl) (own_w hw 4 rfl) (own_w hw 5 rfl) (rmB l Z a0 hw p4 (6 : Int32) h81) e81 (g := (mkF m 94 #[.val (.int p1), .val (.int p2), .val (.int p3), .val (.int p4), .val (.int cn), .val (.int st), .val (.int vv), .val (.ref tx)] [(.int (6 : Int32)), (.int p4), (.int (6 : Int32)), (.ref tx)])) rfl (by rw [hml]; rfl) (lenOf own_pd0 rfl) rfl (by show 2 * 0 + _ ≤ _; exact Nat.le_of_eq rfl) (hb hby at_94) (by decide) (by decide) (by decide) (by decide)
  obtain ⟨rfl, e84, rfl⟩ := hQ84
  rw [List.append_nil] at X84
  refine own_st (st84) ?_
  clear st84 X81 e81
  show OFin p e below s _ _ _ (T84.setTop (mkF m 97 #[.val (.int p1), .val (.int p2), .val (.int p3), .val (.int p4), .val (.int cn), .val (.int st), .val (.int vv), .val (.ref tx)] [(.int (own_bf p4 (6 : Int32))), (.int (6 : Int32)), (.ref tx)]))
  obtain ⟨cl85, Ar85, q85, S85, N85, H85, G85⟩ := id f82
  have hin85 : ¬ ((6 : Int32) < 0 ∨ cl85.slots.size ≤ ((6 : Int32)).toNatClampNeg) := inb_of S85 ⟨by decide, by decide⟩
  obtain ⟨T85, h85, X85, e85, W85, st85⟩ := stB X84 hx hZ e84 Ar85 (j := (6 : Int32)) hin85 (g := (mkF m 97 #[.val (.int p1), .val (.int p2), .val (.int p3), .val (.int p4), .val (.int cn), .val (.int st), .val (.int vv), .val (.ref tx)] [(.int (own_bf p4 (6 : Int32))), (.int (6 : Int32)), (.ref tx)])) rfl rfl (hb hby at_97)
  have f86 := Arv.set Ar85 q85 S85 N85 H85 G85 (fits_nar_byte _) W85 6 rfl (Nat.le_of_ble_eq_true rfl)
  have sz85 : n0 ≤ h85.size := by rw [W85.size]; exact sz81
  clear sz81
  have fr85 := Fr.snoc X85 fr81 g_tx
  clear fr81
  refine own_st (st85) ?_
  clear st85 X84 e84 W85 Ar85 q85 S85 N85 H85 G85 hin85 f82
  show OFin p e below s _ _ _ (T85.setTop (mkF m 98 #[.val (.int p1), .val (.int p2), .val (.int p3), .val (.int p4), .val (.int cn), .val (.int st), .val (.int vv), .val (.ref tx)] []))
  refine own_st (fun _ kS => XS.aload X85.here hx rfl (hb hby at_98) rfl rfl kS) ?_
  show OFin p e below s _ _ _ (T85.setTop (mkF m 100 #[.val (.int p1), .val (.int p2), .val (.int p3), .val (.int p4), .val (.int cn), .val (.int st), .val (.int vv), .val (.ref tx)] [(.ref tx)]))
  refine own_st (fun _ kS => XS.bipush X85.here hx rfl (hb hby at_100) kS) ?_
  show OFin p e below s _ _ _ (T85.setTop (mkF m 102 #[.val (.int p1), .val (.int p2), .val (.int p3), .val (.int p4), .val (.int cn), .val (.int st), .val (.int vv), .val (.ref tx)] [(.int (7 : Int32)), (.ref tx)]))
  refine own_st (fun _ kS => XS.iloadN X85.here hx rfl (hb hby at_102) rfl kS) ?_
  show OFin p e below s _ _ _ (T85.setTop (mkF m 103 #[.val (.int p1), .val (.int p2), .val (.int p3), .val (.int p4), .val (.int cn), .val (.int st), .val (.int vv), .val (.ref tx)] [(.int p4), (.int (7 : Int32)), (.ref tx)]))
  refine own_st (fun _ kS => XS.bipush X85.here hx rfl (hb hby at_103) kS) ?_
  show OFin p e below s _ _ _ (T85.setTop (mkF m 105 #[.val (.int p1), .val (.int p2), .val (.int p3), .val (.int p4), .val (.int cn), .val (.int st), .val (.int vv), .val (.ref tx)] [(.int (7 : Int32)), (.int p4), (.int (7 : Int32)), (.ref tx)]))
  obtain ⟨v88, T88, L88, X88, hQ88, st88⟩ := own_static X85 hx hZ (y := (⟨"io/countersign/TimestampFormWriteDigitsPinLaw", "before", "(II)B"⟩ : MethodName)) (rm := ⟨0, 0, 0, 0⟩) (W := 2) (argsL := [(.int p4), (.int (7 : Int32))]) (rest := [(.int (7 : Int32)), (.ref tx)]) hown (own_w hw 2 rfl) (own_w hw 3 rfl) (own_w hw 4 rfl) (own_w hw 5 rfl) (rmB l Z a0 hw p4 (7 : Int32) h85) e85 (g := (mkF m 105 #[.val (.int p1), .val (.int p2), .val (.int p3), .val (.int p4), .val (.int cn), .val (.int st), .val (.int vv), .val (.ref tx)] [(.int (7 : Int32)), (.int p4), (.int (7 : Int32)), (.ref tx)])) rfl (by rw [hml]; rfl) (lenOf own_pd0 rfl) rfl (by show 2 * 0 + _ ≤ _; exact Nat.le_of_eq rfl) (hb hby at_105) (by decide) (by decide) (by decide) (by decide)
  obtain ⟨rfl, e88, rfl⟩ := hQ88
  rw [List.append_nil] at X88
  refine own_st (st88) ?_
  clear st88 X85 e85
  show OFin p e below s _ _ _ (T88.setTop (mkF m 108 #[.val (.int p1), .val (.int p2), .val (.int p3), .val (.int p4), .val (.int cn), .val (.int st), .val (.int vv), .val (.ref tx)] [(.int (own_bf p4 (7 : Int32))), (.int (7 : Int32)), (.ref tx)]))
  obtain ⟨cl89, Ar89, q89, S89, N89, H89, G89⟩ := id f86
  have hin89 : ¬ ((7 : Int32) < 0 ∨ cl89.slots.size ≤ ((7 : Int32)).toNatClampNeg) := inb_of S89 ⟨by decide, by decide⟩
  obtain ⟨T89, h89, X89, e89, W89, st89⟩ := stB X88 hx hZ e88 Ar89 (j := (7 : Int32)) hin89 (g := (mkF m 108 #[.val (.int p1), .val (.int p2), .val (.int p3), .val (.int p4), .val (.int cn), .val (.int st), .val (.int vv), .val (.ref tx)] [(.int (own_bf p4 (7 : Int32))), (.int (7 : Int32)), (.ref tx)])) rfl rfl (hb hby at_108)
  have f90 := Arv.set Ar89 q89 S89 N89 H89 G89 (fits_nar_byte _) W89 7 rfl (Nat.le_of_ble_eq_true rfl)
  have sz89 : n0 ≤ h89.size := by rw [W89.size]; exact sz85
  clear sz85
  have fr89 := Fr.snoc X89 fr85 g_tx
  clear fr85
  refine own_st (st89) ?_
  clear st89 X88 e88 W89 Ar89 q89 S89 N89 H89 G89 hin89 f86
  show OFin p e below s _ _ _ (T89.setTop (mkF m 109 #[.val (.int p1), .val (.int p2), .val (.int p3), .val (.int p4), .val (.int cn), .val (.int st), .val (.int vv), .val (.ref tx)] []))
  refine own_st (fun _ kS => XS.aload X89.here hx rfl (hb hby at_109) rfl rfl kS) ?_
  show OFin p e below s _ _ _ (T89.setTop (mkF m 111 #[.val (.int p1), .val (.int p2), .val (.int p3), .val (.int p4), .val (.int cn), .val (.int st), .val (.int vv), .val (.ref tx)] [(.ref tx)]))
  refine own_st (fun _ kS => XS.bipush X89.here hx rfl (hb hby at_111) kS) ?_
  show OFin p e below s _ _ _ (T89.setTop (mkF m 113 #[.val (.int p1), .val (.int p2), .val (.int p3), .val (.int p4), .val (.int cn), .val (.int st), .val (.int vv), .val (.ref tx)] [(.int (8 : Int32)), (.ref tx)]))
  refine own_st (fun _ kS => XS.iloadN X89.here hx rfl (hb hby at_113) rfl kS) ?_
  show OFin p e below s _ _ _ (T89.setTop (mkF m 114 #[.val (.int p1), .val (.int p2), .val (.int p3), .val (.int p4), .val (.int cn), .val (.int st), .val (.int vv), .val (.ref tx)] [(.int p4), (.int (8 : Int32)), (.ref tx)]))
  refine own_st (fun _ kS => XS.bipush X89.here hx rfl (hb hby at_114) kS) ?_
  show OFin p e below s _ _ _ (T89.setTop (mkF m 116 #[.val (.int p1), .val (.int p2), .val (.int p3), .val (.int p4), .val (.int cn), .val (.int st), .val (.int vv), .val (.ref tx)] [(.int (8 : Int32)), (.int p4), (.int (8 : Int32)), (.ref tx)]))
  obtain ⟨v92, T92, L92, X92, hQ92, st92⟩ := own_static X89 hx hZ (y := (⟨"io/countersign/TimestampFormWriteDigitsPinLaw", "before", "(II)B"⟩ : MethodName)) (rm := ⟨0, 0, 0, 0⟩) (W := 2) (argsL := [(.int p4), (.int (8 : Int32))]) (rest := [(.int (8 : Int32)), (.ref tx)]) hown (own_w hw 2 rfl) (own_w hw 3 rfl) (own_w hw 4 rfl) (own_w hw 5 rfl) (rmB l Z a0 hw p4 (8 : Int32) h89) e89 (g := (mkF m 116 #[.val (.int p1), .val (.int p2), .val (.int p3), .val (.int p4), .val (.int cn), .val (.int st), .val (.int vv), .val (.ref tx)] [(.int (8 : Int32)), (.int p4), (.int (8 : Int32)), (.ref tx)])) rfl (by rw [hml]; rfl) (lenOf own_pd0 rfl) rfl (by show 2 * 0 + _ ≤ _; exact Nat.le_of_eq rfl) (hb hby at_116) (by decide) (by decide) (by decide) (by decide)
  obtain ⟨rfl, e92, rfl⟩ := hQ92
  rw [List.append_nil] at X92
  refine own_st (st92) ?_
  clear st92 X89 e89
  show OFin p e below s _ _ _ (T92.setTop (mkF m 119 #[.val (.int p1), .val (.int p2), .val (.int p3), .val (.int p4), .val (.int cn), .val (.int st), .val (.int vv), .val (.ref tx)] [(.int (own_bf p4 (8 : Int32))), (.int (8 : Int32)), (.ref tx)]))
  obtain ⟨cl93, Ar93, q93, S93, N93, H93, G93⟩ := id f90
  have hin93 : ¬ ((8 : Int32) < 0 ∨ cl93.slots.size ≤ ((8 : Int32)).toNatClampNeg) := inb_of S93 ⟨by decide, by decide⟩
  obtain ⟨T93, h93, X93, e93, W93, st93⟩ := stB X92 hx hZ e92 Ar93 (j := (8 : Int32)) hin93 (g := (mkF m 119 #[.val (.int p1), .val (.int p2), .val (.int p3), .val (.int p4), .val (.int cn), .val (.int st), .val (.int vv), .val (.ref tx)] [(.int (own_bf p4 (8 : Int32))), (.int (8 : Int32)), (.ref tx)])) rfl rfl (hb hby at_119)
  have f94 := Arv.set Ar93 q93 S93 N93 H93 G93 (fits_nar_byte _) W93 8 rfl (Nat.le_of_ble_eq_true rfl)
  have sz93 : n0 ≤ h93.size := by rw [W93.size]; exact sz89
  clear sz89
  have fr93 := Fr.snoc X93 fr89 g_tx
  clear fr89
  refine own_st (st93) ?_
  clear st93 X92 e92 W93 Ar93 q93 S93 N93 H93 G93 hin93 f90
  show OFin p e below s _ _ _ (T93.setTop (mkF m 120 #[.val (.int p1), .val (.int p2), .val (.int p3), .val (.int p4), .val (.int cn), .val (.int st), .val (.int vv), .val (.ref tx)] []))
  refine own_st (fun _ kS => XS.aload X93.here hx rfl (hb hby at_120) rfl rfl kS) ?_
  show OFin p e below s _ _ _ (T93.setTop (mkF m 122 #[.val (.int p1), .val (.int p2), .val (.int p3), .val (.int p4), .val (.int cn), .val (.int st), .val (.int vv), .val (.ref tx)] [(.ref tx)]))
  refine own_st (fun _ kS => XS.bipush X93.here hx rfl (hb hby at_122) kS) ?_
  show OFin p e below s _ _ _ (T93.setTop (mkF m 124 #[.val (.int p1), .val (.int p2), .val (.int p3), .val (.int p4), .val (.int cn), .val (.int st), .val (.int vv), .val (.ref tx)] [(.int (9 : Int32)), (.ref tx)]))
  refine own_st (fun _ kS => XS.iloadN X93.here hx rfl (hb hby at_124) rfl kS) ?_
  show OFin p e below s _ _ _ (T93.setTop (mkF m 125 #[.val (.int p1), .val (.int p2), .val (.int p3), .val (.int p4), .val (.int cn), .val (.int st), .val (.int vv), .val (.ref tx)] [(.int p4), (.int (9 : Int32)), (.ref tx)]))
  refine own_st (fun _ kS => XS.bipush X93.here hx rfl (hb hby at_125) kS) ?_
  show OFin p e below s _ _ _ (T93.setTop (mkF m 127 #[.val (.int p1), .val (.int p2), .val (.int p3), .val (.int p4), .val (.int cn), .val (.int st), .val (.int vv), .val (.ref tx)] [(.int (9 : Int32)), (.int p4), (.int (9 : Int32)), (.ref tx)]))
  obtain ⟨v96, T96, L96, X96, hQ96, st96⟩ := own_static X93 hx hZ (y := (⟨"io/countersign/TimestampFormWriteDigitsPinLaw", "before", "(II)B"⟩ : MethodName)) (rm := ⟨0, 0, 0, 0⟩) (W := 2) (argsL := [(.int p4), (.int (9 : Int32))]) (rest := [(.int (9 : Int32)), (.ref tx)]) hown (own_w hw 2 rfl) (own_w hw 3 rfl) (own_w hw 4 rfl) (own_w hw 5 rfl) (rmB l Z a0 hw p4 (9 : Int32) h93) e93 (g := (mkF m 127 #[.val (.int p1), .val (.int p2), .val (.int p3), .val (.int p4), .val (.int cn), .val (.int st), .val (.int vv), .val (.ref tx)] [(.int (9 : Int32)), (.int p4), (.int (9 : Int32)), (.ref tx)])) rfl (by rw [hml]; rfl) (lenOf own_pd0 rfl) rfl (by show 2 * 0 + _ ≤ _; exact Nat.le_of_eq rfl) (hb hby at_127) (by decide) (by decide) (by decide) (by decide)
  obtain ⟨rfl, e96, rfl⟩ := hQ96
  rw [List.append_nil] at X96
  refine own_st (st96) ?_
  clear st96 X93 e93
  show OFin p e below s _ _ _ (T96.setTop (mkF m 130 #[.val (.int p1), .val (.int p2), .val (.int p3), .val (.int p4), .val (.int cn), .val (.int st), .val (.int vv), .val (.ref tx)] [(.int (own_bf p4 (9 : Int32))), (.int (9 : Int32)), (.ref tx)]))
  obtain ⟨cl97, Ar97, q97, S97, N97, H97, G97⟩ := id f94
  have hin97 : ¬ ((9 : Int32) < 0 ∨ cl97.slots.size ≤ ((9 : Int32)).toNatClampNeg) := inb_of S97 ⟨by decide, by decide⟩
  obtain ⟨T97, h97, X97, e97, W97, st97⟩ := stB X96 hx hZ e96 Ar97 (j := (9 : Int32)) hin97 (g := (mkF m 130 #[.val (.int p1), .val (.int p2), .val (.int p3), .val (.int p4), .val (.int cn), .val (.int st), .val (.int vv), .val (.ref tx)] [(.int (own_bf p4 (9 : Int32))), (.int (9 : Int32)), (.ref tx)])) rfl rfl (hb hby at_130)
  have f98 := Arv.set Ar97 q97 S97 N97 H97 G97 (fits_nar_byte _) W97 9 rfl (Nat.le_of_ble_eq_true rfl)
  have sz97 : n0 ≤ h97.size := by rw [W97.size]; exact sz93
  clear sz93
  have fr97 := Fr.snoc X97 fr93 g_tx
  clear fr93
  refine own_st (st97) ?_
  clear st97 X96 e96 W97 Ar97 q97 S97 N97 H97 G97 hin97 f94
  show OFin p e below s _ _ _ (T97.setTop (mkF m 131 #[.val (.int p1), .val (.int p2), .val (.int p3), .val (.int p4), .val (.int cn), .val (.int st), .val (.int vv), .val (.ref tx)] []))
  refine own_st (fun _ kS => XS.aload X97.here hx rfl (hb hby at_131) rfl rfl kS) ?_
  show OFin p e below s _ _ _ (T97.setTop (mkF m 133 #[.val (.int p1), .val (.int p2), .val (.int p3), .val (.int p4), .val (.int cn), .val (.int st), .val (.int vv), .val (.ref tx)] [(.ref tx)]))
  refine own_st (fun _ kS => XS.bipush X97.here hx rfl (hb hby at_133) kS) ?_
  show OFin p e below s _ _ _ (T97.setTop (mkF m 135 #[.val (.int p1), .val (.int p2), .val (.int p3), .val (.int p4), .val (.int cn), .val (.int st), .val (.int vv), .val (.ref tx)] [(.int (10 : Int32)), (.ref tx)]))
  refine own_st (fun _ kS => XS.iloadN X97.here hx rfl (hb hby at_135) rfl kS) ?_
  show OFin p e below s _ _ _ (T97.setTop (mkF m 136 #[.val (.int p1), .val (.int p2), .val (.int p3), .val (.int p4), .val (.int cn), .val (.int st), .val (.int vv), .val (.ref tx)] [(.int p4), (.int (10 : Int32)), (.ref tx)]))
  refine own_st (fun _ kS => XS.bipush X97.here hx rfl (hb hby at_136) kS) ?_
  show OFin p e below s _ _ _ (T97.setTop (mkF m 138 #[.val (.int p1), .val (.int p2), .val (.int p3), .val (.int p4), .val (.int cn), .val (.int st), .val (.int vv), .val (.ref tx)] [(.int (10 : Int32)), (.int p4), (.int (10 : Int32)), (.ref tx)]))
  obtain ⟨v100, T100, L100, X100, hQ100, st100⟩ := own_static X97 hx hZ (y := (⟨"io/countersign/TimestampFormWriteDigitsPinLaw", "before", "(II)B"⟩ : MethodName)) (rm := ⟨0, 0, 0, 0⟩) (W := 2) (argsL := [(.int p4), (.int (10 : Int32))]) (rest := [(.int (10 : Int32)), (.ref tx)]) hown (own_w hw 2 rfl) (own_w hw 3 rfl) (own_w hw 4 rfl) (own_w hw 5 rfl) (rmB l Z a0 hw p4 (10 : Int32) h97) e97 (g := (mkF m 138 #[.val (.int p1), .val (.int p2), .val (.int p3), .val (.int p4), .val (.int cn), .val (.int st), .val (.int vv), .val (.ref tx)] [(.int (10 : Int32)), (.int p4), (.int (10 : Int32)), (.ref tx)])) rfl (by rw [hml]; rfl) (lenOf own_pd0 rfl) rfl (by show 2 * 0 + _ ≤ _; exact Nat.le_of_eq rfl) (hb hby at_138) (by decide) (by decide) (by decide) (by decide)
  obtain ⟨rfl, e100, rfl⟩ := hQ100
  rw [List.append_nil] at X100
  refine own_st (st100) ?_
  clear st100 X97 e97
  show OFin p e below s _ _ _ (T100.setTop (mkF m 141 #[.val (.int p1), .val (.int p2), .val (.int p3), .val (.int p4), .val (.int cn), .val (.int st), .val (.int vv), .val (.ref tx)] [(.int (own_bf p4 (10 : Int32))), (.int (10 : Int32)), (.ref tx)]))
  obtain ⟨cl101, Ar101, q101, S101, N101, H101, G101⟩ := id f98
  have hin101 : ¬ ((10 : Int32) < 0 ∨ cl101.slots.size ≤ ((10 : Int32)).toNatClampNeg) := inb_of S101 ⟨by decide, by decide⟩
  obtain ⟨T101, h101, X101, e101, W101, st101⟩ := stB X100 hx hZ e100 Ar101 (j := (10 : Int32)) hin101 (g := (mkF m 141 #[.val (.int p1), .val (.int p2), .val (.int p3), .val (.int p4), .val (.int cn), .val (.int st), .val (.int vv), .val (.ref tx)] [(.int (own_bf p4 (10 : Int32))), (.int (10 : Int32)), (.ref tx)])) rfl rfl (hb hby at_141)
  have f102 := Arv.set Ar101 q101 S101 N101 H101 G101 (fits_nar_byte _) W101 10 rfl (Nat.le_of_ble_eq_true rfl)
  have sz101 : n0 ≤ h101.size := by rw [W101.size]; exact sz97
  clear sz97
  have fr101 := Fr.snoc X101 fr97 g_tx
  clear fr97
  refine own_st (st101) ?_
  clear st101 X100 e100 W101 Ar101 q101 S101 N101 H101 G101 hin101 f98
  show OFin p e below s _ _ _ (T101.setTop (mkF m 142 #[.val (.int p1), .val (.int p2), .val (.int p3), .val (.int p4), .val (.int cn), .val (.int st), .val (.int vv), .val (.ref tx)] []))
  refine own_st (fun _ kS => XS.aload X101.here hx rfl (hb hby at_142) rfl rfl kS) ?_
  show OFin p e below s _ _ _ (T101.setTop (mkF m 144 #[.val (.int p1), .val (.int p2), .val (.int p3), .val (.int p4), .val (.int cn), .val (.int st), .val (.int vv), .val (.ref tx)] [(.ref tx)]))
  refine own_st (fun _ kS => XS.bipush X101.here hx rfl (hb hby at_144) kS) ?_
  show OFin p e below s _ _ _ (T101.setTop (mkF m 146 #[.val (.int p1), .val (.int p2), .val (.int p3), .val (.int p4), .val (.int cn), .val (.int st), .val (.int vv), .val (.ref tx)] [(.int (11 : Int32)), (.ref tx)]))
  refine own_st (fun _ kS => XS.iloadN X101.here hx rfl (hb hby at_146) rfl kS) ?_
  show OFin p e below s _ _ _ (T101.setTop (mkF m 147 #[.val (.int p1), .val (.int p2), .val (.int p3), .val (.int p4), .val (.int cn), .val (.int st), .val (.int vv), .val (.ref tx)] [(.int p4), (.int (11 : Int32)), (.ref tx)]))
  refine own_st (fun _ kS => XS.bipush X101.here hx rfl (hb hby at_147) kS) ?_
  show OFin p e below s _ _ _ (T101.setTop (mkF m 149 #[.val (.int p1), .val (.int p2), .val (.int p3), .val (.int p4), .val (.int cn), .val (.int st), .val (.int vv), .val (.ref tx)] [(.int (11 : Int32)), (.int p4), (.int (11 : Int32)), (.ref tx)]))
  obtain ⟨v104, T104, L104, X104, hQ104, st104⟩ := own_static X101 hx hZ (y := (⟨"io/countersign/TimestampFormWriteDigitsPinLaw", "before", "(II)B"⟩ : MethodName)) (rm := ⟨0, 0, 0, 0⟩) (W := 2) (argsL := [(.int p4), (.int (11 : Int32))]) (rest := [(.int (11 : Int32)), (.ref tx)]) hown (own_w hw 2 rfl) (own_w hw 3 rfl) (own_w hw 4 rfl) (own_w hw 5 rfl) (rmB l Z a0 hw p4 (11 : Int32) h101) e101 (g := (mkF m 149 #[.val (.int p1), .val (.int p2), .val (.int p3), .val (.int p4), .val (.int cn), .val (.int st), .val (.int vv), .val (.ref tx)] [(.int (11 : Int32)), (.int p4), (.int (11 : Int32)), (.ref tx)])) rfl (by rw [hml]; rfl) (lenOf own_pd0 rfl) rfl (by show 2 * 0 + _ ≤ _; exact Nat.le_of_eq rfl) (hb hby at_149) (by decide) (by decide) (by decide) (by decide)
  obtain ⟨rfl, e104, rfl⟩ := hQ104
  rw [List.append_nil] at X104
  refine own_st (st104) ?_
  clear st104 X101 e101
  show OFin p e below s _ _ _ (T104.setTop (mkF m 152 #[.val (.int p1), .val (.int p2), .val (.int p3), .val (.int p4), .val (.int cn), .val (.int st), .val (.int vv), .val (.ref tx)] [(.int (own_bf p4 (11 : Int32))), (.int (11 : Int32)), (.ref tx)]))
  obtain ⟨cl105, Ar105, q105, S105, N105, H105, G105⟩ := id f102
  have hin105 : ¬ ((11 : Int32) < 0 ∨ cl105.slots.size ≤ ((11 : Int32)).toNatClampNeg) := inb_of S105 ⟨by decide, by decide⟩
  obtain ⟨T105, h105, X105, e105, W105, st105⟩ := stB X104 hx hZ e104 Ar105 (j := (11 : Int32)) hin105 (g := (mkF m 152 #[.val (.int p1), .val (.int p2), .val (.int p3), .val (.int p4), .val (.int cn), .val (.int st), .val (.int vv), .val (.ref tx)] [(.int (own_bf p4 (11 : Int32))), (.int (11 : Int32)), (.ref tx)])) rfl rfl (hb hby at_152)
  have f106 := Arv.set Ar105 q105 S105 N105 H105 G105 (fits_nar_byte _) W105 11 rfl (Nat.le_of_ble_eq_true rfl)
  have sz105 : n0 ≤ h105.size := by rw [W105.size]; exact sz101
  clear sz101
  have fr105 := Fr.snoc X105 fr101 g_tx
  clear fr101
  refine own_st (st105) ?_
  clear st105 X104 e104 W105 Ar105 q105 S105 N105 H105 G105 hin105 f102
  show OFin p e below s _ _ _ (T105.setTop (mkF m 153 #[.val (.int p1), .val (.int p2), .val (.int p3), .val (.int p4), .val (.int cn), .val (.int st), .val (.int vv), .val (.ref tx)] []))
  refine own_st (fun _ kS => XS.aload X105.here hx rfl (hb hby at_153) rfl rfl kS) ?_
  show OFin p e below s _ _ _ (T105.setTop (mkF m 155 #[.val (.int p1), .val (.int p2), .val (.int p3), .val (.int p4), .val (.int cn), .val (.int st), .val (.int vv), .val (.ref tx)] [(.ref tx)]))
  refine own_st (fun _ kS => XS.iload X105.here hx rfl (hb hby at_155) rfl kS) ?_
  show OFin p e below s _ _ _ (T105.setTop (mkF m 157 #[.val (.int p1), .val (.int p2), .val (.int p3), .val (.int p4), .val (.int cn), .val (.int st), .val (.int vv), .val (.ref tx)] [(.int st), (.ref tx)]))
  refine own_st (fun _ kS => XS.iload X105.here hx rfl (hb hby at_157) rfl kS) ?_
  show OFin p e below s _ _ _ (T105.setTop (mkF m 159 #[.val (.int p1), .val (.int p2), .val (.int p3), .val (.int p4), .val (.int cn), .val (.int st), .val (.int vv), .val (.ref tx)] [(.int cn), (.int st), (.ref tx)]))
  refine own_st (fun _ kS => XS.iload X105.here hx rfl (hb hby at_159) rfl kS) ?_
  show OFin p e below s _ _ _ (T105.setTop (mkF m 161 #[.val (.int p1), .val (.int p2), .val (.int p3), .val (.int p4), .val (.int cn), .val (.int st), .val (.int vv), .val (.ref tx)] [(.int vv), (.int cn), (.int st), (.ref tx)]))
  have f108 : OArr Z h105 tx .byte 12 (fun i => .int (own_bf p4 (Int32.ofNat i))) := OArr.of f106 rfl (fun i hi => by rcases (by omega : i = 0 ∨ i = 1 ∨ i = 2 ∨ i = 3 ∨ i = 4 ∨ i = 5 ∨ i = 6 ∨ i = 7 ∨ i = 8 ∨ i = 9 ∨ i = 10 ∨ i = 11) with rfl | rfl | rfl | rfl | rfl | rfl | rfl | rfl | rfl | rfl | rfl | rfl <;> exact congrArg Value.int (own_nb _))
  obtain ⟨v109, T109, L109, X109, hQ109, st109⟩ := own_static X105 hx hZ (y := (⟨"io/countersign/TimestampForm", "writeDigits", "([BIII)V"⟩ : MethodName)) (rm := ⟨0, 0, 0, 0⟩) (W := 0) (argsL := [(.ref tx), (.int st), (.int cn), (.int vv)]) (rest := []) hown (own_w hw 6 rfl) (own_w hw 7 rfl) (own_w hw 8 rfl) (own_w hw 9 rfl) (rmW l Z a0 hw tx st cn vv h105 n0 st.toInt.toNat cn.toInt.toNat _ (by omega) (by omega) (by omega) hv f108 g_tx) e105 (g := (mkF m 161 #[.val (.int p1), .val (.int p2), .val (.int p3), .val (.int p4), .val (.int cn), .val (.int st), .val (.int vv), .val (.ref tx)] [(.int vv), (.int cn), (.int st), (.ref tx)])) rfl (by rw [hml]; rfl) (lenOf own_pd1 rfl) rfl (by show 2 * 0 + _ ≤ _; exact Nat.le_of_eq rfl) (hb hby at_161) (by decide) (by decide) (by decide) (by decide)
  obtain ⟨rfl, N109, K109, H109⟩ := hQ109
  have fr109 := Fr.app fr105 N109
  have sz109 : n0 ≤ T109.heap.size := Nat.le_trans sz105 K109.1
  obtain ⟨fb, hfb⟩ : ∃ g, g = own_wr (fun i => own_bf p4 (Int32.ofNat i)) st.toInt.toNat cn.toInt.toNat vv := ⟨_, rfl⟩
  have H109b : OArr Z T109.heap tx .byte 12 (fun i => .int (fb i)) := by rw [hfb]; exact H109
  refine own_st (st109) ?_
  clear st109 X105 e105
  show OFin p e below s _ _ _ (T109.setTop (mkF m 164 #[.val (.int p1), .val (.int p2), .val (.int p3), .val (.int p4), .val (.int cn), .val (.int st), .val (.int vv), .val (.ref tx)] []))
  refine own_st (fun _ kS => XS.aload X109.here hx rfl (hb hby at_164) rfl rfl kS) ?_
  show OFin p e below s _ _ _ (T109.setTop (mkF m 166 #[.val (.int p1), .val (.int p2), .val (.int p3), .val (.int p4), .val (.int cn), .val (.int st), .val (.int vv), .val (.ref tx)] [(.ref tx)]))
  refine own_st (fun _ kS => XS.iconst X109.here hx rfl (hb hby at_166) kS) ?_
  show OFin p e below s _ _ _ (T109.setTop (mkF m 167 #[.val (.int p1), .val (.int p2), .val (.int p3), .val (.int p4), .val (.int cn), .val (.int st), .val (.int vv), .val (.ref tx)] [(.int (0 : Int32)), (.ref tx)]))
  refine own_st (fun _ kS => XS.iload X109.here hx rfl (hb hby at_167) rfl kS) ?_
  show OFin p e below s _ _ _ (T109.setTop (mkF m 169 #[.val (.int p1), .val (.int p2), .val (.int p3), .val (.int p4), .val (.int cn), .val (.int st), .val (.int vv), .val (.ref tx)] [(.int st), (.int (0 : Int32)), (.ref tx)]))
  refine own_st (fun _ kS => XS.iload X109.here hx rfl (hb hby at_169) rfl kS) ?_
  show OFin p e below s _ _ _ (T109.setTop (mkF m 171 #[.val (.int p1), .val (.int p2), .val (.int p3), .val (.int p4), .val (.int cn), .val (.int st), .val (.int vv), .val (.ref tx)] [(.int cn), (.int st), (.int (0 : Int32)), (.ref tx)]))
  refine own_st (fun _ kS => XS.iload X109.here hx rfl (hb hby at_171) rfl kS) ?_
  show OFin p e below s _ _ _ (T109.setTop (mkF m 173 #[.val (.int p1), .val (.int p2), .val (.int p3), .val (.int p4), .val (.int cn), .val (.int st), .val (.int vv), .val (.ref tx)] [(.int vv), (.int cn), (.int st), (.int (0 : Int32)), (.ref tx)]))
  refine own_st (fun _ kS => XS.iloadN X109.here hx rfl (hb hby at_173) rfl kS) ?_
  show OFin p e below s _ _ _ (T109.setTop (mkF m 174 #[.val (.int p1), .val (.int p2), .val (.int p3), .val (.int p4), .val (.int cn), .val (.int st), .val (.int vv), .val (.ref tx)] [(.int p4), (.int vv), (.int cn), (.int st), (.int (0 : Int32)), (.ref tx)]))
  obtain ⟨v110, T110, L110, X110, hQ110, st110⟩ := own_static X109 hx hZ (y := (⟨"io/countersign/TimestampFormWriteDigitsPinLaw", "ok", "([BIIIII)Z"⟩ : MethodName)) (rm := ⟨1, 1, 11, 13⟩) (W := 0) (argsL := [(.ref tx), (.int (0 : Int32)), (.int st), (.int cn), (.int vv), (.int p4)]) (rest := []) hown (own_w hw 10 rfl) (own_w hw 11 rfl) (own_w hw 4 rfl) (own_w hw 12 rfl) (rmO l Z a0 hw tx (0 : Int32) st cn vv p4 T109.heap n0 sz109 fb 0 H109b rfl (by decide) (own_X 0 hst hcn hfb (by decide) rfl) (own_Y 0 hst hcn hv hfb (by decide) rfl)) rfl (g := (mkF m 174 #[.val (.int p1), .val (.int p2), .val (.int p3), .val (.int p4), .val (.int cn), .val (.int st), .val (.int vv), .val (.ref tx)] [(.int p4), (.int vv), (.int cn), (.int st), (.int (0 : Int32)), (.ref tx)])) rfl (by rw [hml]; rfl) (lenOf own_pd2 rfl) rfl (by show 2 * 0 + _ ≤ _; exact Nat.le_of_eq rfl) (hb hby at_174) (by decide) (by decide) (by decide) (by decide)
  obtain ⟨rfl, N110, K110⟩ := hQ110
  have fr110 := Fr.app fr109 N110
  have f111 := H109b.keep K110 nin0
  have sz110 : n0 ≤ T110.heap.size := Nat.le_trans sz109 K110.1
  clear sz109
  refine own_st (st110) ?_
  clear st110 X109
  show OFin p e below s _ _ _ (T110.setTop (mkF m 177 #[.val (.int p1), .val (.int p2), .val (.int p3), .val (.int p4), .val (.int cn), .val (.int st), .val (.int vv), .val (.ref tx)] [(.int (1 : Int32))]))
  refine own_st (fun _ kS => XS.ifNo X110.here hx rfl (hb hby at_177) rfl ((if0 _ _).trans (feq (by decide)).1) kS) ?_
  show OFin p e below s _ _ _ (T110.setTop (mkF m 180 #[.val (.int p1), .val (.int p2), .val (.int p3), .val (.int p4), .val (.int cn), .val (.int st), .val (.int vv), .val (.ref tx)] []))
  refine own_st (fun _ kS => XS.aload X110.here hx rfl (hb hby at_180) rfl rfl kS) ?_
  show OFin p e below s _ _ _ (T110.setTop (mkF m 182 #[.val (.int p1), .val (.int p2), .val (.int p3), .val (.int p4), .val (.int cn), .val (.int st), .val (.int vv), .val (.ref tx)] [(.ref tx)]))
  refine own_st (fun _ kS => XS.iconst X110.here hx rfl (hb hby at_182) kS) ?_
  show OFin p e below s _ _ _ (T110.setTop (mkF m 183 #[.val (.int p1), .val (.int p2), .val (.int p3), .val (.int p4), .val (.int cn), .val (.int st), .val (.int vv), .val (.ref tx)] [(.int (1 : Int32)), (.ref tx)]))
  refine own_st (fun _ kS => XS.iload X110.here hx rfl (hb hby at_183) rfl kS) ?_
  show OFin p e below s _ _ _ (T110.setTop (mkF m 185 #[.val (.int p1), .val (.int p2), .val (.int p3), .val (.int p4), .val (.int cn), .val (.int st), .val (.int vv), .val (.ref tx)] [(.int st), (.int (1 : Int32)), (.ref tx)]))
  refine own_st (fun _ kS => XS.iload X110.here hx rfl (hb hby at_185) rfl kS) ?_
  show OFin p e below s _ _ _ (T110.setTop (mkF m 187 #[.val (.int p1), .val (.int p2), .val (.int p3), .val (.int p4), .val (.int cn), .val (.int st), .val (.int vv), .val (.ref tx)] [(.int cn), (.int st), (.int (1 : Int32)), (.ref tx)]))
  refine own_st (fun _ kS => XS.iload X110.here hx rfl (hb hby at_187) rfl kS) ?_
  show OFin p e below s _ _ _ (T110.setTop (mkF m 189 #[.val (.int p1), .val (.int p2), .val (.int p3), .val (.int p4), .val (.int cn), .val (.int st), .val (.int vv), .val (.ref tx)] [(.int vv), (.int cn), (.int st), (.int (1 : Int32)), (.ref tx)]))
  refine own_st (fun _ kS => XS.iloadN X110.here hx rfl (hb hby at_189) rfl kS) ?_
  show OFin p e below s _ _ _ (T110.setTop (mkF m 190 #[.val (.int p1), .val (.int p2), .val (.int p3), .val (.int p4), .val (.int cn), .val (.int st), .val (.int vv), .val (.ref tx)] [(.int p4), (.int vv), (.int cn), (.int st), (.int (1 : Int32)), (.ref tx)]))
  obtain ⟨v112, T112, L112, X112, hQ112, st112⟩ := own_static X110 hx hZ (y := (⟨"io/countersign/TimestampFormWriteDigitsPinLaw", "ok", "([BIIIII)Z"⟩ : MethodName)) (rm := ⟨1, 1, 11, 13⟩) (W := 0) (argsL := [(.ref tx), (.int (1 : Int32)), (.int st), (.int cn), (.int vv), (.int p4)]) (rest := []) hown (own_w hw 10 rfl) (own_w hw 11 rfl) (own_w hw 4 rfl) (own_w hw 12 rfl) (rmO l Z a0 hw tx (1 : Int32) st cn vv p4 T110.heap n0 sz110 fb 1 f111 rfl (by decide) (own_X 1 hst hcn hfb (by decide) rfl) (own_Y 1 hst hcn hv hfb (by decide) rfl)) rfl (g := (mkF m 190 #[.val (.int p1), .val (.int p2), .val (.int p3), .val (.int p4), .val (.int cn), .val (.int st), .val (.int vv), .val (.ref tx)] [(.int p4), (.int vv), (.int cn), (.int st), (.int (1 : Int32)), (.ref tx)])) rfl (by rw [hml]; rfl) (lenOf own_pd2 rfl) rfl (by show 2 * 0 + _ ≤ _; exact Nat.le_of_eq rfl) (hb hby at_190) (by decide) (by decide) (by decide) (by decide)
  obtain ⟨rfl, N112, K112⟩ := hQ112
  have fr112 := Fr.app fr110 N112
  have f113 := f111.keep K112 nin0
  clear f111
  have sz112 : n0 ≤ T112.heap.size := Nat.le_trans sz110 K112.1
  clear sz110
  refine own_st (st112) ?_
  clear st112 X110
  show OFin p e below s _ _ _ (T112.setTop (mkF m 193 #[.val (.int p1), .val (.int p2), .val (.int p3), .val (.int p4), .val (.int cn), .val (.int st), .val (.int vv), .val (.ref tx)] [(.int (1 : Int32))]))
  refine own_st (fun _ kS => XS.ifNo X112.here hx rfl (hb hby at_193) rfl ((if0 _ _).trans (feq (by decide)).1) kS) ?_
  show OFin p e below s _ _ _ (T112.setTop (mkF m 196 #[.val (.int p1), .val (.int p2), .val (.int p3), .val (.int p4), .val (.int cn), .val (.int st), .val (.int vv), .val (.ref tx)] []))
  refine own_st (fun _ kS => XS.aload X112.here hx rfl (hb hby at_196) rfl rfl kS) ?_
  show OFin p e below s _ _ _ (T112.setTop (mkF m 198 #[.val (.int p1), .val (.int p2), .val (.int p3), .val (.int p4), .val (.int cn), .val (.int st), .val (.int vv), .val (.ref tx)] [(.ref tx)]))
  refine own_st (fun _ kS => XS.iconst X112.here hx rfl (hb hby at_198) kS) ?_
  show OFin p e below s _ _ _ (T112.setTop (mkF m 199 #[.val (.int p1), .val (.int p2), .val (.int p3), .val (.int p4), .val (.int cn), .val (.int st), .val (.int vv), .val (.ref tx)] [(.int (2 : Int32)), (.ref tx)]))
  refine own_st (fun _ kS => XS.iload X112.here hx rfl (hb hby at_199) rfl kS) ?_
  show OFin p e below s _ _ _ (T112.setTop (mkF m 201 #[.val (.int p1), .val (.int p2), .val (.int p3), .val (.int p4), .val (.int cn), .val (.int st), .val (.int vv), .val (.ref tx)] [(.int st), (.int (2 : Int32)), (.ref tx)]))
  refine own_st (fun _ kS => XS.iload X112.here hx rfl (hb hby at_201) rfl kS) ?_
  show OFin p e below s _ _ _ (T112.setTop (mkF m 203 #[.val (.int p1), .val (.int p2), .val (.int p3), .val (.int p4), .val (.int cn), .val (.int st), .val (.int vv), .val (.ref tx)] [(.int cn), (.int st), (.int (2 : Int32)), (.ref tx)]))
  refine own_st (fun _ kS => XS.iload X112.here hx rfl (hb hby at_203) rfl kS) ?_
  show OFin p e below s _ _ _ (T112.setTop (mkF m 205 #[.val (.int p1), .val (.int p2), .val (.int p3), .val (.int p4), .val (.int cn), .val (.int st), .val (.int vv), .val (.ref tx)] [(.int vv), (.int cn), (.int st), (.int (2 : Int32)), (.ref tx)]))
  refine own_st (fun _ kS => XS.iloadN X112.here hx rfl (hb hby at_205) rfl kS) ?_
  show OFin p e below s _ _ _ (T112.setTop (mkF m 206 #[.val (.int p1), .val (.int p2), .val (.int p3), .val (.int p4), .val (.int cn), .val (.int st), .val (.int vv), .val (.ref tx)] [(.int p4), (.int vv), (.int cn), (.int st), (.int (2 : Int32)), (.ref tx)]))
  obtain ⟨v114, T114, L114, X114, hQ114, st114⟩ := own_static X112 hx hZ (y := (⟨"io/countersign/TimestampFormWriteDigitsPinLaw", "ok", "([BIIIII)Z"⟩ : MethodName)) (rm := ⟨1, 1, 11, 13⟩) (W := 0) (argsL := [(.ref tx), (.int (2 : Int32)), (.int st), (.int cn), (.int vv), (.int p4)]) (rest := []) hown (own_w hw 10 rfl) (own_w hw 11 rfl) (own_w hw 4 rfl) (own_w hw 12 rfl) (rmO l Z a0 hw tx (2 : Int32) st cn vv p4 T112.heap n0 sz112 fb 2 f113 rfl (by decide) (own_X 2 hst hcn hfb (by decide) rfl) (own_Y 2 hst hcn hv hfb (by decide) rfl)) rfl (g := (mkF m 206 #[.val (.int p1), .val (.int p2), .val (.int p3), .val (.int p4), .val (.int cn), .val (.int st), .val (.int vv), .val (.ref tx)] [(.int p4), (.int vv), (.int cn), (.int st), (.int (2 : Int32)), (.ref tx)])) rfl (by rw [hml]; rfl) (lenOf own_pd2 rfl) rfl (by show 2 * 0 + _ ≤ _; exact Nat.le_of_eq rfl) (hb hby at_206) (by decide) (by decide) (by decide) (by decide)
  obtain ⟨rfl, N114, K114⟩ := hQ114
  have fr114 := Fr.app fr112 N114
  have f115 := f113.keep K114 nin0
  clear f113
  have sz114 : n0 ≤ T114.heap.size := Nat.le_trans sz112 K114.1
  clear sz112
  refine own_st (st114) ?_
  clear st114 X112
  show OFin p e below s _ _ _ (T114.setTop (mkF m 209 #[.val (.int p1), .val (.int p2), .val (.int p3), .val (.int p4), .val (.int cn), .val (.int st), .val (.int vv), .val (.ref tx)] [(.int (1 : Int32))]))
  refine own_st (fun _ kS => XS.ifNo X114.here hx rfl (hb hby at_209) rfl ((if0 _ _).trans (feq (by decide)).1) kS) ?_
  show OFin p e below s _ _ _ (T114.setTop (mkF m 212 #[.val (.int p1), .val (.int p2), .val (.int p3), .val (.int p4), .val (.int cn), .val (.int st), .val (.int vv), .val (.ref tx)] []))
  refine own_st (fun _ kS => XS.aload X114.here hx rfl (hb hby at_212) rfl rfl kS) ?_
  show OFin p e below s _ _ _ (T114.setTop (mkF m 214 #[.val (.int p1), .val (.int p2), .val (.int p3), .val (.int p4), .val (.int cn), .val (.int st), .val (.int vv), .val (.ref tx)] [(.ref tx)]))
  refine own_st (fun _ kS => XS.iconst X114.here hx rfl (hb hby at_214) kS) ?_
  show OFin p e below s _ _ _ (T114.setTop (mkF m 215 #[.val (.int p1), .val (.int p2), .val (.int p3), .val (.int p4), .val (.int cn), .val (.int st), .val (.int vv), .val (.ref tx)] [(.int (3 : Int32)), (.ref tx)]))
  refine own_st (fun _ kS => XS.iload X114.here hx rfl (hb hby at_215) rfl kS) ?_
  show OFin p e below s _ _ _ (T114.setTop (mkF m 217 #[.val (.int p1), .val (.int p2), .val (.int p3), .val (.int p4), .val (.int cn), .val (.int st), .val (.int vv), .val (.ref tx)] [(.int st), (.int (3 : Int32)), (.ref tx)]))
  refine own_st (fun _ kS => XS.iload X114.here hx rfl (hb hby at_217) rfl kS) ?_
  show OFin p e below s _ _ _ (T114.setTop (mkF m 219 #[.val (.int p1), .val (.int p2), .val (.int p3), .val (.int p4), .val (.int cn), .val (.int st), .val (.int vv), .val (.ref tx)] [(.int cn), (.int st), (.int (3 : Int32)), (.ref tx)]))
  refine own_st (fun _ kS => XS.iload X114.here hx rfl (hb hby at_219) rfl kS) ?_
  show OFin p e below s _ _ _ (T114.setTop (mkF m 221 #[.val (.int p1), .val (.int p2), .val (.int p3), .val (.int p4), .val (.int cn), .val (.int st), .val (.int vv), .val (.ref tx)] [(.int vv), (.int cn), (.int st), (.int (3 : Int32)), (.ref tx)]))
  refine own_st (fun _ kS => XS.iloadN X114.here hx rfl (hb hby at_221) rfl kS) ?_
  show OFin p e below s _ _ _ (T114.setTop (mkF m 222 #[.val (.int p1), .val (.int p2), .val (.int p3), .val (.int p4), .val (.int cn), .val (.int st), .val (.int vv), .val (.ref tx)] [(.int p4), (.int vv), (.int cn), (.int st), (.int (3 : Int32)), (.ref tx)]))
  obtain ⟨v116, T116, L116, X116, hQ116, st116⟩ := own_static X114 hx hZ (y := (⟨"io/countersign/TimestampFormWriteDigitsPinLaw", "ok", "([BIIIII)Z"⟩ : MethodName)) (rm := ⟨1, 1, 11, 13⟩) (W := 0) (argsL := [(.ref tx), (.int (3 : Int32)), (.int st), (.int cn), (.int vv), (.int p4)]) (rest := []) hown (own_w hw 10 rfl) (own_w hw 11 rfl) (own_w hw 4 rfl) (own_w hw 12 rfl) (rmO l Z a0 hw tx (3 : Int32) st cn vv p4 T114.heap n0 sz114 fb 3 f115 rfl (by decide) (own_X 3 hst hcn hfb (by decide) rfl) (own_Y 3 hst hcn hv hfb (by decide) rfl)) rfl (g := (mkF m 222 #[.val (.int p1), .val (.int p2), .val (.int p3), .val (.int p4), .val (.int cn), .val (.int st), .val (.int vv), .val (.ref tx)] [(.int p4), (.int vv), (.int cn), (.int st), (.int (3 : Int32)), (.ref tx)])) rfl (by rw [hml]; rfl) (lenOf own_pd2 rfl) rfl (by show 2 * 0 + _ ≤ _; exact Nat.le_of_eq rfl) (hb hby at_222) (by decide) (by decide) (by decide) (by decide)
  obtain ⟨rfl, N116, K116⟩ := hQ116
  have fr116 := Fr.app fr114 N116
  have f117 := f115.keep K116 nin0
  clear f115
  have sz116 : n0 ≤ T116.heap.size := Nat.le_trans sz114 K116.1
  clear sz114
  refine own_st (st116) ?_
  clear st116 X114
  show OFin p e below s _ _ _ (T116.setTop (mkF m 225 #[.val (.int p1), .val (.int p2), .val (.int p3), .val (.int p4), .val (.int cn), .val (.int st), .val (.int vv), .val (.ref tx)] [(.int (1 : Int32))]))
  refine own_st (fun _ kS => XS.ifNo X116.here hx rfl (hb hby at_225) rfl ((if0 _ _).trans (feq (by decide)).1) kS) ?_
  show OFin p e below s _ _ _ (T116.setTop (mkF m 228 #[.val (.int p1), .val (.int p2), .val (.int p3), .val (.int p4), .val (.int cn), .val (.int st), .val (.int vv), .val (.ref tx)] []))
  refine own_st (fun _ kS => XS.aload X116.here hx rfl (hb hby at_228) rfl rfl kS) ?_
  show OFin p e below s _ _ _ (T116.setTop (mkF m 230 #[.val (.int p1), .val (.int p2), .val (.int p3), .val (.int p4), .val (.int cn), .val (.int st), .val (.int vv), .val (.ref tx)] [(.ref tx)]))
  refine own_st (fun _ kS => XS.iconst X116.here hx rfl (hb hby at_230) kS) ?_
  show OFin p e below s _ _ _ (T116.setTop (mkF m 231 #[.val (.int p1), .val (.int p2), .val (.int p3), .val (.int p4), .val (.int cn), .val (.int st), .val (.int vv), .val (.ref tx)] [(.int (4 : Int32)), (.ref tx)]))
  refine own_st (fun _ kS => XS.iload X116.here hx rfl (hb hby at_231) rfl kS) ?_
  show OFin p e below s _ _ _ (T116.setTop (mkF m 233 #[.val (.int p1), .val (.int p2), .val (.int p3), .val (.int p4), .val (.int cn), .val (.int st), .val (.int vv), .val (.ref tx)] [(.int st), (.int (4 : Int32)), (.ref tx)]))
  refine own_st (fun _ kS => XS.iload X116.here hx rfl (hb hby at_233) rfl kS) ?_
  show OFin p e below s _ _ _ (T116.setTop (mkF m 235 #[.val (.int p1), .val (.int p2), .val (.int p3), .val (.int p4), .val (.int cn), .val (.int st), .val (.int vv), .val (.ref tx)] [(.int cn), (.int st), (.int (4 : Int32)), (.ref tx)]))
  refine own_st (fun _ kS => XS.iload X116.here hx rfl (hb hby at_235) rfl kS) ?_
  show OFin p e below s _ _ _ (T116.setTop (mkF m 237 #[.val (.int p1), .val (.int p2), .val (.int p3), .val (.int p4), .val (.int cn), .val (.int st), .val (.int vv), .val (.ref tx)] [(.int vv), (.int cn), (.int st), (.int (4 : Int32)), (.ref tx)]))
  refine own_st (fun _ kS => XS.iloadN X116.here hx rfl (hb hby at_237) rfl kS) ?_
  show OFin p e below s _ _ _ (T116.setTop (mkF m 238 #[.val (.int p1), .val (.int p2), .val (.int p3), .val (.int p4), .val (.int cn), .val (.int st), .val (.int vv), .val (.ref tx)] [(.int p4), (.int vv), (.int cn), (.int st), (.int (4 : Int32)), (.ref tx)]))
  obtain ⟨v118, T118, L118, X118, hQ118, st118⟩ := own_static X116 hx hZ (y := (⟨"io/countersign/TimestampFormWriteDigitsPinLaw", "ok", "([BIIIII)Z"⟩ : MethodName)) (rm := ⟨1, 1, 11, 13⟩) (W := 0) (argsL := [(.ref tx), (.int (4 : Int32)), (.int st), (.int cn), (.int vv), (.int p4)]) (rest := []) hown (own_w hw 10 rfl) (own_w hw 11 rfl) (own_w hw 4 rfl) (own_w hw 12 rfl) (rmO l Z a0 hw tx (4 : Int32) st cn vv p4 T116.heap n0 sz116 fb 4 f117 rfl (by decide) (own_X 4 hst hcn hfb (by decide) rfl) (own_Y 4 hst hcn hv hfb (by decide) rfl)) rfl (g := (mkF m 238 #[.val (.int p1), .val (.int p2), .val (.int p3), .val (.int p4), .val (.int cn), .val (.int st), .val (.int vv), .val (.ref tx)] [(.int p4), (.int vv), (.int cn), (.int st), (.int (4 : Int32)), (.ref tx)])) rfl (by rw [hml]; rfl) (lenOf own_pd2 rfl) rfl (by show 2 * 0 + _ ≤ _; exact Nat.le_of_eq rfl) (hb hby at_238) (by decide) (by decide) (by decide) (by decide)
  obtain ⟨rfl, N118, K118⟩ := hQ118
  have fr118 := Fr.app fr116 N118
  have f119 := f117.keep K118 nin0
  clear f117
  have sz118 : n0 ≤ T118.heap.size := Nat.le_trans sz116 K118.1
  clear sz116
  refine own_st (st118) ?_
  clear st118 X116
  show OFin p e below s _ _ _ (T118.setTop (mkF m 241 #[.val (.int p1), .val (.int p2), .val (.int p3), .val (.int p4), .val (.int cn), .val (.int st), .val (.int vv), .val (.ref tx)] [(.int (1 : Int32))]))
  refine own_st (fun _ kS => XS.ifNo X118.here hx rfl (hb hby at_241) rfl ((if0 _ _).trans (feq (by decide)).1) kS) ?_
  show OFin p e below s _ _ _ (T118.setTop (mkF m 244 #[.val (.int p1), .val (.int p2), .val (.int p3), .val (.int p4), .val (.int cn), .val (.int st), .val (.int vv), .val (.ref tx)] []))
  refine own_st (fun _ kS => XS.aload X118.here hx rfl (hb hby at_244) rfl rfl kS) ?_
  show OFin p e below s _ _ _ (T118.setTop (mkF m 246 #[.val (.int p1), .val (.int p2), .val (.int p3), .val (.int p4), .val (.int cn), .val (.int st), .val (.int vv), .val (.ref tx)] [(.ref tx)]))
  refine own_st (fun _ kS => XS.iconst X118.here hx rfl (hb hby at_246) kS) ?_
  show OFin p e below s _ _ _ (T118.setTop (mkF m 247 #[.val (.int p1), .val (.int p2), .val (.int p3), .val (.int p4), .val (.int cn), .val (.int st), .val (.int vv), .val (.ref tx)] [(.int (5 : Int32)), (.ref tx)]))
  refine own_st (fun _ kS => XS.iload X118.here hx rfl (hb hby at_247) rfl kS) ?_
  show OFin p e below s _ _ _ (T118.setTop (mkF m 249 #[.val (.int p1), .val (.int p2), .val (.int p3), .val (.int p4), .val (.int cn), .val (.int st), .val (.int vv), .val (.ref tx)] [(.int st), (.int (5 : Int32)), (.ref tx)]))
  refine own_st (fun _ kS => XS.iload X118.here hx rfl (hb hby at_249) rfl kS) ?_
  show OFin p e below s _ _ _ (T118.setTop (mkF m 251 #[.val (.int p1), .val (.int p2), .val (.int p3), .val (.int p4), .val (.int cn), .val (.int st), .val (.int vv), .val (.ref tx)] [(.int cn), (.int st), (.int (5 : Int32)), (.ref tx)]))
  refine own_st (fun _ kS => XS.iload X118.here hx rfl (hb hby at_251) rfl kS) ?_
  show OFin p e below s _ _ _ (T118.setTop (mkF m 253 #[.val (.int p1), .val (.int p2), .val (.int p3), .val (.int p4), .val (.int cn), .val (.int st), .val (.int vv), .val (.ref tx)] [(.int vv), (.int cn), (.int st), (.int (5 : Int32)), (.ref tx)]))
  refine own_st (fun _ kS => XS.iloadN X118.here hx rfl (hb hby at_253) rfl kS) ?_
  show OFin p e below s _ _ _ (T118.setTop (mkF m 254 #[.val (.int p1), .val (.int p2), .val (.int p3), .val (.int p4), .val (.int cn), .val (.int st), .val (.int vv), .val (.ref tx)] [(.int p4), (.int vv), (.int cn), (.int st), (.int (5 : Int32)), (.ref tx)]))
  obtain ⟨v120, T120, L120, X120, hQ120, st120⟩ := own_static X118 hx hZ (y := (⟨"io/countersign/TimestampFormWriteDigitsPinLaw", "ok", "([BIIIII)Z"⟩ : MethodName)) (rm := ⟨1, 1, 11, 13⟩) (W := 0) (argsL := [(.ref tx), (.int (5 : Int32)), (.int st), (.int cn), (.int vv), (.int p4)]) (rest := []) hown (own_w hw 10 rfl) (own_w hw 11 rfl) (own_w hw 4 rfl) (own_w hw 12 rfl) (rmO l Z a0 hw tx (5 : Int32) st cn vv p4 T118.heap n0 sz118 fb 5 f119 rfl (by decide) (own_X 5 hst hcn hfb (by decide) rfl) (own_Y 5 hst hcn hv hfb (by decide) rfl)) rfl (g := (mkF m 254 #[.val (.int p1), .val (.int p2), .val (.int p3), .val (.int p4), .val (.int cn), .val (.int st), .val (.int vv), .val (.ref tx)] [(.int p4), (.int vv), (.int cn), (.int st), (.int (5 : Int32)), (.ref tx)])) rfl (by rw [hml]; rfl) (lenOf own_pd2 rfl) rfl (by show 2 * 0 + _ ≤ _; exact Nat.le_of_eq rfl) (hb hby at_254) (by decide) (by decide) (by decide) (by decide)
  obtain ⟨rfl, N120, K120⟩ := hQ120
  have fr120 := Fr.app fr118 N120
  have f121 := f119.keep K120 nin0
  clear f119
  have sz120 : n0 ≤ T120.heap.size := Nat.le_trans sz118 K120.1
  clear sz118
  refine own_st (st120) ?_
  clear st120 X118
  show OFin p e below s _ _ _ (T120.setTop (mkF m 257 #[.val (.int p1), .val (.int p2), .val (.int p3), .val (.int p4), .val (.int cn), .val (.int st), .val (.int vv), .val (.ref tx)] [(.int (1 : Int32))]))
  refine own_st (fun _ kS => XS.ifNo X120.here hx rfl (hb hby at_257) rfl ((if0 _ _).trans (feq (by decide)).1) kS) ?_
  show OFin p e below s _ _ _ (T120.setTop (mkF m 260 #[.val (.int p1), .val (.int p2), .val (.int p3), .val (.int p4), .val (.int cn), .val (.int st), .val (.int vv), .val (.ref tx)] []))
  refine own_st (fun _ kS => XS.aload X120.here hx rfl (hb hby at_260) rfl rfl kS) ?_
  show OFin p e below s _ _ _ (T120.setTop (mkF m 262 #[.val (.int p1), .val (.int p2), .val (.int p3), .val (.int p4), .val (.int cn), .val (.int st), .val (.int vv), .val (.ref tx)] [(.ref tx)]))
  refine own_st (fun _ kS => XS.bipush X120.here hx rfl (hb hby at_262) kS) ?_
  show OFin p e below s _ _ _ (T120.setTop (mkF m 264 #[.val (.int p1), .val (.int p2), .val (.int p3), .val (.int p4), .val (.int cn), .val (.int st), .val (.int vv), .val (.ref tx)] [(.int (6 : Int32)), (.ref tx)]))
  refine own_st (fun _ kS => XS.iload X120.here hx rfl (hb hby at_264) rfl kS) ?_
  show OFin p e below s _ _ _ (T120.setTop (mkF m 266 #[.val (.int p1), .val (.int p2), .val (.int p3), .val (.int p4), .val (.int cn), .val (.int st), .val (.int vv), .val (.ref tx)] [(.int st), (.int (6 : Int32)), (.ref tx)]))
  refine own_st (fun _ kS => XS.iload X120.here hx rfl (hb hby at_266) rfl kS) ?_
  show OFin p e below s _ _ _ (T120.setTop (mkF m 268 #[.val (.int p1), .val (.int p2), .val (.int p3), .val (.int p4), .val (.int cn), .val (.int st), .val (.int vv), .val (.ref tx)] [(.int cn), (.int st), (.int (6 : Int32)), (.ref tx)]))
  refine own_st (fun _ kS => XS.iload X120.here hx rfl (hb hby at_268) rfl kS) ?_
  show OFin p e below s _ _ _ (T120.setTop (mkF m 270 #[.val (.int p1), .val (.int p2), .val (.int p3), .val (.int p4), .val (.int cn), .val (.int st), .val (.int vv), .val (.ref tx)] [(.int vv), (.int cn), (.int st), (.int (6 : Int32)), (.ref tx)]))
  refine own_st (fun _ kS => XS.iloadN X120.here hx rfl (hb hby at_270) rfl kS) ?_
  show OFin p e below s _ _ _ (T120.setTop (mkF m 271 #[.val (.int p1), .val (.int p2), .val (.int p3), .val (.int p4), .val (.int cn), .val (.int st), .val (.int vv), .val (.ref tx)] [(.int p4), (.int vv), (.int cn), (.int st), (.int (6 : Int32)), (.ref tx)]))
  obtain ⟨v122, T122, L122, X122, hQ122, st122⟩ := own_static X120 hx hZ (y := (⟨"io/countersign/TimestampFormWriteDigitsPinLaw", "ok", "([BIIIII)Z"⟩ : MethodName)) (rm := ⟨1, 1, 11, 13⟩) (W := 0) (argsL := [(.ref tx), (.int (6 : Int32)), (.int st), (.int cn), (.int vv), (.int p4)]) (rest := []) hown (own_w hw 10 rfl) (own_w hw 11 rfl) (own_w hw 4 rfl) (own_w hw 12 rfl) (rmO l Z a0 hw tx (6 : Int32) st cn vv p4 T120.heap n0 sz120 fb 6 f121 rfl (by decide) (own_X 6 hst hcn hfb (by decide) rfl) (own_Y 6 hst hcn hv hfb (by decide) rfl)) rfl (g := (mkF m 271 #[.val (.int p1), .val (.int p2), .val (.int p3), .val (.int p4), .val (.int cn), .val (.int st), .val (.int vv), .val (.ref tx)] [(.int p4), (.int vv), (.int cn), (.int st), (.int (6 : Int32)), (.ref tx)])) rfl (by rw [hml]; rfl) (lenOf own_pd2 rfl) rfl (by show 2 * 0 + _ ≤ _; exact Nat.le_of_eq rfl) (hb hby at_271) (by decide) (by decide) (by decide) (by decide)
  obtain ⟨rfl, N122, K122⟩ := hQ122
  have fr122 := Fr.app fr120 N122
  have f123 := f121.keep K122 nin0
  clear f121
  have sz122 : n0 ≤ T122.heap.size := Nat.le_trans sz120 K122.1
  clear sz120
  refine own_st (st122) ?_
  clear st122 X120
  show OFin p e below s _ _ _ (T122.setTop (mkF m 274 #[.val (.int p1), .val (.int p2), .val (.int p3), .val (.int p4), .val (.int cn), .val (.int st), .val (.int vv), .val (.ref tx)] [(.int (1 : Int32))]))
  refine own_st (fun _ kS => XS.ifNo X122.here hx rfl (hb hby at_274) rfl ((if0 _ _).trans (feq (by decide)).1) kS) ?_
  show OFin p e below s _ _ _ (T122.setTop (mkF m 277 #[.val (.int p1), .val (.int p2), .val (.int p3), .val (.int p4), .val (.int cn), .val (.int st), .val (.int vv), .val (.ref tx)] []))
  refine own_st (fun _ kS => XS.aload X122.here hx rfl (hb hby at_277) rfl rfl kS) ?_
  show OFin p e below s _ _ _ (T122.setTop (mkF m 279 #[.val (.int p1), .val (.int p2), .val (.int p3), .val (.int p4), .val (.int cn), .val (.int st), .val (.int vv), .val (.ref tx)] [(.ref tx)]))
  refine own_st (fun _ kS => XS.bipush X122.here hx rfl (hb hby at_279) kS) ?_
  show OFin p e below s _ _ _ (T122.setTop (mkF m 281 #[.val (.int p1), .val (.int p2), .val (.int p3), .val (.int p4), .val (.int cn), .val (.int st), .val (.int vv), .val (.ref tx)] [(.int (7 : Int32)), (.ref tx)]))
  refine own_st (fun _ kS => XS.iload X122.here hx rfl (hb hby at_281) rfl kS) ?_
  show OFin p e below s _ _ _ (T122.setTop (mkF m 283 #[.val (.int p1), .val (.int p2), .val (.int p3), .val (.int p4), .val (.int cn), .val (.int st), .val (.int vv), .val (.ref tx)] [(.int st), (.int (7 : Int32)), (.ref tx)]))
  refine own_st (fun _ kS => XS.iload X122.here hx rfl (hb hby at_283) rfl kS) ?_
  show OFin p e below s _ _ _ (T122.setTop (mkF m 285 #[.val (.int p1), .val (.int p2), .val (.int p3), .val (.int p4), .val (.int cn), .val (.int st), .val (.int vv), .val (.ref tx)] [(.int cn), (.int st), (.int (7 : Int32)), (.ref tx)]))
  refine own_st (fun _ kS => XS.iload X122.here hx rfl (hb hby at_285) rfl kS) ?_
  show OFin p e below s _ _ _ (T122.setTop (mkF m 287 #[.val (.int p1), .val (.int p2), .val (.int p3), .val (.int p4), .val (.int cn), .val (.int st), .val (.int vv), .val (.ref tx)] [(.int vv), (.int cn), (.int st), (.int (7 : Int32)), (.ref tx)]))
  refine own_st (fun _ kS => XS.iloadN X122.here hx rfl (hb hby at_287) rfl kS) ?_
  show OFin p e below s _ _ _ (T122.setTop (mkF m 288 #[.val (.int p1), .val (.int p2), .val (.int p3), .val (.int p4), .val (.int cn), .val (.int st), .val (.int vv), .val (.ref tx)] [(.int p4), (.int vv), (.int cn), (.int st), (.int (7 : Int32)), (.ref tx)]))
  obtain ⟨v124, T124, L124, X124, hQ124, st124⟩ := own_static X122 hx hZ (y := (⟨"io/countersign/TimestampFormWriteDigitsPinLaw", "ok", "([BIIIII)Z"⟩ : MethodName)) (rm := ⟨1, 1, 11, 13⟩) (W := 0) (argsL := [(.ref tx), (.int (7 : Int32)), (.int st), (.int cn), (.int vv), (.int p4)]) (rest := []) hown (own_w hw 10 rfl) (own_w hw 11 rfl) (own_w hw 4 rfl) (own_w hw 12 rfl) (rmO l Z a0 hw tx (7 : Int32) st cn vv p4 T122.heap n0 sz122 fb 7 f123 rfl (by decide) (own_X 7 hst hcn hfb (by decide) rfl) (own_Y 7 hst hcn hv hfb (by decide) rfl)) rfl (g := (mkF m 288 #[.val (.int p1), .val (.int p2), .val (.int p3), .val (.int p4), .val (.int cn), .val (.int st), .val (.int vv), .val (.ref tx)] [(.int p4), (.int vv), (.int cn), (.int st), (.int (7 : Int32)), (.ref tx)])) rfl (by rw [hml]; rfl) (lenOf own_pd2 rfl) rfl (by show 2 * 0 + _ ≤ _; exact Nat.le_of_eq rfl) (hb hby at_288) (by decide) (by decide) (by decide) (by decide)
  obtain ⟨rfl, N124, K124⟩ := hQ124
  have fr124 := Fr.app fr122 N124
  have f125 := f123.keep K124 nin0
  clear f123
  have sz124 : n0 ≤ T124.heap.size := Nat.le_trans sz122 K124.1
  clear sz122
  refine own_st (st124) ?_
  clear st124 X122
  show OFin p e below s _ _ _ (T124.setTop (mkF m 291 #[.val (.int p1), .val (.int p2), .val (.int p3), .val (.int p4), .val (.int cn), .val (.int st), .val (.int vv), .val (.ref tx)] [(.int (1 : Int32))]))
  refine own_st (fun _ kS => XS.ifNo X124.here hx rfl (hb hby at_291) rfl ((if0 _ _).trans (feq (by decide)).1) kS) ?_
  show OFin p e below s _ _ _ (T124.setTop (mkF m 294 #[.val (.int p1), .val (.int p2), .val (.int p3), .val (.int p4), .val (.int cn), .val (.int st), .val (.int vv), .val (.ref tx)] []))
  refine own_st (fun _ kS => XS.aload X124.here hx rfl (hb hby at_294) rfl rfl kS) ?_
  show OFin p e below s _ _ _ (T124.setTop (mkF m 296 #[.val (.int p1), .val (.int p2), .val (.int p3), .val (.int p4), .val (.int cn), .val (.int st), .val (.int vv), .val (.ref tx)] [(.ref tx)]))
  refine own_st (fun _ kS => XS.bipush X124.here hx rfl (hb hby at_296) kS) ?_
  show OFin p e below s _ _ _ (T124.setTop (mkF m 298 #[.val (.int p1), .val (.int p2), .val (.int p3), .val (.int p4), .val (.int cn), .val (.int st), .val (.int vv), .val (.ref tx)] [(.int (8 : Int32)), (.ref tx)]))
  refine own_st (fun _ kS => XS.iload X124.here hx rfl (hb hby at_298) rfl kS) ?_
  show OFin p e below s _ _ _ (T124.setTop (mkF m 300 #[.val (.int p1), .val (.int p2), .val (.int p3), .val (.int p4), .val (.int cn), .val (.int st), .val (.int vv), .val (.ref tx)] [(.int st), (.int (8 : Int32)), (.ref tx)]))
  refine own_st (fun _ kS => XS.iload X124.here hx rfl (hb hby at_300) rfl kS) ?_
  show OFin p e below s _ _ _ (T124.setTop (mkF m 302 #[.val (.int p1), .val (.int p2), .val (.int p3), .val (.int p4), .val (.int cn), .val (.int st), .val (.int vv), .val (.ref tx)] [(.int cn), (.int st), (.int (8 : Int32)), (.ref tx)]))
  refine own_st (fun _ kS => XS.iload X124.here hx rfl (hb hby at_302) rfl kS) ?_
  show OFin p e below s _ _ _ (T124.setTop (mkF m 304 #[.val (.int p1), .val (.int p2), .val (.int p3), .val (.int p4), .val (.int cn), .val (.int st), .val (.int vv), .val (.ref tx)] [(.int vv), (.int cn), (.int st), (.int (8 : Int32)), (.ref tx)]))
  refine own_st (fun _ kS => XS.iloadN X124.here hx rfl (hb hby at_304) rfl kS) ?_
  show OFin p e below s _ _ _ (T124.setTop (mkF m 305 #[.val (.int p1), .val (.int p2), .val (.int p3), .val (.int p4), .val (.int cn), .val (.int st), .val (.int vv), .val (.ref tx)] [(.int p4), (.int vv), (.int cn), (.int st), (.int (8 : Int32)), (.ref tx)]))
  obtain ⟨v126, T126, L126, X126, hQ126, st126⟩ := own_static X124 hx hZ (y := (⟨"io/countersign/TimestampFormWriteDigitsPinLaw", "ok", "([BIIIII)Z"⟩ : MethodName)) (rm := ⟨1, 1, 11, 13⟩) (W := 0) (argsL := [(.ref tx), (.int (8 : Int32)), (.int st), (.int cn), (.int vv), (.int p4)]) (rest := []) hown (own_w hw 10 rfl) (own_w hw 11 rfl) (own_w hw 4 rfl) (own_w hw 12 rfl) (rmO l Z a0 hw tx (8 : Int32) st cn vv p4 T124.heap n0 sz124 fb 8 f125 rfl (by decide) (own_X 8 hst hcn hfb (by decide) rfl) (own_Y 8 hst hcn hv hfb (by decide) rfl)) rfl (g := (mkF m 305 #[.val (.int p1), .val (.int p2), .val (.int p3), .val (.int p4), .val (.int cn), .val (.int st), .val (.int vv), .val (.ref tx)] [(.int p4), (.int vv), (.int cn), (.int st), (.int (8 : Int32)), (.ref tx)])) rfl (by rw [hml]; rfl) (lenOf own_pd2 rfl) rfl (by show 2 * 0 + _ ≤ _; exact Nat.le_of_eq rfl) (hb hby at_305) (by decide) (by decide) (by decide) (by decide)
  obtain ⟨rfl, N126, K126⟩ := hQ126
  have fr126 := Fr.app fr124 N126
  have f127 := f125.keep K126 nin0
  clear f125
  have sz126 : n0 ≤ T126.heap.size := Nat.le_trans sz124 K126.1
  clear sz124
  refine own_st (st126) ?_
  clear st126 X124
  show OFin p e below s _ _ _ (T126.setTop (mkF m 308 #[.val (.int p1), .val (.int p2), .val (.int p3), .val (.int p4), .val (.int cn), .val (.int st), .val (.int vv), .val (.ref tx)] [(.int (1 : Int32))]))
  refine own_st (fun _ kS => XS.ifNo X126.here hx rfl (hb hby at_308) rfl ((if0 _ _).trans (feq (by decide)).1) kS) ?_
  show OFin p e below s _ _ _ (T126.setTop (mkF m 311 #[.val (.int p1), .val (.int p2), .val (.int p3), .val (.int p4), .val (.int cn), .val (.int st), .val (.int vv), .val (.ref tx)] []))
  refine own_st (fun _ kS => XS.aload X126.here hx rfl (hb hby at_311) rfl rfl kS) ?_
  show OFin p e below s _ _ _ (T126.setTop (mkF m 313 #[.val (.int p1), .val (.int p2), .val (.int p3), .val (.int p4), .val (.int cn), .val (.int st), .val (.int vv), .val (.ref tx)] [(.ref tx)]))
  refine own_st (fun _ kS => XS.bipush X126.here hx rfl (hb hby at_313) kS) ?_
  show OFin p e below s _ _ _ (T126.setTop (mkF m 315 #[.val (.int p1), .val (.int p2), .val (.int p3), .val (.int p4), .val (.int cn), .val (.int st), .val (.int vv), .val (.ref tx)] [(.int (9 : Int32)), (.ref tx)]))
  refine own_st (fun _ kS => XS.iload X126.here hx rfl (hb hby at_315) rfl kS) ?_
  show OFin p e below s _ _ _ (T126.setTop (mkF m 317 #[.val (.int p1), .val (.int p2), .val (.int p3), .val (.int p4), .val (.int cn), .val (.int st), .val (.int vv), .val (.ref tx)] [(.int st), (.int (9 : Int32)), (.ref tx)]))
  refine own_st (fun _ kS => XS.iload X126.here hx rfl (hb hby at_317) rfl kS) ?_
  show OFin p e below s _ _ _ (T126.setTop (mkF m 319 #[.val (.int p1), .val (.int p2), .val (.int p3), .val (.int p4), .val (.int cn), .val (.int st), .val (.int vv), .val (.ref tx)] [(.int cn), (.int st), (.int (9 : Int32)), (.ref tx)]))
  refine own_st (fun _ kS => XS.iload X126.here hx rfl (hb hby at_319) rfl kS) ?_
  show OFin p e below s _ _ _ (T126.setTop (mkF m 321 #[.val (.int p1), .val (.int p2), .val (.int p3), .val (.int p4), .val (.int cn), .val (.int st), .val (.int vv), .val (.ref tx)] [(.int vv), (.int cn), (.int st), (.int (9 : Int32)), (.ref tx)]))
  refine own_st (fun _ kS => XS.iloadN X126.here hx rfl (hb hby at_321) rfl kS) ?_
  show OFin p e below s _ _ _ (T126.setTop (mkF m 322 #[.val (.int p1), .val (.int p2), .val (.int p3), .val (.int p4), .val (.int cn), .val (.int st), .val (.int vv), .val (.ref tx)] [(.int p4), (.int vv), (.int cn), (.int st), (.int (9 : Int32)), (.ref tx)]))
  obtain ⟨v128, T128, L128, X128, hQ128, st128⟩ := own_static X126 hx hZ (y := (⟨"io/countersign/TimestampFormWriteDigitsPinLaw", "ok", "([BIIIII)Z"⟩ : MethodName)) (rm := ⟨1, 1, 11, 13⟩) (W := 0) (argsL := [(.ref tx), (.int (9 : Int32)), (.int st), (.int cn), (.int vv), (.int p4)]) (rest := []) hown (own_w hw 10 rfl) (own_w hw 11 rfl) (own_w hw 4 rfl) (own_w hw 12 rfl) (rmO l Z a0 hw tx (9 : Int32) st cn vv p4 T126.heap n0 sz126 fb 9 f127 rfl (by decide) (own_X 9 hst hcn hfb (by decide) rfl) (own_Y 9 hst hcn hv hfb (by decide) rfl)) rfl (g := (mkF m 322 #[.val (.int p1), .val (.int p2), .val (.int p3), .val (.int p4), .val (.int cn), .val (.int st), .val (.int vv), .val (.ref tx)] [(.int p4), (.int vv), (.int cn), (.int st), (.int (9 : Int32)), (.ref tx)])) rfl (by rw [hml]; rfl) (lenOf own_pd2 rfl) rfl (by show 2 * 0 + _ ≤ _; exact Nat.le_of_eq rfl) (hb hby at_322) (by decide) (by decide) (by decide) (by decide)
  obtain ⟨rfl, N128, K128⟩ := hQ128
  have fr128 := Fr.app fr126 N128
  have f129 := f127.keep K128 nin0
  clear f127
  have sz128 : n0 ≤ T128.heap.size := Nat.le_trans sz126 K128.1
  clear sz126
  refine own_st (st128) ?_
  clear st128 X126
  show OFin p e below s _ _ _ (T128.setTop (mkF m 325 #[.val (.int p1), .val (.int p2), .val (.int p3), .val (.int p4), .val (.int cn), .val (.int st), .val (.int vv), .val (.ref tx)] [(.int (1 : Int32))]))
  refine own_st (fun _ kS => XS.ifNo X128.here hx rfl (hb hby at_325) rfl ((if0 _ _).trans (feq (by decide)).1) kS) ?_
  show OFin p e below s _ _ _ (T128.setTop (mkF m 328 #[.val (.int p1), .val (.int p2), .val (.int p3), .val (.int p4), .val (.int cn), .val (.int st), .val (.int vv), .val (.ref tx)] []))
  refine own_st (fun _ kS => XS.aload X128.here hx rfl (hb hby at_328) rfl rfl kS) ?_
  show OFin p e below s _ _ _ (T128.setTop (mkF m 330 #[.val (.int p1), .val (.int p2), .val (.int p3), .val (.int p4), .val (.int cn), .val (.int st), .val (.int vv), .val (.ref tx)] [(.ref tx)]))
  refine own_st (fun _ kS => XS.bipush X128.here hx rfl (hb hby at_330) kS) ?_
  show OFin p e below s _ _ _ (T128.setTop (mkF m 332 #[.val (.int p1), .val (.int p2), .val (.int p3), .val (.int p4), .val (.int cn), .val (.int st), .val (.int vv), .val (.ref tx)] [(.int (10 : Int32)), (.ref tx)]))
  refine own_st (fun _ kS => XS.iload X128.here hx rfl (hb hby at_332) rfl kS) ?_
  show OFin p e below s _ _ _ (T128.setTop (mkF m 334 #[.val (.int p1), .val (.int p2), .val (.int p3), .val (.int p4), .val (.int cn), .val (.int st), .val (.int vv), .val (.ref tx)] [(.int st), (.int (10 : Int32)), (.ref tx)]))
  refine own_st (fun _ kS => XS.iload X128.here hx rfl (hb hby at_334) rfl kS) ?_
  show OFin p e below s _ _ _ (T128.setTop (mkF m 336 #[.val (.int p1), .val (.int p2), .val (.int p3), .val (.int p4), .val (.int cn), .val (.int st), .val (.int vv), .val (.ref tx)] [(.int cn), (.int st), (.int (10 : Int32)), (.ref tx)]))
  refine own_st (fun _ kS => XS.iload X128.here hx rfl (hb hby at_336) rfl kS) ?_
  show OFin p e below s _ _ _ (T128.setTop (mkF m 338 #[.val (.int p1), .val (.int p2), .val (.int p3), .val (.int p4), .val (.int cn), .val (.int st), .val (.int vv), .val (.ref tx)] [(.int vv), (.int cn), (.int st), (.int (10 : Int32)), (.ref tx)]))
  refine own_st (fun _ kS => XS.iloadN X128.here hx rfl (hb hby at_338) rfl kS) ?_
  show OFin p e below s _ _ _ (T128.setTop (mkF m 339 #[.val (.int p1), .val (.int p2), .val (.int p3), .val (.int p4), .val (.int cn), .val (.int st), .val (.int vv), .val (.ref tx)] [(.int p4), (.int vv), (.int cn), (.int st), (.int (10 : Int32)), (.ref tx)]))
  obtain ⟨v130, T130, L130, X130, hQ130, st130⟩ := own_static X128 hx hZ (y := (⟨"io/countersign/TimestampFormWriteDigitsPinLaw", "ok", "([BIIIII)Z"⟩ : MethodName)) (rm := ⟨1, 1, 11, 13⟩) (W := 0) (argsL := [(.ref tx), (.int (10 : Int32)), (.int st), (.int cn), (.int vv), (.int p4)]) (rest := []) hown (own_w hw 10 rfl) (own_w hw 11 rfl) (own_w hw 4 rfl) (own_w hw 12 rfl) (rmO l Z a0 hw tx (10 : Int32) st cn vv p4 T128.heap n0 sz128 fb 10 f129 rfl (by decide) (own_X 10 hst hcn hfb (by decide) rfl) (own_Y 10 hst hcn hv hfb (by decide) rfl)) rfl (g := (mkF m 339 #[.val (.int p1), .val (.int p2), .val (.int p3), .val (.int p4), .val (.int cn), .val (.int st), .val (.int vv), .val (.ref tx)] [(.int p4), (.int vv), (.int cn), (.int st), (.int (10 : Int32)), (.ref tx)])) rfl (by rw [hml]; rfl) (lenOf own_pd2 rfl) rfl (by show 2 * 0 + _ ≤ _; exact Nat.le_of_eq rfl) (hb hby at_339) (by decide) (by decide) (by decide) (by decide)
  obtain ⟨rfl, N130, K130⟩ := hQ130
  have fr130 := Fr.app fr128 N130
  have f131 := f129.keep K130 nin0
  clear f129
  have sz130 : n0 ≤ T130.heap.size := Nat.le_trans sz128 K130.1
  clear sz128
  refine own_st (st130) ?_
  clear st130 X128
  show OFin p e below s _ _ _ (T130.setTop (mkF m 342 #[.val (.int p1), .val (.int p2), .val (.int p3), .val (.int p4), .val (.int cn), .val (.int st), .val (.int vv), .val (.ref tx)] [(.int (1 : Int32))]))
  refine own_st (fun _ kS => XS.ifNo X130.here hx rfl (hb hby at_342) rfl ((if0 _ _).trans (feq (by decide)).1) kS) ?_
  show OFin p e below s _ _ _ (T130.setTop (mkF m 345 #[.val (.int p1), .val (.int p2), .val (.int p3), .val (.int p4), .val (.int cn), .val (.int st), .val (.int vv), .val (.ref tx)] []))
  refine own_st (fun _ kS => XS.aload X130.here hx rfl (hb hby at_345) rfl rfl kS) ?_
  show OFin p e below s _ _ _ (T130.setTop (mkF m 347 #[.val (.int p1), .val (.int p2), .val (.int p3), .val (.int p4), .val (.int cn), .val (.int st), .val (.int vv), .val (.ref tx)] [(.ref tx)]))
  refine own_st (fun _ kS => XS.bipush X130.here hx rfl (hb hby at_347) kS) ?_
  show OFin p e below s _ _ _ (T130.setTop (mkF m 349 #[.val (.int p1), .val (.int p2), .val (.int p3), .val (.int p4), .val (.int cn), .val (.int st), .val (.int vv), .val (.ref tx)] [(.int (11 : Int32)), (.ref tx)]))
  refine own_st (fun _ kS => XS.iload X130.here hx rfl (hb hby at_349) rfl kS) ?_
  show OFin p e below s _ _ _ (T130.setTop (mkF m 351 #[.val (.int p1), .val (.int p2), .val (.int p3), .val (.int p4), .val (.int cn), .val (.int st), .val (.int vv), .val (.ref tx)] [(.int st), (.int (11 : Int32)), (.ref tx)]))
  refine own_st (fun _ kS => XS.iload X130.here hx rfl (hb hby at_351) rfl kS) ?_
  show OFin p e below s _ _ _ (T130.setTop (mkF m 353 #[.val (.int p1), .val (.int p2), .val (.int p3), .val (.int p4), .val (.int cn), .val (.int st), .val (.int vv), .val (.ref tx)] [(.int cn), (.int st), (.int (11 : Int32)), (.ref tx)]))
  refine own_st (fun _ kS => XS.iload X130.here hx rfl (hb hby at_353) rfl kS) ?_
  show OFin p e below s _ _ _ (T130.setTop (mkF m 355 #[.val (.int p1), .val (.int p2), .val (.int p3), .val (.int p4), .val (.int cn), .val (.int st), .val (.int vv), .val (.ref tx)] [(.int vv), (.int cn), (.int st), (.int (11 : Int32)), (.ref tx)]))
  refine own_st (fun _ kS => XS.iloadN X130.here hx rfl (hb hby at_355) rfl kS) ?_
  show OFin p e below s _ _ _ (T130.setTop (mkF m 356 #[.val (.int p1), .val (.int p2), .val (.int p3), .val (.int p4), .val (.int cn), .val (.int st), .val (.int vv), .val (.ref tx)] [(.int p4), (.int vv), (.int cn), (.int st), (.int (11 : Int32)), (.ref tx)]))
  obtain ⟨v132, T132, L132, X132, hQ132, st132⟩ := own_static X130 hx hZ (y := (⟨"io/countersign/TimestampFormWriteDigitsPinLaw", "ok", "([BIIIII)Z"⟩ : MethodName)) (rm := ⟨1, 1, 11, 13⟩) (W := 0) (argsL := [(.ref tx), (.int (11 : Int32)), (.int st), (.int cn), (.int vv), (.int p4)]) (rest := []) hown (own_w hw 10 rfl) (own_w hw 11 rfl) (own_w hw 4 rfl) (own_w hw 12 rfl) (rmO l Z a0 hw tx (11 : Int32) st cn vv p4 T130.heap n0 sz130 fb 11 f131 rfl (by decide) (own_X 11 hst hcn hfb (by decide) rfl) (own_Y 11 hst hcn hv hfb (by decide) rfl)) rfl (g := (mkF m 356 #[.val (.int p1), .val (.int p2), .val (.int p3), .val (.int p4), .val (.int cn), .val (.int st), .val (.int vv), .val (.ref tx)] [(.int p4), (.int vv), (.int cn), (.int st), (.int (11 : Int32)), (.ref tx)])) rfl (by rw [hml]; rfl) (lenOf own_pd2 rfl) rfl (by show 2 * 0 + _ ≤ _; exact Nat.le_of_eq rfl) (hb hby at_356) (by decide) (by decide) (by decide) (by decide)
  obtain ⟨rfl, N132, K132⟩ := hQ132
  have fr132 := Fr.app fr130 N132
  have f133 := f131.keep K132 nin0
  clear f131
  have sz132 : n0 ≤ T132.heap.size := Nat.le_trans sz130 K132.1
  clear sz130
  refine own_st (st132) ?_
  clear st132 X130
  show OFin p e below s _ _ _ (T132.setTop (mkF m 359 #[.val (.int p1), .val (.int p2), .val (.int p3), .val (.int p4), .val (.int cn), .val (.int st), .val (.int vv), .val (.ref tx)] [(.int (1 : Int32))]))
  refine own_st (fun _ kS => XS.ifNo X132.here hx rfl (hb hby at_359) rfl ((if0 _ _).trans (feq (by decide)).1) kS) ?_
  show OFin p e below s _ _ _ (T132.setTop (mkF m 362 #[.val (.int p1), .val (.int p2), .val (.int p3), .val (.int p4), .val (.int cn), .val (.int st), .val (.int vv), .val (.ref tx)] []))
  refine own_st (fun _ kS => XS.iconst X132.here hx rfl (hb hby at_362) kS) ?_
  show OFin p e below s _ _ _ (T132.setTop (mkF m 363 #[.val (.int p1), .val (.int p2), .val (.int p3), .val (.int p4), .val (.int cn), .val (.int st), .val (.int vv), .val (.ref tx)] [(.int (1 : Int32))]))
  refine own_st (fun _ kS => XS.goto X132.here hx rfl (pc0 := 363) (pc' := 367) rfl (hb hby at_363) (by decide) (by decide) kS) ?_
  show OFin p e below s _ _ _ (T132.setTop (mkF m 367 #[.val (.int p1), .val (.int p2), .val (.int p3), .val (.int p4), .val (.int cn), .val (.int st), .val (.int vv), .val (.ref tx)] [(.int (1 : Int32))]))
  exact own_ret X132 hx (t := .boolean) hret hlk rfl (Or.inl ⟨rfl, by simp, _, rfl⟩) (hb hby at_367) (by decide) (by decide) ⟨rfl, fr132⟩
set_option maxRecDepth 65536 in
set_option maxHeartbeats 40000000 in
theorem comes_1 {Post : Tables → Env → Array Value → State → Outcome → State → Prop} (hpost : ∀ tb e args s v u, (limb_1_1.after args s (.returned v) u = true ∧ limb_1_2.after args s (.returned v) u = true ∧ True) → FrameEnd s (.returned v) u (Jvm.fieldLocs frame_1_writes args s ++ Jvm.arrayLocs frame_1_arrays args s ++ Jvm.staticLocs frame_1_statics s) 32 384 → Post tb e args s (.returned v) u) :
    ArmFor flags0 classFile x code maxLocals ret World_1 tables_1 room_1 Calls_1 rest_1 Pre_1 Post := by
  intro l hfl _ _ p e ha hc hk s m args below hf hA hF happ hP
  obtain ⟨hcalls, hrest, hpre⟩ := hP
  obtain ⟨-, -, -, hnamed, -, -, -, hat⟩ := (Spec.applies_iff hf).mp happ
  obtain ⟨hg, hn⟩ := and_e (Cond.before_iff.mp (show (Jvm.Cond.and given_1 narrow_1).before args s = true from hpre))
  obtain ⟨gc, hg0⟩ := and_e hg
  obtain ⟨ga0, hg1⟩ := and_e hg0
  obtain ⟨ga1, hg2⟩ := and_e hg1
  obtain ⟨ga2, hg3⟩ := and_e hg2
  obtain ⟨w0, w1, w2, w3, rfl⟩ : ∃ w0 w1 w2 w3 : Value, args = #[w0, w1, w2, w3] := by
    have hs : args.size = 4 := by simpa [Cond.value, given_1] using gc
    obtain ⟨L⟩ := args
    match L, hs with
    | [w0, w1, w2, w3], _ => exact ⟨w0, w1, w2, w3, rfl⟩
  have hw := fun d (hd : d ∈ tables_1) => atoms_spec (ws := Jvm.Cond.code x code maxLocals ret :: tables_1) hat d (List.mem_cons_of_mem _ hd)
  have hfit : Fit s := fun {y c} hc i hi => by
    obtain ⟨ha, rfl⟩ := Array.getElem?_eq_some_iff.mp hc
    have q := List.all_eq_true.mp ((Array.all_eq_true_iff_forall_mem.mp hF) _ (Array.getElem_mem ha)) i (List.mem_range.mpr hi)
    simpa [Array.getElem?_eq_getElem hi] using q
  obtain ⟨i0, ei0⟩ := is_v ga0
  obtain rfl : w0 = (.int i0) := Option.some.inj ei0
  obtain ⟨i1, ei1⟩ := is_v ga1
  obtain rfl : w1 = (.int i1) := Option.some.inj ei1
  obtain ⟨i2, ei2⟩ := is_v ga2
  obtain rfl : w2 = (.int i2) := Option.some.inj ei2
  obtain ⟨i3, ei3⟩ := is_v hg3
  obtain rfl : w3 = (.int i3) := Option.some.inj ei3
  obtain ⟨n, o, h1, h2, h3, _, L, rfl, ⟨rfl, N⟩, hq⟩ := rm0 l s _ hw i0 i1 i2 i3 s.heap s.heap.size (Nat.le_refl _) tables_1 p e ha hc hk s m _ below hf ((Spec.applies_iff_loose hf).mp happ).1 ⟨rfl, State.Warmed39.refl s, rfl⟩ trivial
  refine ⟨n, _, h1, h2, h3, hpost _ _ _ _ _ _ ⟨Cond.after_iff.mpr rfl, Cond.after_iff.mpr (eq_i res_at (Term.int_eval (1)) rfl), trivial⟩ ⟨hq.1, hq.2.1, (hq.2.2.sift fun y hy => Or.inr (N y hy)).mono (by decide) (by decide)⟩⟩
theorem main_1_1 : Claimed_1_1 := comes_1 fun _ _ _ _ _ _ h hF => ⟨h.1, hF⟩
theorem main_1_2 : Claimed_1_2 := comes_1 fun _ _ _ _ _ _ h hF => ⟨h.2.1, hF⟩
end Jvm.Pilot.@@N@@
namespace Jvm.Pilot.@@N@@
open Jvm Jvm.ClassFile Sem Op Lib Jvm.Free Jvm.Stand Jvm.Pilot.@@N@@.Jvm.D
/-! MADE BY PROGRAM (witnessworld.py) out of the Statement's table words and the real class files: 11 classes; the members and pool entries that the words name. The judged class is class 1, her method 1. -/
namespace start1
open Jvm.ClassFile
def u (s : String) : CpInfo := .utf8 (stringToUtf16 s)
/-- a pool by its gaps: so many unusable entries, then the entry; so many at the end -/
def gap : Nat → List CpInfo → List CpInfo
  | 0, r => r
  | n + 1, r => .unusable :: gap n r
def poolList (es : List (Nat × CpInfo)) (last : Nat) : List CpInfo := es.foldr (fun e r => gap e.1 (e.2 :: r)) (gap last [])
def pool (es : List (Nat × CpInfo)) (last : Nat) : Array CpInfo := ⟨poolList es last⟩
def fileOf (pool : Array CpInfo) (this : Nat) (attrs : Array Attribute := #[]) (ms : Array MethodInfo := #[]) (fl : Nat := 33) (sup : Nat := 0) (ifs : Array Nat := #[]) (fds : Array FieldInfo := #[]) : ClassFile where
  minorVersion := 0
  majorVersion := 65
  constantPool := pool
  accessFlags := fl
  thisClass := this
  superClass := sup
  interfaces := ifs
  fields := fds
  methods := ms
  attributes := attrs
def plain (name : String) (sup : Option ClassId) : Class where
  name := name
  kind := .ordinary
  loader := none
  accessFlags := 33
  super := sup
  interfaces := #[]
  cf := none
  fields := #[]
  methods := #[]
  instanceTypes := #[]
  staticTypes := #[]
  resolved := #[]
  callSites := []
  init := .initialized
  statics := none
  mirror := none

def pool0 : Array CpInfo := pool [(5, u "<init>"), (0, u "()V"), (1, .class_ 10), (1, u "java/lang/Object")] 113

def k0m0 : Method := { name := "<init>", desc := "()V", sig := { parameters := [], returnType := none }, accessFlags := 1, code := none }
/-- java/lang/Object -/
def k0 : Class := { plain "java/lang/Object" none with
  accessFlags := 33
  interfaces := #[]
  cf := some (fileOf pool0 8 #[] #[{ accessFlags := 1, nameIndex := 5, descriptorIndex := 6, attributes := #[] }] 33 0 #[] #[])
  fields := #[]
  methods := #[k0m0]
  instanceTypes := #[]
  staticTypes := #[]
  resolved := Array.replicate 124 none
  statics := none }

def pool1 : Array CpInfo := pool [(2, .class_ 4), (1, u "java/lang/Object"), (0, u "<init>"), (0, u "()V"), (0, .integer 2147483647), (0, .methodref 9 10), (0, .class_ 11), (0, .nameAndType 12 13), (0, u "io/countersign/TimestampFormWriteDigitsPinLaw"), (0, u "before"), (0, u "(II)B"), (0, .methodref 15 16), (0, .class_ 17), (0, .nameAndType 18 19), (0, u "io/countersign/TimestampForm"), (0, u "writeDigits"), (0, u "([BIII)V"), (0, .methodref 9 21), (0, .nameAndType 22 23), (0, u "ok"), (0, u "([BIIIII)Z"), (0, .long 10), (1, .long 100), (1, .long 1000), (1, .long 10000), (1, .long 100000), (1, .long 1000000), (1, .long 10000000), (1, .long 100000000), (1, .long 1000000000), (1, .long 10000000000), (1, .long 48), (3, u "law"), (0, u "(IIII)Z")] 5

def k1m0 : Method := { name := "<init>", desc := "()V", sig := { parameters := [], returnType := none }, accessFlags := 1, code := none }
def k1c1 : Code := { maxStack := 6, maxLocals := 8, code := code, exceptionTable := #[], attributes := #[] }
def k1m1 : Method := { name := "law", desc := "(IIII)Z", sig := { parameters := [.int, .int, .int, .int], returnType := some .boolean }, accessFlags := 9, code := some k1c1 }
def k1c2 : Code := { maxStack := 3, maxLocals := 2, code := method_3_code, exceptionTable := #[], attributes := #[] }
def k1m2 : Method := { name := "before", desc := "(II)B", sig := { parameters := [.int, .int], returnType := some .byte }, accessFlags := 10, code := some k1c2 }
def k1c3 : Code := { maxStack := 6, maxLocals := 9, code := method_4_code, exceptionTable := #[], attributes := #[] }
def k1m3 : Method := { name := "ok", desc := "([BIIIII)Z", sig := { parameters := [(.array .byte), .int, .int, .int, .int, .int], returnType := some .boolean }, accessFlags := 10, code := some k1c3 }
/-- io/countersign/TimestampFormWriteDigitsPinLaw -/
def k1 : Class := { plain "io/countersign/TimestampFormWriteDigitsPinLaw" (some 0) with
  accessFlags := 49
  interfaces := #[]
  cf := some (fileOf pool1 9 #[] #[{ accessFlags := 1, nameIndex := 5, descriptorIndex := 6, attributes := #[] }, { accessFlags := 9, nameIndex := 48, descriptorIndex := 49, attributes := #[] }, { accessFlags := 10, nameIndex := 12, descriptorIndex := 13, attributes := #[] }, { accessFlags := 10, nameIndex := 22, descriptorIndex := 23, attributes := #[] }] 49 2 #[] #[])
  fields := #[]
  methods := #[k1m0, k1m1, k1m2, k1m3]
  instanceTypes := #[]
  staticTypes := #[]
  resolved := Array.replicate 55 none
  statics := none }

def pool2 : Array CpInfo := pool [(3, .class_ 4), (0, u "io/countersign/TimestampForm"), (1, .class_ 8), (1, u "java/lang/Object"), (3, u "form"), (10, u "Ljava/lang/String;"), (24, u "literals"), (0, u "[I"), (2, u "literalCharacters"), (0, u "[C"), (45, u "DAYS_BEFORE_MONTH"), (2, u "DAYS_BEFORE_1970"), (0, u "J"), (2, u "NOT_A_TIME"), (1, u "MONTHS_PER_YEAR"), (0, u "I"), (1, u "HOURS_PER_DAY"), (1, u "MINUTES_PER_HOUR"), (1, u "SECONDS_PER_MINUTE"), (0, u "SECONDS_PER_DAY"), (1, u "LAST_YEAR"), (1, u "DAYS_PER_YEAR"), (11, u "writeDigits"), (0, u "([BIII)V")] 26

def k2c0 : Code := { maxStack := 5, maxLocals := 6, code := prog_24_method_5_code, exceptionTable := #[], attributes := #[] }
def k2m0 : Method := { name := "writeDigits", desc := "([BIII)V", sig := { parameters := [(.array .byte), .int, .int, .int], returnType := none }, accessFlags := 9, code := some k2c0 }
/-- io/countersign/TimestampForm -/
def k2 : Class := { plain "io/countersign/TimestampForm" (some 0) with
  accessFlags := 49
  interfaces := #[]
  cf := some (fileOf pool2 3 #[] #[{ accessFlags := 9, nameIndex := 132, descriptorIndex := 133, attributes := #[] }] 49 6 #[] #[{ accessFlags := 25, nameIndex := 106, descriptorIndex := 103, attributes := #[] }, { accessFlags := 26, nameIndex := 108, descriptorIndex := 109, attributes := #[] }, { accessFlags := 26, nameIndex := 111, descriptorIndex := 109, attributes := #[] }, { accessFlags := 26, nameIndex := 113, descriptorIndex := 109, attributes := #[] }, { accessFlags := 26, nameIndex := 115, descriptorIndex := 109, attributes := #[] }, { accessFlags := 26, nameIndex := 116, descriptorIndex := 109, attributes := #[] }, { accessFlags := 26, nameIndex := 118, descriptorIndex := 109, attributes := #[] }, { accessFlags := 26, nameIndex := 120, descriptorIndex := 109, attributes := #[] }, { accessFlags := 26, nameIndex := 99, descriptorIndex := 49, attributes := #[] }, { accessFlags := 26, nameIndex := 102, descriptorIndex := 103, attributes := #[] }, { accessFlags := 18, nameIndex := 12, descriptorIndex := 23, attributes := #[] }, { accessFlags := 18, nameIndex := 48, descriptorIndex := 49, attributes := #[] }, { accessFlags := 18, nameIndex := 52, descriptorIndex := 53, attributes := #[] }])
  fields := #[{ name := "NOT_A_TIME", type := .long, accessFlags := 25, slot := 0, constantValue := 0 }, { name := "MONTHS_PER_YEAR", type := .int, accessFlags := 26, slot := 1, constantValue := 0 }, { name := "HOURS_PER_DAY", type := .int, accessFlags := 26, slot := 2, constantValue := 0 }, { name := "MINUTES_PER_HOUR", type := .int, accessFlags := 26, slot := 3, constantValue := 0 }, { name := "SECONDS_PER_MINUTE", type := .int, accessFlags := 26, slot := 4, constantValue := 0 }, { name := "SECONDS_PER_DAY", type := .int, accessFlags := 26, slot := 5, constantValue := 0 }, { name := "LAST_YEAR", type := .int, accessFlags := 26, slot := 6, constantValue := 0 }, { name := "DAYS_PER_YEAR", type := .int, accessFlags := 26, slot := 7, constantValue := 0 }, { name := "DAYS_BEFORE_MONTH", type := (.array .int), accessFlags := 26, slot := 8, constantValue := 0 }, { name := "DAYS_BEFORE_1970", type := .long, accessFlags := 26, slot := 9, constantValue := 0 }, { name := "form", type := (.object "java/lang/String"), accessFlags := 18, slot := 0, constantValue := 0 }, { name := "literals", type := (.array .int), accessFlags := 18, slot := 1, constantValue := 0 }, { name := "literalCharacters", type := (.array .char), accessFlags := 18, slot := 2, constantValue := 0 }]
  methods := #[k2m0]
  instanceTypes := #[(.object "java/lang/String"), (.array .int), (.array .char)]
  staticTypes := #[.long, .int, .int, .int, .int, .int, .int, .int, (.array .int), .long]
  resolved := Array.replicate 160 none
  statics := none }

def pool3 : Array CpInfo := pool [(1, u "java/lang/Cloneable"), (0, .class_ 1), (0, u "java/lang/Object"), (0, .class_ 3)] 3

/-- java/lang/Cloneable -/
def k3 : Class := { plain "java/lang/Cloneable" (some 0) with
  accessFlags := 1537
  interfaces := #[]
  cf := some (fileOf pool3 2 #[] #[] 1537 4 #[] #[])
  fields := #[]
  methods := #[]
  instanceTypes := #[]
  staticTypes := #[]
  resolved := Array.replicate 8 none
  statics := none }

def pool4 : Array CpInfo := pool [(1, u "java/io/Serializable"), (0, .class_ 1), (0, u "java/lang/Object"), (0, .class_ 3)] 3

/-- java/io/Serializable -/
def k4 : Class := { plain "java/io/Serializable" (some 0) with
  accessFlags := 1537
  interfaces := #[]
  cf := some (fileOf pool4 2 #[] #[] 1537 4 #[] #[])
  fields := #[]
  methods := #[]
  instanceTypes := #[]
  staticTypes := #[]
  resolved := Array.replicate 8 none
  statics := none }

/-- the primitive byte -/
def k5 : Class := { plain "byte" none with kind := .primitive 'B', accessFlags := 0x411 }
/-- [B -/
def k6 : Class := { plain "[B" (some 0) with kind := .array 5 .byte, interfaces := #[3, 4], accessFlags := 1041 }

/-- the primitive int -/
def k7 : Class := { plain "int" none with kind := .primitive 'I', accessFlags := 0x411 }
/-- [I -/
def k8 : Class := { plain "[I" (some 0) with kind := .array 7 .int, interfaces := #[3, 4], accessFlags := 1041 }

/-- the primitive long -/
def k9 : Class := { plain "long" none with kind := .primitive 'J', accessFlags := 0x411 }
/-- [J -/
def k10 : Class := { plain "[J" (some 0) with kind := .array 9 .long, interfaces := #[3, 4], accessFlags := 1041 }

def heap : Heap := #[]
def classes : Array Class := #[k0, k1, k2, k3, k4, k5, k6, k7, k8, k9, k10]
def interned : List (Array UInt16 × Addr) := []
def slotsUsed : Nat := 0
def theMethod : MethodId := ⟨1, 1⟩
def args0 : Array Value := #[.int 5, .int 7, .int 3, .int 9]
def aboutOver (below : List Frame) : State where
  vm := { classes := classes, interned := interned.toArray }
  heap := heap
  slotsUsed := slotsUsed
  threads := #[{ frames := .invoking theMethod args0 :: below }]
def below0 : List Frame := [.native { method := ⟨0, 0⟩, args := #[] }]
def about1 : State := aboutOver below0
def p0 : Program := .bare "" "" ""
def e0 : Env := launch0.env 0 0 0
theorem w_frames : about1.frames = Frame.invoking theMethod args0 :: below0 := rfl
set_option maxRecDepth 65536 in
theorem w_args : argsFit about1.vm theMethod args0 = true := by decide +kernel
set_option maxRecDepth 65536 in
theorem w_heap : heapFits about1 = true := by decide +kernel
set_option maxRecDepth 65536 in
theorem w_runnable : about1.curStatus? = some .runnable := by decide +kernel
set_option maxRecDepth 65536 in
theorem w_alone : about1.alone = true := by decide +kernel
set_option maxRecDepth 65536 in
theorem w_named : about1.methodNamed? x = some theMethod := by decide +kernel
set_option maxRecDepth 65536 in
theorem w_hears : about1.hears theMethod below0 = true := by decide +kernel
set_option maxRecDepth 65536 in
theorem w_ripe : about1.ripe theMethod args0 below0 = true := by decide +kernel
theorem w_running : about1.status = .running := rfl
set_option maxRecDepth 65536 in
theorem w_room : about1.hasRoom e0.platform room_1 = true :=
  launch0.hasRoom_least _ room_1 (by decide +kernel) (by decide +kernel) (by decide +kernel) (by decide +kernel) (by decide +kernel) (by decide +kernel)
theorem allAtoms_all (ts : List Jvm.Cond) (a : Array Jvm.Value) (st : Jvm.State) : (allAtoms ts).before a st = ts.all (fun c => c.before a st) := by
  induction ts with
  | nil => rfl
  | cons c t ih =>
    show (Jvm.Cond.and c (allAtoms t)).before a st = _
    rw [Jvm.Cond.before_and, ih, List.all_cons]
def words1 : List Jvm.Cond := Jvm.Cond.code x code maxLocals ret :: tables_1
/-- a 'code' word, met by the world's own term for the bytes: nothing is compared byte by byte -/
theorem code_word {y : MethodName} {bytes : ByteArray} {mx : Nat} {rt : Option FieldType} {a : Array Value} {s : State} {m : MethodId} {meth : Method} {c : Code} (h1 : s.methodNamed? y = some m) (h2 : s.vm.method? m = some meth) (h3 : meth.code = some c) (h4 : c.code = bytes)
    (h5 : (c.maxLocals == mx && c.exceptionTable.isEmpty && decide (c.maxStack ≤ mostOperands) && decide (meth.sig.returnType = rt) && !meth.locks && decide (parseMethodDescriptor y.desc = some meth.sig)) = true) : (Jvm.Cond.code y bytes mx rt).before a s = true := by
  simp only [Bool.and_eq_true, beq_iff_eq, Bool.not_eq_true', decide_eq_true_eq] at h5
  obtain ⟨⟨⟨⟨⟨g1, g2⟩, g3⟩, g4⟩, g5⟩, g6⟩ := h5
  simp [Cond.before, Cond.holds, Cond.value, h1, h2, h3, h4, g1, g2, g3, g4, g5, g6]
def isCode : Jvm.Cond → Bool
  | .code _ _ _ _ => true
  | _ => false
theorem all_split {L : List Jvm.Cond} {P : Jvm.Cond → Bool} (h1 : L.all (fun c => isCode c || P c) = true) (h2 : ∀ c ∈ L.filter isCode, P c = true) : L.all P = true := by
  refine List.all_eq_true.mpr fun c hc => ?_
  have h := List.all_eq_true.mp h1 c hc
  rcases Bool.eq_false_or_eq_true (isCode c) with hi | hi
  · exact h2 c (List.mem_filter.mpr ⟨hc, hi⟩)
  · simpa [hi] using h
set_option maxRecDepth 65536 in
theorem w_c0 : (Jvm.Cond.code x code maxLocals ret).before args0 about1 = true := code_word (m := ⟨1, 1⟩) (meth := k1m1) (c := k1c1) (by decide +kernel) rfl rfl rfl (by decide +kernel)
set_option maxRecDepth 65536 in
theorem w_c1 : (Jvm.Cond.code ({ cls := "io/countersign/TimestampFormWriteDigitsPinLaw", name := "before", desc := "(II)B" } : Jvm.MethodName) method_3_code (2 : Nat) (Option.some Jvm.ClassFile.FieldType.byte)).before args0 about1 = true := code_word (m := ⟨1, 2⟩) (meth := k1m2) (c := k1c2) (by decide +kernel) rfl rfl rfl (by decide +kernel)
set_option maxRecDepth 65536 in
theorem w_c2 : (Jvm.Cond.code ({ cls := "io/countersign/TimestampForm", name := "writeDigits", desc := "([BIII)V" } : Jvm.MethodName) prog_24_method_5_code (6 : Nat) (Option.none : Option Jvm.ClassFile.FieldType)).before args0 about1 = true := code_word (m := ⟨2, 0⟩) (meth := k2m0) (c := k2c0) (by decide +kernel) rfl rfl rfl (by decide +kernel)
set_option maxRecDepth 65536 in
theorem w_c3 : (Jvm.Cond.code ({ cls := "io/countersign/TimestampFormWriteDigitsPinLaw", name := "ok", desc := "([BIIIII)Z" } : Jvm.MethodName) method_4_code (9 : Nat) (Option.some Jvm.ClassFile.FieldType.boolean)).before args0 about1 = true := code_word (m := ⟨1, 3⟩) (meth := k1m3) (c := k1c3) (by decide +kernel) rfl rfl rfl (by decide +kernel)
def codes1 : List Jvm.Cond := [Jvm.Cond.code x code maxLocals ret, Jvm.Cond.code ({ cls := "io/countersign/TimestampFormWriteDigitsPinLaw", name := "before", desc := "(II)B" } : Jvm.MethodName) method_3_code (2 : Nat) (Option.some Jvm.ClassFile.FieldType.byte), Jvm.Cond.code ({ cls := "io/countersign/TimestampForm", name := "writeDigits", desc := "([BIII)V" } : Jvm.MethodName) prog_24_method_5_code (6 : Nat) (Option.none : Option Jvm.ClassFile.FieldType), Jvm.Cond.code ({ cls := "io/countersign/TimestampFormWriteDigitsPinLaw", name := "ok", desc := "([BIIIII)Z" } : Jvm.MethodName) method_4_code (9 : Nat) (Option.some Jvm.ClassFile.FieldType.boolean)]
set_option maxRecDepth 65536 in
theorem codes_eq : words1.filter isCode = codes1 := rfl
theorem w_codes : ∀ c ∈ words1.filter isCode, c.before args0 about1 = true := by
  rw [codes_eq]
  intro c hc
  simp only [codes1, List.mem_cons, List.not_mem_nil, or_false] at hc
  rcases hc with rfl | rfl | rfl | rfl
  · exact w_c0
  · exact w_c1
  · exact w_c2
  · exact w_c3
set_option maxRecDepth 65536 in
theorem w_t1 : (words1.take 24).all (fun c => isCode c || c.before args0 about1) = true := by decide +kernel
set_option maxRecDepth 65536 in
theorem w_t2 : (words1.drop 24).all (fun c => isCode c || c.before args0 about1) = true := by decide +kernel
theorem w_tables : (allAtoms (Jvm.Cond.code x code maxLocals ret :: tables_1)).before args0 about1 = true := by
  rw [allAtoms_all]
  show words1.all (fun c => c.before args0 about1) = true
  refine all_split ?_ w_codes
  rw [← List.take_append_drop 24 words1, List.all_append, w_t1, w_t2]
  rfl
set_option maxRecDepth 65536 in
theorem w_case : (Jvm.Cond.and given_1 narrow_1).before args0 about1 = true := by decide +kernel
theorem w_applies : (headSpec (Jvm.Cond.code x code maxLocals ret :: tables_1) room_1).applies x e0.platform about1 = true :=
  (Spec.applies_iff w_frames).mpr ⟨w_running, w_runnable, w_alone, w_named, w_hears, w_ripe, w_room, w_tables⟩
theorem atStart : AtStart classFile x code maxLocals ret World_1 tables_1 room_1 Calls_1 rest_1 Pre_1 launch0 p0 e0 about1 theMethod args0 below0 :=
  ⟨lists_1, trivial, launch0.admits_env _ _ _, launch0.least_env, fairChoices_fair.cas, fairChoices_fair.clock, w_frames, w_args, w_heap, w_applies, trivial, trivial, w_case⟩
end start1
theorem witness_1 : WitnessClaimed_1 := ⟨start1.p0, start1.e0, start1.about1, start1.theMethod, start1.args0, start1.below0, start1.atStart⟩
end Jvm.Pilot.@@N@@
