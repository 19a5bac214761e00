import JvmDerived
import JvmDerived.Pilot.@@N@@Statement
import JvmDerived.Pilot.@@N@@Code
set_option linter.unusedVariables false
set_option linter.unusedSimpArgs false
@@BLOCK:NumsL.lean.txt@@
namespace Jvm.Pilot.@@N@@
open Jvm Jvm.ClassFile Sem Op Lib Jvm.Free Jvm.Stand Jvm.LawKit Jvm.RoadKit Bundle Jvm.Pilot.@@N@@.Jvm.D
theorem own_w {Z : State} {a0 : Array Value} (hw : ∀ d ∈ tables_1, d.before a0 Z = true) (i : Nat) {d : Jvm.Cond} (h : tables_1[i]? = some d) : d.before a0 Z = true := hw _ (List.mem_of_getElem? h)
/-! own layer: a body's rest as one predicate (OFin), a contract (OMet), calls that give the plain facts back -/
def OFin (p : Program) (e : Env) (below : List Frame) (s : State) (kc ks : Nat) (Q : Option Value → Heap → List Loc → Prop) (S : State) : Prop :=
  ∃ s₂ o, Steps p.tables e below S s₂ ∧ s₂.status = .running ∧ Ended s₂ below o ∧ ∃ v L, o = .returned v ∧ Q v s₂.heap L ∧ FrameEnd s o s₂ L kc ks
def OMet (l : Launch) (Z : State) (y : MethodName) (bytes : ByteArray) (maxL : Nat) (ret : Option FieldType) (rm : Room) (as' : Array Value) (h0 : Heap) (Q : Option Value → Heap → List Loc → Prop) : Prop :=
  ∀ ws : List Jvm.Cond, MetFree l y (head1 (Jvm.Cond.code y bytes maxL ret :: ws) rm) (fun a U => a = as' ∧ Z.Warmed39 U.vm ∧ U.heap = h0) (fun _ _ _ _ _ => True) (fun _ U o U' => ∃ v L, o = .returned v ∧ Q v U'.heap L ∧ FrameEnd U o U' L rm.cells rm.slots)
def OCtx (Z : State) (p : Program) (s : State) (m : MethodId) (meth : Method) (c : Code) (cls nam : String) (bytes : ByteArray) (maxL : Nat) (ret : Option FieldType) : Prop :=
  p.tables.exec = Jvm.exec ∧ Z.Warmed39 s.vm ∧ c.code = bytes ∧ c.maxLocals = maxL ∧ s.vm.findClass cls = some m.cls ∧ meth.sig.returnType = ret ∧ meth.locks = false ∧ meth.name = nam
section OwnLayer
variable {p : Program} {l : Launch} {e : Env} {R : Room} {s : State} {m : MethodId} {args : Array Value} {below : List Frame} {meth : Method} {c : Code} {T : State} {locs : List Loc} {cells slots : Nat} {Z : State} {a0 : Array Value} {h : Heap}
variable {kc ks : Nat} {Q : Option Value → Heap → List Loc → Prop}
theorem own_st {A B : State} (hs : ∀ t, Steps p.tables e below B t → Steps p.tables e below A t) (k : OFin p e below s kc ks Q B) : OFin p e below s kc ks Q A := by
  obtain ⟨s₂, o, h1, r⟩ := k; exact ⟨s₂, o, hs _ h1, r⟩
theorem own_at {g g' : JFrame} (q : g = g') (k : OFin p e below s kc ks Q (T.setTop g')) : OFin p e below s kc ks Q (T.setTop g) := q ▸ k
theorem own_mono {Q' : Option Value → Heap → List Loc → Prop} {S : State} (k : OFin p e below s kc ks Q S) (q : ∀ v h L, Q v h L → Q' v h L) : OFin p e below s kc ks Q' S := by
  obtain ⟨s₂, o, h1, h2, h3, v, L, h4, h5, h6⟩ := k; exact ⟨s₂, o, h1, h2, h3, v, L, h4, q _ _ _ h5, h6⟩
theorem own_enter {y : MethodName} {bytes : ByteArray} {maxL : Nat} {ret : Option FieldType} {rm : Room} {as' : Array Value} {h0 : Heap} (hp : plainFor y = true)
    (hB : ∀ (p : Program) (e : Env) (s : State) (m : MethodId) (below : List Frame) (meth : Method) (c : Code) (T : State), Stand p l e rm s m as' below meth c T [] 0 0 → OCtx Z p s m meth c y.cls y.name bytes maxL ret → T.heap = h0 → OFin p e below s rm.cells rm.slots Q (T.setTop (entryFrame m as' maxL))) :
    OMet l Z y bytes maxL ret rm as' h0 Q := by
  intro ws
  refine MetFree.of_bodySF hp hisR ?_
  intro p e s m args below meth c s₁ Bd hml0 hP hK
  obtain ⟨rfl, hZ, hh⟩ := hP
  exact hB p e s m below meth c s₁ (Stand.of_body Bd) ⟨Bd.exec, hZ, Bd.bytes, hml0, findClass_of_methodNamed Bd.named, Bd.returns, BodyLoose.notSynchronized Bd, (name_of_methodNamed Bd.named Bd.method).1⟩ (by rw [← hh, Bd.state]; rfl)
theorem own_ret (X : Stand p l e R s m args below meth c T locs cells slots) (hx : p.tables.exec = Jvm.exec) {t : FieldType} (hret : meth.sig.returnType = some t) (hlk : meth.locks = false) {pc : Nat} {Ls : Array Slot} {w : Value} {i : Instr} {rest : List Value} (hn : narrow t w = w)
    (hi : (i = .ireturn ∧ (t = .int ∨ t = .boolean ∨ t = .byte ∨ t = .char ∨ t = .short) ∧ ∃ z, w = .int z) ∨ (i = .lreturn ∧ t = .long ∧ ∃ z, w = .long z) ∨ (i = .dreturn ∧ t = .double ∧ ∃ z, w = .double z) ∨ (i = .freturn ∧ t = .float ∧ ∃ z, w = .float z) ∨ (i = .areturn ∧ t.isReference = true ∧ w.isRef = true))
    (hd : decode c.code pc = .ok (i, 1)) (hc : cells ≤ kc) (hs : slots ≤ ks) (hq : Q (some w) T.heap locs) : OFin p e below s kc ks Q (T.setTop (mkF m pc Ls (w :: rest))) := by
  obtain ⟨fs, hr, hrun, hended, hW, hsame⟩ := X.leave (v := some w) (fun h => by rw [hret] at h; cases h) hlk
  exact ⟨_, _, retOut X hx hret hn hi hd hr, hrun, hended, _, _, rfl, hq, ⟨_, rfl⟩, hW, hsame.mono hc hs⟩
theorem own_retV (X : Stand p l e R s m args below meth c T locs cells slots) (hx : p.tables.exec = Jvm.exec) (hret : meth.sig.returnType = none) (hlk : meth.locks = false) {pc : Nat} {Ls : Array Slot}
    (hd : decode c.code pc = .ok (.return_, 1)) (hc : cells ≤ kc) (hs : slots ≤ ks) (hq : Q none T.heap locs) : OFin p e below s kc ks Q (T.setTop (mkF m pc Ls [])) := by
  obtain ⟨fs, hr, hrun, hended, hW, hsame⟩ := X.leave (v := none) (fun _ => rfl) hlk
  exact ⟨_, _, X.returnOut hx hret hd hr, hrun, hended, _, _, rfl, hq, ⟨_, rfl⟩, hW, hsame.mono hc hs⟩
theorem own_back {y : MethodName} {bytes : ByteArray} {maxL : Nat} {ret : Option FieldType} {rm : Room} {len W : Nat} {as' : Array Value} (hM : OMet l Z y bytes maxL ret rm as' h Q) (hZ : Z.Warmed39 s.vm) (wc : (Jvm.Cond.code y bytes maxL ret).before a0 Z = true) (wz : (Jvm.Cond.initialized y.cls).before a0 Z = true) (hf : rm.frames + 1 ≤ R.frames) (hl : W + (maxL + 11) + rm.locals ≤ R.locals) :
    Back l R p e below s args y len W (fun A a => a = as' ∧ A.U.heap = h ∧ A.cells + rm.cells ≤ R.cells ∧ A.slots + rm.slots ≤ R.slots)
      (fun A _ v B => ∃ L, Q v B.U.heap L ∧ B.locs = A.locs ++ L ∧ B.cells = A.cells + rm.cells ∧ B.slots = A.slots + rm.slots) := backOf (hM []) hZ wc wz hf hl
theorem own_static (X : Stand p l e R s m args below meth c T locs cells slots) (hx : p.tables.exec = Jvm.exec) (hZ : Z.Warmed39 s.vm) {own : String} {index : Nat} {y : MethodName} {bytes : ByteArray} {maxL : Nat} {ret : Option FieldType} {rm : Room} {W : Nat} {argsL rest : List Value}
    (hown : s.vm.findClass own = some m.cls) (w1 : (Jvm.Cond.methodLink own index y).before a0 Z = true) (w2 : (Jvm.Cond.static y).before a0 Z = true) (wz : (Jvm.Cond.initialized y.cls).before a0 Z = true) (wc : (Jvm.Cond.code y bytes maxL ret).before a0 Z = true)
    (hM : OMet l Z y bytes maxL ret rm argsL.toArray h Q) (eT : T.heap = h) {g : JFrame} (hg : g.method = m) (hsize : g.locals.size = c.maxLocals) (hlen : ∀ sig, parseMethodDescriptor y.desc = some sig → argsL.length = sig.parameters.length)
    (hstack : g.stack = argsL.reverse ++ rest) (hW : 2 * g.monitorRoom + (rest.map fun v => v.category).sum ≤ W) (hdg : decode c.code g.pc = .ok (.invokestatic index, 3))
    (hf : rm.frames + 1 ≤ R.frames) (hl : W + (maxL + 11) + rm.locals ≤ R.locals) (hc : cells + rm.cells ≤ R.cells) (hs : slots + rm.slots ≤ R.slots)
    (hy : y.cls ≠ "java/lang/invoke/MethodHandle" ∧ y.cls ≠ "java/lang/invoke/VarHandle" := by decide) :
    ∃ (v : Option Value) (T' : State) (L : List Loc), Stand p l e R s m args below meth c T' (locs ++ L) (cells + rm.cells) (slots + rm.slots) ∧ Q v T'.heap L ∧
      ∀ target, Steps p.tables e below (T'.setTop { g with pc := g.pc + 3, stack := v.toList ++ rest }) target → Steps p.tables e below (T.setTop g) target := by
  obtain ⟨v, vm₁, ⟨T', L', k', n'⟩, -, X', ⟨L, hQ, l1, y1, z1⟩, st⟩ := Jvm.LawKit.callS X hx hown (mvT hZ w1) (mvT hZ w2) (mvT hZ wz) (mvT hZ wc) hy (own_back (W := W) hM hZ wc wz hf hl) hg hsize hlen hstack hW hdg (fun _ _ => ⟨rfl, eT, hc, hs⟩)
  dsimp only [Pt.U, Pt.locs, Pt.cells, Pt.slots] at X' l1 y1 z1 st hQ
  subst l1 y1 z1
  exact ⟨v, T', L, X', hQ, st⟩
theorem own_init (X : Stand p l e R s m args below meth c T locs cells slots) (hx : p.tables.exec = Jvm.exec) (hZ : Z.Warmed39 s.vm) {own : String} {index : Nat} {y : MethodName} {bytes : ByteArray} {maxL : Nat} {rm : Room} {W : Nat} {a : Addr} {argsL rest : List Value} (hy1 : y.name = "<init>")
    (hown : s.vm.findClass own = some m.cls) (w1 : (Jvm.Cond.methodLink own index y).before a0 Z = true) (w2 : (Jvm.Cond.instanceMethod y).before a0 Z = true) (wz : (Jvm.Cond.initialized y.cls).before a0 Z = true) (wc : (Jvm.Cond.code y bytes maxL none).before a0 Z = true)
    (hM : OMet l Z y bytes maxL none rm (.ref a :: argsL).toArray h Q) (eT : T.heap = h) {g : JFrame} (hg : g.method = m) (hsize : g.locals.size = c.maxLocals) (hlen : ∀ sig, parseMethodDescriptor y.desc = some sig → argsL.length = sig.parameters.length)
    (hstack : g.stack = argsL.reverse ++ .ref a :: rest) (hW : 2 * g.monitorRoom + (rest.map fun v => v.category).sum ≤ W) (hdg : decode c.code g.pc = .ok (.invokespecial index, 3))
    (hf : rm.frames + 1 ≤ R.frames) (hl : W + (maxL + 11) + rm.locals ≤ R.locals) (hc : cells + rm.cells ≤ R.cells) (hs : slots + rm.slots ≤ R.slots)
    (hy : y.cls ≠ "java/lang/invoke/MethodHandle" ∧ y.cls ≠ "java/lang/invoke/VarHandle" := by decide) :
    ∃ (v : Option Value) (T' : State) (L : List Loc), Stand p l e R s m args below meth c T' (locs ++ L) (cells + rm.cells) (slots + rm.slots) ∧ Q v T'.heap L ∧
      ∀ target, Steps p.tables e below (T'.setTop { g with pc := g.pc + 3, stack := v.toList ++ rest }) target → Steps p.tables e below (T.setTop g) target := by
  obtain ⟨v, vm₁, ⟨T', L', k', n'⟩, -, X', ⟨L, hQ, l1, y1, z1⟩, st⟩ := X.specialBack hx hy1 hown (mvT hZ w1) (mvT hZ w2) (mvT hZ wc) hy (own_back (W := W) hM hZ wc wz hf hl) hg hsize (Steps.refl _) hlen hstack hW hdg (fun _ _ => ⟨rfl, eT, hc, hs⟩)
  dsimp only [Pt.U, Pt.locs, Pt.cells, Pt.slots] at X' l1 y1 z1 st hQ
  subst l1 y1 z1
  exact ⟨v, T', L, X', hQ, fun t k => st.trans k⟩
theorem own_virtual (X : Stand p l e R s m args below meth c T locs cells slots) (hx : p.tables.exec = Jvm.exec) (hZ : Z.Warmed39 s.vm) {own C : String} {index : Nat} {y z : MethodName} {bytes : ByteArray} {maxL : Nat} {ret : Option FieldType} {rm : Room} {W : Nat} {a : Addr} {argsL rest : List Value}
    (hown : s.vm.findClass own = some m.cls) (w1 : (Jvm.Cond.methodLink own index y).before a0 Z = true) (w2 : (Jvm.Cond.declares y).before a0 Z = true) (hnf : NotFace s y) (w3 : (Jvm.Cond.selects C y z).before a0 Z = true) (w4 : (Jvm.Cond.instanceMethod z).before a0 Z = true) (wz : (Jvm.Cond.initialized z.cls).before a0 Z = true) (wc : (Jvm.Cond.code z bytes maxL ret).before a0 Z = true)
    (hM : OMet l Z z bytes maxL ret rm (.ref a :: argsL).toArray h Q) (eT : T.heap = h) (E : Exa Z h a C) {g : JFrame} (hg : g.method = m) (hsize : g.locals.size = c.maxLocals) (hlen : ∀ sig, parseMethodDescriptor y.desc = some sig → argsL.length = sig.parameters.length)
    (hstack : g.stack = argsL.reverse ++ .ref a :: rest) (hW : 2 * g.monitorRoom + (rest.map fun v => v.category).sum ≤ W) (hdg : decode c.code g.pc = .ok (.invokevirtual index, 3))
    (hf : rm.frames + 1 ≤ R.frames) (hl : W + (maxL + 11) + rm.locals ≤ R.locals) (hc : cells + rm.cells ≤ R.cells) (hs : slots + rm.slots ≤ R.slots)
    (hy : y.cls ≠ "java/lang/invoke/MethodHandle" ∧ y.cls ≠ "java/lang/invoke/VarHandle" := by decide) :
    ∃ (v : Option Value) (T' : State) (L : List Loc), Stand p l e R s m args below meth c T' (locs ++ L) (cells + rm.cells) (slots + rm.slots) ∧ Q v T'.heap L ∧
      ∀ target, Steps p.tables e below (T'.setTop { g with pc := g.pc + 3, stack := v.toList ++ rest }) target → Steps p.tables e below (T.setTop g) target := by
  obtain ⟨cq, kq, qa, qb, qc⟩ := isOf hZ eT E
  obtain ⟨v, vm₁, ⟨T', L', k', n'⟩, -, X', ⟨L, hQ, l1, y1, z1⟩, st⟩ := X.virtualBack hx hown (mvT hZ w1) (mvT hZ w2) hnf (mvT hZ w3) (mvT hZ w4) hy (own_back (W := W) hM hZ wc wz hf hl) qa qc hg hsize (Steps.refl _) hlen hstack hW hdg (fun _ _ => ⟨rfl, eT, hc, hs⟩)
  dsimp only [Pt.U, Pt.locs, Pt.cells, Pt.slots] at X' l1 y1 z1 st hQ
  subst l1 y1 z1
  exact ⟨v, T', L, X', hQ, fun t k => st.trans k⟩
end OwnLayer
/-! own layer 2: an array as a function of the place -/
def OArr (Z : State) (h : Heap) (a : Addr) (ty : FieldType) (N : Nat) (f : Nat → Value) : Prop := ∃ c : Cell, Arr Z h a c ty ∧ c.slots.size = N ∧ N < 2 ^ 31 ∧ ∀ i, i < N → c.slots[i]? = some (f i)
section OwnArr
variable {Z : State} {h h' : Heap} {a b : Addr} {ty : FieldType} {N : Nat} {f : Nat → Value} {ws : List Addr} {sl : Nat} {v : Value}
theorem OArr.lt (F : OArr Z h a ty N f) : a < h.size := by obtain ⟨c, A, -⟩ := F; exact A.lt
theorem OArr.ext (F : OArr Z h a ty N f) (E : Ext h h') : OArr Z h' a ty N f := by obtain ⟨c, A, r⟩ := F; exact ⟨c, A.ext E, r⟩
theorem OArr.other (F : OArr Z h b ty N f) (W : Wr h h' a sl v) (q : b ≠ a) : OArr Z h' b ty N f := by obtain ⟨c, A, r⟩ := F; exact ⟨c, A.other W q, r⟩
theorem OArr.keep (F : OArr Z h a ty N f) (K : Keep h h' ws) (q : a ∉ ws) : OArr Z h' a ty N f := by obtain ⟨c, A, r⟩ := F; exact ⟨c, ⟨K.2.1 a c A.1 q, A.2⟩, r⟩
theorem OArr.set (F : OArr Z h a ty N f) {j : Nat} (W : Wr h h' a j v) : OArr Z h' a ty N (fun i => if i = j then v else f i) := by
  obtain ⟨c, A, S, B, H⟩ := F
  refine ⟨_, A.same W, by rw [sz_set]; exact S, B, fun i hi => ?_⟩
  show (c.slots.setIfInBounds j v)[i]? = some (if i = j then v else f i)
  by_cases q : i = j
  · subst q; simp [S, hi]
  · rw [Array.getElem?_setIfInBounds_ne (Ne.symm q), if_neg q]; exact H i hi
theorem OArr.setI {g : Nat → Int32} (F : OArr Z h a ty N (fun i => .int (g i))) {j : Nat} {x : Int32} (W : Wr h h' a j (.int x)) : OArr Z h' a ty N (fun i => .int (if i = j then x else g i)) := by
  have q := F.set W
  have e : (fun i => if i = j then Value.int x else Value.int (g i)) = fun i => Value.int (if i = j then x else g i) := by funext i; split <;> rfl
  rw [e] at q; exact q
theorem OArr.setJ {g : Nat → Int64} (F : OArr Z h a ty N (fun i => .long (g i))) {j : Nat} {x : Int64} (W : Wr h h' a j (.long x)) : OArr Z h' a ty N (fun i => .long (if i = j then x else g i)) := by
  have q := F.set W
  have e : (fun i => if i = j then Value.long x else Value.long (g i)) = fun i => Value.long (if i = j then x else g i) := by funext i; split <;> rfl
  rw [e] at q; exact q
theorem own_clamp (z : Int32) : z.toNatClampNeg < 2 ^ 31 := by have := z.toInt_lt; simp only [Int32.toNatClampNeg]; omega
theorem OArr.new {k : ClassId} {z : Int32} (A : Arr Z h a (newA k ty z) ty) (q : z.toNatClampNeg = N) : OArr Z h a ty N (fun _ => defaultValue ty) :=
  ⟨_, A, by rw [sz_new]; exact q, by rw [← q]; exact own_clamp z, fun i hi => by rw [← q] at hi; simp [newA, hi]⟩
theorem OArr.of {k : ClassId} {z : Int32} {vs : List Value} {dv : Value} (A : Arv Z h a k ty z vs dv) (q : z.toNatClampNeg = N) (r : ∀ i, i < N → vs.getD i dv = f i) : OArr Z h a ty N f := by
  obtain ⟨c, A1, -, S, -, H, -⟩ := A
  exact ⟨c, A1, by rw [S]; exact q, by rw [← q]; exact own_clamp z, fun i hi => by rw [← r i hi]; exact H i (by rw [S, q]; exact hi)⟩
theorem OArr.congr {g : Nat → Value} (F : OArr Z h a ty N f) (r : ∀ i, i < N → f i = g i) : OArr Z h a ty N g := by
  obtain ⟨c, A, S, B, H⟩ := F; exact ⟨c, A, S, B, fun i hi => by rw [← r i hi]; exact H i hi⟩
theorem own_inb {c : Cell} {j : Int32} {i : Nat} (S : c.slots.size = N) (h0 : ¬ j < 0) (hj : j.toNatClampNeg = i) (hi : i < N) : ¬ (j < 0 ∨ c.slots.size ≤ j.toNatClampNeg) := by
  rintro (q | q)
  · exact h0 q
  · rw [S, hj] at q; omega
theorem own_hv {c : Cell} {j : Int32} {i : Nat} (H : ∀ i, i < N → c.slots[i]? = some (f i)) (hj : j.toNatClampNeg = i) (hi : i < N) : c.slots[j.toNatClampNeg]? = some (f i) := by rw [hj]; exact H i hi
theorem own_len {c : Cell} {z : Int32} (S : c.slots.size = N) (q : N.toInt32 = z) : c.slots.size.toInt32 = z := by rw [S]; exact q
theorem own_wrj {j : Int32} {i : Nat} (W : Wr h h' a j.toNatClampNeg v) (hj : j.toNatClampNeg = i) : Wr h h' a i v := hj ▸ W
theorem own_nb (x : Int32) : nar .byte (x.toInt8.toInt32) = x.toInt8.toInt32 := by show (x.toInt8.toInt32).toInt8.toInt32 = _; simp
theorem own_nwb (x : Int32) : narrow .byte (.int x.toInt8.toInt32) = .int x.toInt8.toInt32 := by show Value.int ((x.toInt8.toInt32).toInt8.toInt32) = _; simp
end OwnArr
/-! own layer 3: a double constant, the comparison of doubles -/
section OwnDbl
variable {p : Program} {l : Launch} {e : Env} {R : Room} {s : State} {m : MethodId} {args : Array Value} {below : List Frame} {meth : Method} {c : Code} {T : State} {locs : List Loc} {cells slots : Nat}
theorem own_dconst0 (X : Stand p l e R s m args below meth c T locs cells slots) (hx : p.tables.exec = Jvm.exec) {g : JFrame} (hg : g.method = m) (hd : decode c.code g.pc = .ok (.dconst 0, 1)) :
    ∀ target, Steps p.tables e below (T.setTop { g with pc := g.pc + 1, stack := .double FP.dconst0 :: g.stack }) target → Steps p.tables e below (T.setTop g) target := by
  intro target hr
  subst hg
  have h := X.here
  jvm_step h [h.top, hx, hd, dconst.wp_sem]
  exact hr
theorem own_dcmpl (X : Stand p l e R s m args below meth c T locs cells slots) (hx : p.tables.exec = Jvm.exec) {g : JFrame} (hg : g.method = m) {x y : UInt64} {rest : List Value} (hd : decode c.code g.pc = .ok (.dcmp .l, 1)) (hs : g.stack = .double y :: .double x :: rest) :
    ∀ target, Steps p.tables e below (T.setTop { g with pc := g.pc + 1, stack := .int (cmpValue (FP.dcmp x y) .l) :: rest }) target → Steps p.tables e below (T.setTop g) target := by
  intro target hr
  subst hg
  have h := X.here
  jvm_step h [h.top, hx, hd, hs, dcmp.wp_sem]
  exact hr
end OwnDbl
/-! own layer 6: whole numbers among the doubles -/
theorem own_nn {i : Int} {a : UInt64} (h : FP.Core.DInt i a) : Jvm.Free.Fl.NoNaN64 a := (Jvm.Free.Fl.dcmp_some (show FP.dcmp a a = some _ from FP.Core.dcmp_int h h)).1
theorem own_val2 : FP.Core.val64 4611686018427387904 = .fin false (2 ^ 52) (-51) := by decide +kernel
theorem own_half {S : UInt64} {m : Int} (h : FP.Core.DInt (2 * m) S) (hm : m.natAbs ≤ 2 ^ 53) : FP.Core.DInt m (FP.Core.ddiv S 4611686018427387904) := by
  unfold FP.Core.DInt at *
  rw [FP.Core.val64_ddiv, own_val2]
  revert h
  generalize FP.Core.val64 S = d
  intro h
  cases d with
  | nan => exact h.elim
  | inf => exact h.elim
  | fin s c q =>
    have hb : ∀ s : Bool, (s != false) = s := by decide
    simp only [FP.Core.quotient, hb]
    rw [if_neg (by have := Nat.two_pow_pos 52; omega)]
    have e : FP.Core.roundRatio FP.Core.b64 s c (2 ^ 52) (q - -51) = FP.Core.round FP.Core.b64 (.fin s c (q - 1)) := by
      show _ = FP.Core.roundRatio FP.Core.b64 s c 1 (q - 1)
      refine FP.Core.roundRatio_congr (Nat.two_pow_pos 52) (by decide) ?_
      rw [show (q - -51 - (q - 1)).toNat = 52 by omega, show (q - 1 - (q - -51)).toNat = 0 by omega]
      simp
    rw [e]
    refine FP.Core.whole_round FP.Core.good_b64 FP.Core.wide_b64 hm ?_
    have h' : FP.Core.signed s (c * 2 ^ q.toNat) = 2 * m * ((2 ^ (-q).toNat : Nat) : Int) := h
    show FP.Core.signed s (c * 2 ^ (q - 1).toNat) = m * ((2 ^ (-(q - 1)).toNat : Nat) : Int)
    by_cases hq : 1 ≤ q
    · obtain ⟨n, rfl⟩ : ∃ n : Nat, q = (n : Int) + 1 := ⟨(q - 1).toNat, by omega⟩
      rw [show ((n : Int) + 1).toNat = n + 1 by omega, show (-((n : Int) + 1)).toNat = 0 by omega] at h'
      rw [show ((n : Int) + 1 - 1).toNat = n by omega, show (-((n : Int) + 1 - 1)).toNat = 0 by omega]
      have e2 : c * 2 ^ (n + 1) = 2 * (c * 2 ^ n) := by rw [Nat.pow_succ]; ac_rfl
      rw [e2] at h'
      generalize c * 2 ^ n = X at h' ⊢
      unfold FP.Core.signed at h' ⊢
      simp only [Nat.pow_zero, Int.natCast_one, Int.mul_one] at h' ⊢
      split at h' <;> split <;> simp_all <;> omega
    · obtain ⟨n, rfl⟩ : ∃ n : Nat, q = -(n : Int) := ⟨(-q).toNat, by omega⟩
      rw [show (-(n : Int)).toNat = 0 by omega, show (- -(n : Int)).toNat = n by omega] at h'
      rw [show (-(n : Int) - 1).toNat = 0 by omega, show (-(-(n : Int) - 1)).toNat = n + 1 by omega]
      rw [h', Nat.pow_succ]
      push_cast
      ac_rfl
theorem own_pn2 : plainFor (⟨"java/lang/StringLatin1", "canEncode", "(C)Z"⟩ : MethodName) = true := plainFor_of_name (by first | (simp [plainName, overriddenIn]; done) | decide +kernel)
theorem own_ef2_I (m : MethodId) (x0 : Int32) : entryFrame m #[(.int x0)] 1 = mkF m 0 #[.val (.int x0)] [] := by first | (simp [entryFrame, mkF, argsToLocals, Value.category]; done) | rfl
theorem own_d2_0 : decode jdk_43_method_3_code 0 = .ok (.iload_n 0, 1) := by decide +kernel
theorem own_d2_1 : decode jdk_43_method_3_code 1 = .ok (.sipush 255, 3) := by decide +kernel
theorem own_d2_4 : decode jdk_43_method_3_code 4 = .ok (.if_icmp .gt 7, 3) := by decide +kernel
theorem own_d2_7 : decode jdk_43_method_3_code 7 = .ok (.iconst 1, 1) := by decide +kernel
theorem own_d2_8 : decode jdk_43_method_3_code 8 = .ok (.goto 4, 3) := by decide +kernel
theorem own_d2_12 : decode jdk_43_method_3_code 12 = .ok (.ireturn, 1) := by decide +kernel
theorem own_pn3 : plainFor (⟨"java/lang/StringLatin1", "toBytes", "(C)[B"⟩ : MethodName) = true := plainFor_of_name (by first | (simp [plainName, overriddenIn]; done) | decide +kernel)
theorem own_ef3_I (m : MethodId) (x0 : Int32) : entryFrame m #[(.int x0)] 1 = mkF m 0 #[.val (.int x0)] [] := by first | (simp [entryFrame, mkF, argsToLocals, Value.category]; done) | rfl
theorem own_d3_0 : decode jdk_43_method_46_code 0 = .ok (.iconst 1, 1) := by decide +kernel
theorem own_d3_1 : decode jdk_43_method_46_code 1 = .ok (.newarray .byte, 2) := by decide +kernel
theorem own_d3_3 : decode jdk_43_method_46_code 3 = .ok (.dup, 1) := by decide +kernel
theorem own_d3_4 : decode jdk_43_method_46_code 4 = .ok (.iconst 0, 1) := by decide +kernel
theorem own_d3_5 : decode jdk_43_method_46_code 5 = .ok (.iload_n 0, 1) := by decide +kernel
theorem own_d3_6 : decode jdk_43_method_46_code 6 = .ok (.i2b, 1) := by decide +kernel
theorem own_d3_7 : decode jdk_43_method_46_code 7 = .ok (.bastore, 1) := by decide +kernel
theorem own_d3_8 : decode jdk_43_method_46_code 8 = .ok (.areturn, 1) := by decide +kernel
theorem own_pn4 : plainFor (⟨"java/lang/String", "<init>", "([BB)V"⟩ : MethodName) = true := plainFor_of_name (by first | (simp [plainName, overriddenIn]; done) | decide +kernel)
theorem own_ef4_RRI (m : MethodId) (x0 : Addr) (x1 : Addr) (x2 : Int32) : entryFrame m #[(.ref x0), (.ref x1), (.int x2)] 3 = mkF m 0 #[.val (.ref x0), .val (.ref x1), .val (.int x2)] [] := by first | (simp [entryFrame, mkF, argsToLocals, Value.category]; done) | rfl
theorem own_d4_0 : decode jdk_42_method_151_code 0 = .ok (.aload_n 0, 1) := by decide +kernel
theorem own_d4_1 : decode jdk_42_method_151_code 1 = .ok (.invokespecial 1, 3) := by decide +kernel
theorem own_d4_4 : decode jdk_42_method_151_code 4 = .ok (.aload_n 0, 1) := by decide +kernel
theorem own_d4_5 : decode jdk_42_method_151_code 5 = .ok (.aload_n 1, 1) := by decide +kernel
theorem own_d4_6 : decode jdk_42_method_151_code 6 = .ok (.putfield 9, 3) := by decide +kernel
theorem own_d4_9 : decode jdk_42_method_151_code 9 = .ok (.aload_n 0, 1) := by decide +kernel
theorem own_d4_10 : decode jdk_42_method_151_code 10 = .ok (.iload_n 2, 1) := by decide +kernel
theorem own_d4_11 : decode jdk_42_method_151_code 11 = .ok (.putfield 15, 3) := by decide +kernel
theorem own_d4_14 : decode jdk_42_method_151_code 14 = .ok (.return_, 1) := by decide +kernel
theorem own_pn1 : plainFor (⟨"java/lang/String", "valueOf", "(C)Ljava/lang/String;"⟩ : MethodName) = true := plainFor_of_name (by first | (simp [plainName, overriddenIn]; done) | decide +kernel)
theorem own_ef1_I (m : MethodId) (x0 : Int32) : entryFrame m #[(.int x0)] 1 = mkF m 0 #[.val (.int x0)] [] := by first | (simp [entryFrame, mkF, argsToLocals, Value.category]; done) | rfl
theorem own_d1_0 : decode jdk_42_method_139_code 0 = .ok (.getstatic 38, 3) := by decide +kernel
theorem own_d1_3 : decode jdk_42_method_139_code 3 = .ok (.ifCond .eq 23, 3) := by decide +kernel
theorem own_d1_6 : decode jdk_42_method_139_code 6 = .ok (.iload_n 0, 1) := by decide +kernel
theorem own_d1_7 : decode jdk_42_method_139_code 7 = .ok (.invokestatic 1015, 3) := by decide +kernel
theorem own_pd0 : parseMethodDescriptor "(C)Z" = some ⟨[.char], some .boolean⟩ := by decide +kernel
theorem own_d1_10 : decode jdk_42_method_139_code 10 = .ok (.ifCond .eq 16, 3) := by decide +kernel
theorem own_d1_13 : decode jdk_42_method_139_code 13 = .ok (.new 10, 3) := by decide +kernel
theorem own_d1_16 : decode jdk_42_method_139_code 16 = .ok (.dup, 1) := by decide +kernel
theorem own_d1_17 : decode jdk_42_method_139_code 17 = .ok (.iload_n 0, 1) := by decide +kernel
theorem own_d1_18 : decode jdk_42_method_139_code 18 = .ok (.invokestatic 1018, 3) := by decide +kernel
theorem own_pd1 : parseMethodDescriptor "(C)[B" = some ⟨[.char], some (.array .byte)⟩ := by decide +kernel
theorem own_d1_21 : decode jdk_42_method_139_code 21 = .ok (.iconst 0, 1) := by decide +kernel
theorem own_d1_22 : decode jdk_42_method_139_code 22 = .ok (.invokespecial 209, 3) := by decide +kernel
theorem own_pd2 : parseMethodDescriptor "([BB)V" = some ⟨[(.array .byte), .byte], none⟩ := by decide +kernel
theorem own_d1_25 : decode jdk_42_method_139_code 25 = .ok (.areturn, 1) := by decide +kernel
theorem own_pn7 : plainFor (⟨"com/example/idhini/idhini/Range", "<init>", "(II)V"⟩ : MethodName) = true := plainFor_of_name (by first | (simp [plainName, overriddenIn]; done) | decide +kernel)
theorem own_ef7_RII (m : MethodId) (x0 : Addr) (x1 : Int32) (x2 : Int32) : entryFrame m #[(.ref x0), (.int x1), (.int x2)] 3 = mkF m 0 #[.val (.ref x0), .val (.int x1), .val (.int x2)] [] := by first | (simp [entryFrame, mkF, argsToLocals, Value.category]; done) | rfl
theorem own_d7_0 : decode prog_64_method_1_code 0 = .ok (.aload_n 0, 1) := by decide +kernel
theorem own_d7_1 : decode prog_64_method_1_code 1 = .ok (.invokespecial 3, 3) := by decide +kernel
theorem own_d7_4 : decode prog_64_method_1_code 4 = .ok (.aload_n 0, 1) := by decide +kernel
theorem own_d7_5 : decode prog_64_method_1_code 5 = .ok (.iload_n 1, 1) := by decide +kernel
theorem own_d7_6 : decode prog_64_method_1_code 6 = .ok (.putfield 9, 3) := by decide +kernel
theorem own_d7_9 : decode prog_64_method_1_code 9 = .ok (.aload_n 0, 1) := by decide +kernel
theorem own_d7_10 : decode prog_64_method_1_code 10 = .ok (.iload_n 2, 1) := by decide +kernel
theorem own_d7_11 : decode prog_64_method_1_code 11 = .ok (.putfield 13, 3) := by decide +kernel
theorem own_d7_14 : decode prog_64_method_1_code 14 = .ok (.return_, 1) := by decide +kernel
theorem own_pn6 : plainFor (⟨"com/example/idhini/idhini/Range", "withMean", "(Ljava/lang/String;I)Lcom/example/idhini/idhini/Range;"⟩ : MethodName) = true := plainFor_of_name (by first | (simp [plainName, overriddenIn]; done) | decide +kernel)
theorem own_ef6_RI (m : MethodId) (x0 : Addr) (x1 : Int32) : entryFrame m #[(.ref x0), (.int x1)] 2 = mkF m 0 #[.val (.ref x0), .val (.int x1)] [] := by first | (simp [entryFrame, mkF, argsToLocals, Value.category]; done) | rfl
theorem own_d6_0 : decode prog_64_method_3_code 0 = .ok (.iload_n 1, 1) := by decide +kernel
theorem own_d6_1 : decode prog_64_method_3_code 1 = .ok (.ldc 59, 2) := by decide +kernel
theorem own_d6_3 : decode prog_64_method_3_code 3 = .ok (.if_icmp .le 18, 3) := by decide +kernel
theorem own_d6_21 : decode prog_64_method_3_code 21 = .ok (.new 1, 3) := by decide +kernel
theorem own_d6_24 : decode prog_64_method_3_code 24 = .ok (.dup, 1) := by decide +kernel
theorem own_d6_25 : decode prog_64_method_3_code 25 = .ok (.iconst 1, 1) := by decide +kernel
theorem own_d6_26 : decode prog_64_method_3_code 26 = .ok (.iconst 2, 1) := by decide +kernel
theorem own_d6_27 : decode prog_64_method_3_code 27 = .ok (.iload_n 1, 1) := by decide +kernel
theorem own_d6_28 : decode prog_64_method_3_code 28 = .ok (.imul, 1) := by decide +kernel
theorem own_d6_29 : decode prog_64_method_3_code 29 = .ok (.iconst 1, 1) := by decide +kernel
theorem own_d6_30 : decode prog_64_method_3_code 30 = .ok (.isub, 1) := by decide +kernel
theorem own_d6_31 : decode prog_64_method_3_code 31 = .ok (.invokespecial 56, 3) := by decide +kernel
theorem own_pd3 : parseMethodDescriptor "(II)V" = some ⟨[.int, .int], none⟩ := by decide +kernel
theorem own_d6_34 : decode prog_64_method_3_code 34 = .ok (.areturn, 1) := by decide +kernel
theorem own_pn8 : plainFor (⟨"com/example/idhini/idhini/Range", "mean", "()D"⟩ : MethodName) = true := plainFor_of_name (by first | (simp [plainName, overriddenIn]; done) | decide +kernel)
theorem own_ef8_R (m : MethodId) (x0 : Addr) : entryFrame m #[(.ref x0)] 1 = mkF m 0 #[.val (.ref x0)] [] := by first | (simp [entryFrame, mkF, argsToLocals, Value.category]; done) | rfl
theorem own_d8_0 : decode prog_64_method_5_code 0 = .ok (.aload_n 0, 1) := by decide +kernel
theorem own_d8_1 : decode prog_64_method_5_code 1 = .ok (.getfield 9, 3) := by decide +kernel
theorem own_d8_4 : decode prog_64_method_5_code 4 = .ok (.i2d, 1) := by decide +kernel
theorem own_d8_5 : decode prog_64_method_5_code 5 = .ok (.aload_n 0, 1) := by decide +kernel
theorem own_d8_6 : decode prog_64_method_5_code 6 = .ok (.getfield 13, 3) := by decide +kernel
theorem own_d8_9 : decode prog_64_method_5_code 9 = .ok (.i2d, 1) := by decide +kernel
theorem own_d8_10 : decode prog_64_method_5_code 10 = .ok (.dadd, 1) := by decide +kernel
theorem own_d8_11 : decode prog_64_method_5_code 11 = .ok (.ldc2_w 82, 3) := by decide +kernel
theorem own_d8_14 : decode prog_64_method_5_code 14 = .ok (.ddiv, 1) := by decide +kernel
theorem own_d8_15 : decode prog_64_method_5_code 15 = .ok (.dreturn, 1) := by decide +kernel
theorem own_pn0 : plainFor (⟨"com/example/idhini/idhini/RangeWithMeanPinLaw", "law", "(II)Z"⟩ : MethodName) = true := plainFor_of_name (by first | (simp [plainName, overriddenIn]; done) | decide +kernel)
theorem own_ef0_II (m : MethodId) (x0 : Int32) (x1 : Int32) : entryFrame m #[(.int x0), (.int x1)] maxLocals = mkF m 0 #[.val (.int x0), .val (.int x1), .unset, .unset, .unset] [] := by first | (simp [entryFrame, mkF, argsToLocals, Value.category, maxLocals]; done) | rfl
theorem own_pd4 : parseMethodDescriptor "(C)Ljava/lang/String;" = some ⟨[.char], some (.object "java/lang/String")⟩ := by decide +kernel
theorem own_pd5 : parseMethodDescriptor "(Ljava/lang/String;I)Lcom/example/idhini/idhini/Range;" = some ⟨[(.object "java/lang/String"), .int], some (.object "com/example/idhini/idhini/Range")⟩ := by decide +kernel
theorem own_pd6 : parseMethodDescriptor "()D" = some ⟨[], some .double⟩ := by decide +kernel
theorem own_m31 (x : Int32) : 0 ≤ (x &&& 2147483647).toInt := by
  have e : (x &&& 2147483647).toInt = x.toInt % 2 ^ 31 := Jvm.Kit.i32_mask x 2147483647 (k := 31) (by decide) (by decide)
  omega
theorem own_mm (x : Int32) : 1 ≤ (1 + (x &&& 2147483647) % 500000000).toInt ∧ (1 + (x &&& 2147483647) % 500000000).toInt ≤ 500000000 := by
  have ha := own_m31 x
  generalize x &&& 2147483647 = a at ha
  have e : (a % 500000000).toInt = a.toInt % 500000000 := by rw [Int32.toInt_mod]; show Int.tmod _ 500000000 = _; exact Int.tmod_eq_emod_of_nonneg ha
  have e2 : (1 + a % 500000000).toInt = 1 + a.toInt % 500000000 := by rw [Jvm.Kit.i32_add (by show _ ≤ 1 + _; omega) (by show 1 + _ < _; omega), e]; rfl
  rw [e2]; omega
theorem own_ch (x : Int32) : ¬ (255 : Int32) < (x &&& 255).toUInt32.toUInt16.toUInt32.toInt32 := by
  have e : (x &&& 255).toInt = x.toInt % 2 ^ 8 := Jvm.Kit.i32_mask x 255 (k := 8) (by decide) (by decide)
  generalize x &&& 255 = a at e
  have h1 : 0 ≤ a.toInt ∧ a.toInt ≤ 255 := by omega
  have e2 : a.toUInt32.toUInt16.toUInt32.toInt32 = a := by
    have q : a.toUInt32.toNat = a.toInt.toNat := by
      have := Int32.toNat_toBitVec a
      have u : a.toUInt32.toNat = a.toBitVec.toNat := rfl
      have v : a.toInt = a.toBitVec.toInt := rfl
      rw [BitVec.toInt_eq_toNat_cond] at v
      have := a.toBitVec.isLt
      split at v <;> omega
    have q2 : a.toUInt32.toUInt16.toUInt32 = a.toUInt32 := UInt32.toNat_inj.1 (by simp; omega)
    rw [q2]; simp
  rw [e2, Int32.lt_iff_toInt_lt]
  show ¬ (255 : Int) < _
  omega
theorem own_hi {m : Int32} (h : 1 ≤ m.toInt ∧ m.toInt ≤ 500000000) : (2 * m - 1).toInt = 2 * m.toInt - 1 := by
  have e : (2 * m).toInt = 2 * m.toInt := by rw [Jvm.Kit.i32_mul (by show _ ≤ 2 * _; omega) (by show 2 * _ < _; omega)]; rfl
  rw [Jvm.Kit.i32_sub (by rw [e]; show _ ≤ _ - 1; omega) (by rw [e]; show _ - 1 < _; omega), e]; rfl
theorem own_sumI {m : Int32} (h : 1 ≤ m.toInt ∧ m.toInt ≤ 500000000) : FP.Core.DInt (2 * m.toInt) (FP.dadd (FP.i2d 1) (FP.i2d (2 * m - 1))) := by
  have a := FP.Core.i2d_int 1
  have b := FP.Core.i2d_int (2 * m - 1)
  rw [own_hi h] at b
  have c := FP.Core.dadd_int a b (by show (1 + (2 * m.toInt - 1)).natAbs ≤ _; omega)
  have e : (1 : Int32).toInt + (2 * m.toInt - 1) = 2 * m.toInt := by show 1 + _ = _; omega
  rw [e] at c; exact c
theorem own_divI {m : Int32} (h : 1 ≤ m.toInt ∧ m.toInt ≤ 500000000) : FP.Core.DInt m.toInt (FP.ddiv (FP.dadd (FP.i2d 1) (FP.i2d (2 * m - 1))) 4611686018427387904) := own_half (own_sumI h) (by omega)
theorem own_mean {m : Int32} (h : 1 ≤ m.toInt ∧ m.toInt ≤ 500000000) : FP.ddiv (FP.dadd (FP.i2d 1) (FP.i2d (2 * m - 1))) 4611686018427387904 = FP.i2d m := FP.Core.dint_unique (by omega) (own_divI h) (FP.Core.i2d_int m)
theorem own_cmp (m : Int32) : cmpValue (FP.dcmp (FP.i2d m) (FP.i2d m)) .l = 0 := by
  rw [show FP.dcmp (FP.i2d m) (FP.i2d m) = some (compare m.toInt m.toInt) from FP.Core.dcmp_int (FP.Core.i2d_int m) (FP.Core.i2d_int m), show compare m.toInt m.toInt = Ordering.eq from by simp [compare, compareOfLessAndEq]]; rfl
set_option maxRecDepth 65536 in
set_option maxHeartbeats 40000000 in
theorem rmCE (l : Launch) (Z : State) (a0 : Array Value) (hw : ∀ d ∈ tables_1, d.before a0 Z = true) (q : Int32) (h0 : Heap) (hq : ¬ (255 : Int32) < q) :
    OMet l Z (⟨"java/lang/StringLatin1", "canEncode", "(C)Z"⟩ : MethodName) jdk_43_method_3_code 1 (some .boolean) (⟨0, 0, 0, 0⟩ : Room) #[(.int q)] h0 (fun v h L => v = some (.int (1 : Int32)) ∧ h = h0 ∧ L = []) := by
  refine own_enter own_pn2 ?_
  intro p e s m below meth c T0 X0 hC e0
  obtain ⟨hx, hZ, hby, hml, hown, hret, hlk, hnm⟩ := hC
  have hown : s.vm.findClass "java/lang/StringLatin1" = some m.cls := hown
  refine own_at (own_ef2_I m q) ?_
  show OFin p e below s _ _ _ (T0.setTop (mkF m 0 #[.val (.int q)] []))
  refine own_st (fun _ kS => XS.iloadN X0.here hx rfl (hb hby own_d2_0) rfl kS) ?_
  show OFin p e below s _ _ _ (T0.setTop (mkF m 1 #[.val (.int q)] [(.int q)]))
  refine own_st (fun _ kS => XS.sipush X0.here hx rfl (hb hby own_d2_1) kS) ?_
  show OFin p e below s _ _ _ (T0.setTop (mkF m 4 #[.val (.int q)] [(.int (255 : Int32)), (.int q)]))
  refine own_st (fun _ kS => XS.icmpNo X0.here hx rfl (hb hby own_d2_4) rfl (flt hq).2.2.1 kS) ?_
  show OFin p e below s _ _ _ (T0.setTop (mkF m 7 #[.val (.int q)] []))
  refine own_st (fun _ kS => XS.iconst X0.here hx rfl (hb hby own_d2_7) kS) ?_
  show OFin p e below s _ _ _ (T0.setTop (mkF m 8 #[.val (.int q)] [(.int (1 : Int32))]))
  refine own_st (fun _ kS => XS.goto X0.here hx rfl (pc0 := 8) (pc' := 12) rfl (hb hby own_d2_8) (by decide) (by decide) kS) ?_
  show OFin p e below s _ _ _ (T0.setTop (mkF m 12 #[.val (.int q)] [(.int (1 : Int32))]))
  exact own_ret X0 hx (t := .boolean) hret hlk rfl (Or.inl ⟨rfl, by simp, _, rfl⟩) (hb hby own_d2_12) (by decide) (by decide) ⟨rfl, e0, rfl⟩
set_option maxRecDepth 65536 in
set_option maxHeartbeats 40000000 in
theorem rmTB (l : Launch) (Z : State) (a0 : Array Value) (hw : ∀ d ∈ tables_1, d.before a0 Z = true) (q : Int32) (h0 : Heap) (n0 : Nat) (Z0 : n0 ≤ h0.size)  :
    OMet l Z (⟨"java/lang/StringLatin1", "toBytes", "(C)[B"⟩ : MethodName) jdk_43_method_46_code 1 (some (.array .byte)) (⟨0, 1, 1, 0⟩ : Room) #[(.int q)] h0 (fun v h L => ∃ t, v = some (.ref t) ∧ Fr n0 L ∧ Keep h0 h []) := by
  refine own_enter own_pn3 ?_
  intro p e s m below meth c T0 X0 hC e0
  obtain ⟨hx, hZ, hby, hml, hown, hret, hlk, hnm⟩ := hC
  have hown : s.vm.findClass "java/lang/StringLatin1" = some m.cls := hown
  refine own_at (own_ef3_I m q) ?_
  show OFin p e below s _ _ _ (T0.setTop (mkF m 0 #[.val (.int q)] []))
  have N0 := Fr.nil n0
  have kp0 := Keep.refl h0 []
  refine own_st (fun _ kS => XS.iconst X0.here hx rfl (hb hby own_d3_0) kS) ?_
  show OFin p e below s _ _ _ (T0.setTop (mkF m 1 #[.val (.int q)] [(.int (1 : Int32))]))
  obtain ⟨T1, h1, k1, X1, e1, E1, A1, st1⟩ := newP X0 hx hZ (own_w hw 16 rfl) e0 (g := (mkF m 1 #[.val (.int q)] [(.int (1 : Int32))])) rfl (hb hby own_d3_1) rfl (by decide) (cap := 1) (by decide) (by decide) (by decide) (by decide)
  obtain ⟨t, g1⟩ : ∃ z, z = h0.size := ⟨_, rfl⟩
  rw [← g1] at A1 st1
  have g_t : n0 ≤ t := Nat.le_trans Z0 (Nat.le_of_eq g1.symm)
  have f2 : Arv Z h1 t k1 .byte (1 : Int32) [(.int (0 : Int32))] (.int (0 : Int32)) := (Arv.new A1 (by decide)).pad (pad_rep [] (.int (0 : Int32)) 1)
  have sz1 : n0 ≤ h1.size := Nat.le_trans Z0 E1.1
  have kp1 := kp0.ext E1
  have kz_t := Nat.le_trans kp0.1 (Nat.le_of_eq g1.symm)
  clear kp0
  refine own_st (st1) ?_
  clear st1 X0 e0 E1 g1
  show OFin p e below s _ _ _ (T1.setTop (mkF m 3 #[.val (.int q)] [(.ref t)]))
  refine own_st (fun _ kS => XS.dup X1.here hx rfl (hb hby own_d3_3) rfl rfl kS) ?_
  show OFin p e below s _ _ _ (T1.setTop (mkF m 4 #[.val (.int q)] [(.ref t), (.ref t)]))
  refine own_st (fun _ kS => XS.iconst X1.here hx rfl (hb hby own_d3_4) kS) ?_
  show OFin p e below s _ _ _ (T1.setTop (mkF m 5 #[.val (.int q)] [(.int (0 : Int32)), (.ref t), (.ref t)]))
  refine own_st (fun _ kS => XS.iloadN X1.here hx rfl (hb hby own_d3_5) rfl kS) ?_
  show OFin p e below s _ _ _ (T1.setTop (mkF m 6 #[.val (.int q)] [(.int q), (.int (0 : Int32)), (.ref t), (.ref t)]))
  refine own_st (fun _ kS => XS.i2b X1.here hx rfl (hb hby own_d3_6) rfl kS) ?_
  show OFin p e below s _ _ _ (T1.setTop (mkF m 7 #[.val (.int q)] [(.int (q.toInt8.toInt32)), (.int (0 : Int32)), (.ref t), (.ref t)]))
  obtain ⟨cl3, Ar3, q3, S3, N3, H3, G3⟩ := id f2
  have hin3 : ¬ ((0 : Int32) < 0 ∨ cl3.slots.size ≤ ((0 : Int32)).toNatClampNeg) := inb_of S3 ⟨by decide, by decide⟩
  obtain ⟨T3, h3, X3, e3, W3, st3⟩ := stB X1 hx hZ e1 Ar3 (j := (0 : Int32)) hin3 (g := (mkF m 7 #[.val (.int q)] [(.int (q.toInt8.toInt32)), (.int (0 : Int32)), (.ref t), (.ref t)])) rfl rfl (hb hby own_d3_7)
  have f4 := Arv.set Ar3 q3 S3 N3 H3 G3 (fits_nar_byte _) W3 0 rfl (Nat.le_of_ble_eq_true rfl)
  have sz3 : n0 ≤ h3.size := by rw [W3.size]; exact sz1
  clear sz1
  have fr3 := Fr.snoc X3 N0 g_t
  clear N0
  have kp3 := kp1.wr W3 (Or.inr kz_t)
  clear kp1
  refine own_st (st3) ?_
  clear st3 X1 e1 W3 Ar3 q3 S3 N3 H3 G3 hin3 f2
  show OFin p e below s _ _ _ (T3.setTop (mkF m 8 #[.val (.int q)] [(.ref t)]))
  exact own_ret X3 hx (t := (.array .byte)) hret hlk rfl (Or.inr (Or.inr (Or.inr (Or.inr ⟨rfl, rfl, rfl⟩)))) (hb hby own_d3_8) (by decide) (by decide) (by show ∃ t, _ ∧ _ ∧ Keep h0 T3.heap _; rw [e3]; exact ⟨t, rfl, fr3, kp3⟩)
set_option maxRecDepth 65536 in
set_option maxHeartbeats 40000000 in
theorem rmSI (l : Launch) (Z : State) (a0 : Array Value) (hw : ∀ d ∈ tables_1, d.before a0 Z = true) (a : Addr) (t : Addr) (q : Int32) (h0 : Heap) (n0 : Nat) (E_a : Exa Z h0 a "java/lang/String") (F_v : Fld Z h0 a "java/lang/String" "value" "[B" .null) (F_c : Fld Z h0 a "java/lang/String" "coder" "B" (.int (0 : Int32))) (g_a : n0 ≤ a) :
    OMet l Z (⟨"java/lang/String", "<init>", "([BB)V"⟩ : MethodName) jdk_42_method_151_code 3 none (⟨1, 0, 0, 12⟩ : Room) #[(.ref a), (.ref t), (.int q)] h0 (fun v h L => v = none ∧ Fr n0 L ∧ Keep h0 h [a]) := by
  refine own_enter own_pn4 ?_
  intro p e s m below meth c T0 X0 hC e0
  obtain ⟨hx, hZ, hby, hml, hown, hret, hlk, hnm⟩ := hC
  have hown : s.vm.findClass "java/lang/String" = some m.cls := hown
  refine own_at (own_ef4_RRI m a t q) ?_
  show OFin p e below s _ _ _ (T0.setTop (mkF m 0 #[.val (.ref a), .val (.ref t), .val (.int q)] []))
  have N0 := Fr.nil n0
  have kp0 := Keep.refl h0 [a]
  refine own_st (fun _ kS => XS.aloadN X0.here hx rfl (hb hby own_d4_0) rfl rfl kS) ?_
  show OFin p e below s _ _ _ (T0.setTop (mkF m 1 #[.val (.ref a), .val (.ref t), .val (.int q)] [(.ref a)]))
  obtain ⟨T6, X6, e6, st6⟩ := initO X0 hx hZ hown (own_w hw 21 rfl) (own_w hw 22 rfl) (own_w hw 23 rfl) e0 (g := (mkF m 1 #[.val (.ref a), .val (.ref t), .val (.int q)] [(.ref a)])) rfl (by rw [hml]; rfl) rfl (hb hby own_d4_1) (by decide) (W := 0) (by show 2 * 0 + _ ≤ _; exact Nat.le_of_eq rfl) (by decide)
  refine own_st (st6) ?_
  clear st6 X0 e0
  show OFin p e below s _ _ _ (T6.setTop (mkF m 4 #[.val (.ref a), .val (.ref t), .val (.int q)] []))
  refine own_st (fun _ kS => XS.aloadN X6.here hx rfl (hb hby own_d4_4) rfl rfl kS) ?_
  show OFin p e below s _ _ _ (T6.setTop (mkF m 5 #[.val (.ref a), .val (.ref t), .val (.int q)] [(.ref a)]))
  refine own_st (fun _ kS => XS.aloadN X6.here hx rfl (hb hby own_d4_5) rfl rfl kS) ?_
  show OFin p e below s _ _ _ (T6.setTop (mkF m 6 #[.val (.ref a), .val (.ref t), .val (.int q)] [(.ref t), (.ref a)]))
  obtain ⟨T7, h7, X7, e7, W7, st7⟩ := putF X6 hx hZ hown (host := "") (Or.inl (own_w hw 24 rfl)) Via.refl e6 F_v E_a (Or.inr ⟨(own_w hw 25 rfl), rfl, hnm⟩) (own_w hw 12 rfl) (ty := (.array .byte)) (by decide) rfl rfl (g := (mkF m 6 #[.val (.ref a), .val (.ref t), .val (.int q)] [(.ref t), (.ref a)])) rfl rfl (hb hby own_d4_6)
  have f8 := F_v.same W7
  have f9 := E_a.wr W7
  have f11 := F_c.other W7 (Or.inr (slot_ne (Or.inr (own_w hw 27 rfl)) (Or.inr (own_w hw 25 rfl)) (by decide) (t := .byte) (t' := (.array .byte)) (by decide) (by decide)))
  have fr7 := Fr.snoc X7 N0 g_a
  clear N0
  have kp7 := kp0.wr W7 (Or.inl (List.mem_of_getElem? (i := 0) rfl))
  clear kp0
  refine own_st (st7) ?_
  clear st7 X6 e6 W7
  show OFin p e below s _ _ _ (T7.setTop (mkF m 9 #[.val (.ref a), .val (.ref t), .val (.int q)] []))
  refine own_st (fun _ kS => XS.aloadN X7.here hx rfl (hb hby own_d4_9) rfl rfl kS) ?_
  show OFin p e below s _ _ _ (T7.setTop (mkF m 10 #[.val (.ref a), .val (.ref t), .val (.int q)] [(.ref a)]))
  refine own_st (fun _ kS => XS.iloadN X7.here hx rfl (hb hby own_d4_10) rfl kS) ?_
  show OFin p e below s _ _ _ (T7.setTop (mkF m 11 #[.val (.ref a), .val (.ref t), .val (.int q)] [(.int q), (.ref a)]))
  obtain ⟨T12, h12, X12, e12, W12, st12⟩ := putFN X7 hx hZ hown (own_w hw 26 rfl) Via.refl e7 f11 f9 (Or.inr ⟨(own_w hw 27 rfl), rfl, hnm⟩) (own_w hw 12 rfl) (ty := .byte) (v' := (.int (nar .byte q))) (by decide) rfl (fits_nar_byte _) (g := (mkF m 11 #[.val (.ref a), .val (.ref t), .val (.int q)] [(.int q), (.ref a)])) rfl rfl (hb hby own_d4_11)
  have f13 := f11.same W12
  have f14 := f9.wr W12
  clear f9
  have f15 := f8.other W12 (Or.inr (slot_ne (Or.inr (own_w hw 25 rfl)) (Or.inr (own_w hw 27 rfl)) (by decide) (t := (.array .byte)) (t' := .byte) (by decide) (by decide)))
  clear f8
  have fr12 := Fr.snoc X12 fr7 g_a
  clear fr7
  have kp12 := kp7.wr W12 (Or.inl (List.mem_of_getElem? (i := 0) rfl))
  clear kp7
  refine own_st (st12) ?_
  clear st12 X7 e7 W12 f11
  show OFin p e below s _ _ _ (T12.setTop (mkF m 14 #[.val (.ref a), .val (.ref t), .val (.int q)] []))
  exact own_retV X12 hx hret hlk (hb hby own_d4_14) (by decide) (by decide) (by show _ ∧ _ ∧ Keep h0 T12.heap _; rw [e12]; exact ⟨rfl, fr12, kp12⟩)
set_option maxRecDepth 65536 in
set_option maxHeartbeats 40000000 in
theorem rmVO (l : Launch) (Z : State) (a0 : Array Value) (hw : ∀ d ∈ tables_1, d.before a0 Z = true) (q : Int32) (h0 : Heap) (n0 : Nat) (Z0 : n0 ≤ h0.size) (z : Int32) (hq : ¬ (255 : Int32) < q) (S_c : Sta Z Z.heap "java/lang/String" "COMPACT_STRINGS" "Z" (.int z)) (hz : ¬ (z = (0 : Int32))) (O : Old Z n0 h0) :
    OMet l Z (⟨"java/lang/String", "valueOf", "(C)Ljava/lang/String;"⟩ : MethodName) jdk_42_method_139_code 1 (some (.object "java/lang/String")) (⟨2, 2, 5, 27⟩ : Room) #[(.int q)] h0 (fun v h L => ∃ t, v = some (.ref t) ∧ Fr n0 L ∧ Keep h0 h []) := by
  refine own_enter own_pn1 ?_
  intro p e s m below meth c T0 X0 hC e0
  obtain ⟨hx, hZ, hby, hml, hown, hret, hlk, hnm⟩ := hC
  have hown : s.vm.findClass "java/lang/String" = some m.cls := hown
  refine own_at (own_ef1_I m q) ?_
  show OFin p e below s _ _ _ (T0.setTop (mkF m 0 #[.val (.int q)] []))
  have N0 := Fr.nil n0
  have kp0 := Keep.refl h0 []
  obtain ⟨T17, X17, e17, st17⟩ := getS2 X0 hx hZ hown (host := "") (Or.inl (own_w hw 6 rfl)) Via.refl e0 (Sta.ext O.2 S_c) (g := (mkF m 0 #[.val (.int q)] [])) rfl (hb hby own_d1_0)
  refine own_st (st17) ?_
  clear st17 X0 e0
  show OFin p e below s _ _ _ (T17.setTop (mkF m 3 #[.val (.int q)] [(.int z)]))
  refine own_st (fun _ kS => XS.ifNo X17.here hx rfl (hb hby own_d1_3) rfl ((if0 _ _).trans (feq hz).1) kS) ?_
  show OFin p e below s _ _ _ (T17.setTop (mkF m 6 #[.val (.int q)] []))
  refine own_st (fun _ kS => XS.iloadN X17.here hx rfl (hb hby own_d1_6) rfl kS) ?_
  show OFin p e below s _ _ _ (T17.setTop (mkF m 7 #[.val (.int q)] [(.int q)]))
  obtain ⟨v18, T18, L18, X18, hQ18, st18⟩ := own_static X17 hx hZ (y := (⟨"java/lang/StringLatin1", "canEncode", "(C)Z"⟩ : MethodName)) (rm := ⟨0, 0, 0, 0⟩) (W := 0) (argsL := [(.int q)]) (rest := []) hown (own_w hw 7 rfl) (own_w hw 8 rfl) (own_w hw 9 rfl) (own_w hw 10 rfl) (rmCE l Z a0 hw q h0 hq) e17 (g := (mkF m 7 #[.val (.int q)] [(.int q)])) rfl (by rw [hml]; rfl) (lenOf own_pd0 rfl) rfl (by show 2 * 0 + _ ≤ _; exact Nat.le_of_eq rfl) (hb hby own_d1_7) (by decide) (by decide) (by decide) (by decide)
  obtain ⟨rfl, e18, rfl⟩ := hQ18
  rw [List.append_nil] at X18
  refine own_st (st18) ?_
  clear st18 X17 e17
  show OFin p e below s _ _ _ (T18.setTop (mkF m 10 #[.val (.int q)] [(.int (1 : Int32))]))
  refine own_st (fun _ kS => XS.ifNo X18.here hx rfl (hb hby own_d1_10) rfl ((if0 _ _).trans (feq (by decide)).1) kS) ?_
  show OFin p e below s _ _ _ (T18.setTop (mkF m 13 #[.val (.int q)] []))
  obtain ⟨T19, h19, X19, e19, E19, A19, D19, -, st19⟩ := newO X18 hx hZ hown (own_w hw 11 rfl) (own_w hw 12 rfl) (own_w hw 4 rfl) e18 (g := (mkF m 13 #[.val (.int q)] [])) rfl (hb hby own_d1_13) (by decide) (by decide)
  obtain ⟨a, g19⟩ : ∃ z, z = h0.size := ⟨_, rfl⟩
  rw [← g19] at A19 D19 st19
  have g_a : n0 ≤ a := Nat.le_trans Z0 (Nat.le_of_eq g19.symm)
  have od19 := O.ext E19
  have f20 : Fld Z h19 a "java/lang/String" "value" "[B" .null := D19 (Or.inr (own_w hw 25 rfl)) (ty := (.array .byte)) (by decide)
  have f21 : Fld Z h19 a "java/lang/String" "coder" "B" (.int (0 : Int32)) := D19 (Or.inr (own_w hw 27 rfl)) (ty := .byte) (by decide)
  have sz19 : n0 ≤ h19.size := Nat.le_trans Z0 E19.1
  have kp19 := kp0.ext E19
  have kz_a := Nat.le_trans kp0.1 (Nat.le_of_eq g19.symm)
  clear kp0
  refine own_st (st19) ?_
  clear st19 X18 e18 E19 D19 g19
  show OFin p e below s _ _ _ (T19.setTop (mkF m 16 #[.val (.int q)] [(.ref a)]))
  refine own_st (fun _ kS => XS.dup X19.here hx rfl (hb hby own_d1_16) rfl rfl kS) ?_
  show OFin p e below s _ _ _ (T19.setTop (mkF m 17 #[.val (.int q)] [(.ref a), (.ref a)]))
  refine own_st (fun _ kS => XS.iloadN X19.here hx rfl (hb hby own_d1_17) rfl kS) ?_
  show OFin p e below s _ _ _ (T19.setTop (mkF m 18 #[.val (.int q)] [(.int q), (.ref a), (.ref a)]))
  obtain ⟨v22, T22, L22, X22, hQ22, st22⟩ := own_static X19 hx hZ (y := (⟨"java/lang/StringLatin1", "toBytes", "(C)[B"⟩ : MethodName)) (rm := ⟨0, 1, 1, 0⟩) (W := 2) (argsL := [(.int q)]) (rest := [(.ref a), (.ref a)]) hown (own_w hw 13 rfl) (own_w hw 14 rfl) (own_w hw 9 rfl) (own_w hw 15 rfl) (rmTB l Z a0 hw q h19 n0 sz19) e19 (g := (mkF m 18 #[.val (.int q)] [(.int q), (.ref a), (.ref a)])) rfl (by rw [hml]; rfl) (lenOf own_pd1 rfl) rfl (by show 2 * 0 + _ ≤ _; exact Nat.le_of_eq rfl) (hb hby own_d1_18) (by decide) (by decide) (by decide) (by decide)
  obtain ⟨t, rfl, N22, K22⟩ := hQ22
  have fr22 := Fr.app N0 N22
  have kp22 := kp19.trans K22 all0
  have od22 := od19.keep K22 all0
  clear od19
  have f23 := A19.keep K22
  have f24 := f20.keep K22 nin0
  clear f20
  have f25 := f21.keep K22 nin0
  clear f21
  have sz22 : n0 ≤ T22.heap.size := Nat.le_trans sz19 K22.1
  clear sz19
  refine own_st (st22) ?_
  clear st22 X19 e19
  show OFin p e below s _ _ _ (T22.setTop (mkF m 21 #[.val (.int q)] [(.ref t), (.ref a), (.ref a)]))
  refine own_st (fun _ kS => XS.iconst X22.here hx rfl (hb hby own_d1_21) kS) ?_
  show OFin p e below s _ _ _ (T22.setTop (mkF m 22 #[.val (.int q)] [(.int (0 : Int32)), (.ref t), (.ref a), (.ref a)]))
  obtain ⟨v26, T26, L26, X26, hQ26, st26⟩ := own_init X22 hx hZ (y := (⟨"java/lang/String", "<init>", "([BB)V"⟩ : MethodName)) (rm := ⟨1, 0, 0, 12⟩) (W := 1) (a := a) (argsL := [(.ref t), (.int (0 : Int32))]) (rest := [(.ref a)]) rfl hown (own_w hw 17 rfl) (own_w hw 18 rfl) (own_w hw 4 rfl) (own_w hw 20 rfl) (rmSI l Z a0 hw a t _ T22.heap n0 f23 f24 f25 g_a) rfl (g := (mkF m 22 #[.val (.int q)] [(.int (0 : Int32)), (.ref t), (.ref a), (.ref a)])) rfl (by rw [hml]; rfl) (lenOf own_pd2 rfl) rfl (by show 2 * 0 + _ ≤ _; exact Nat.le_of_eq rfl) (hb hby own_d1_22) (by decide) (by decide) (by decide) (by decide)
  obtain ⟨rfl, N26, K26⟩ := hQ26
  have fr26 := Fr.app fr22 N26
  have kp26 := kp22.trans K26 (allS (Or.inr kz_a) all0)
  have od26 := od22.keep K26 (allS g_a all0)
  clear od22
  have f27 := f23.keep K26
  clear f23
  clear f24
  clear f25
  have sz26 : n0 ≤ T26.heap.size := Nat.le_trans sz22 K26.1
  clear sz22
  refine own_st (st26) ?_
  clear st26 X22
  show OFin p e below s _ _ _ (T26.setTop (mkF m 25 #[.val (.int q)] [(.ref a)]))
  exact own_ret X26 hx (t := (.object "java/lang/String")) hret hlk rfl (Or.inr (Or.inr (Or.inr (Or.inr ⟨rfl, rfl, rfl⟩)))) (hb hby own_d1_25) (by decide) (by decide) ⟨a, rfl, fr26, kp26⟩
set_option maxRecDepth 65536 in
set_option maxHeartbeats 40000000 in
theorem rmRI (l : Launch) (Z : State) (a0 : Array Value) (hw : ∀ d ∈ tables_1, d.before a0 Z = true) (a : Addr) (q1 : Int32) (q2 : Int32) (h0 : Heap) (n0 : Nat) (E_a : Exa Z h0 a "com/example/idhini/idhini/Range") (F_l : Fld Z h0 a "com/example/idhini/idhini/Range" "low" "I" (.int (0 : Int32))) (F_h : Fld Z h0 a "com/example/idhini/idhini/Range" "high" "I" (.int (0 : Int32))) (g_a : n0 ≤ a) :
    OMet l Z (⟨"com/example/idhini/idhini/Range", "<init>", "(II)V"⟩ : MethodName) prog_64_method_1_code 3 none (⟨1, 0, 0, 12⟩ : Room) #[(.ref a), (.int q1), (.int q2)] h0 (fun v h L => v = none ∧ Fr n0 L ∧ Keep h0 h [a] ∧ Exa Z h a "com/example/idhini/idhini/Range" ∧ Fld Z h a "com/example/idhini/idhini/Range" "low" "I" (.int q1) ∧ Fld Z h a "com/example/idhini/idhini/Range" "high" "I" (.int q2)) := by
  refine own_enter own_pn7 ?_
  intro p e s m below meth c T0 X0 hC e0
  obtain ⟨hx, hZ, hby, hml, hown, hret, hlk, hnm⟩ := hC
  have hown : s.vm.findClass "com/example/idhini/idhini/Range" = some m.cls := hown
  refine own_at (own_ef7_RII m a q1 q2) ?_
  show OFin p e below s _ _ _ (T0.setTop (mkF m 0 #[.val (.ref a), .val (.int q1), .val (.int q2)] []))
  have N0 := Fr.nil n0
  have kp0 := Keep.refl h0 [a]
  refine own_st (fun _ kS => XS.aloadN X0.here hx rfl (hb hby own_d7_0) rfl rfl kS) ?_
  show OFin p e below s _ _ _ (T0.setTop (mkF m 1 #[.val (.ref a), .val (.int q1), .val (.int q2)] [(.ref a)]))
  obtain ⟨T30, X30, e30, st30⟩ := initO X0 hx hZ hown (own_w hw 38 rfl) (own_w hw 22 rfl) (own_w hw 23 rfl) e0 (g := (mkF m 1 #[.val (.ref a), .val (.int q1), .val (.int q2)] [(.ref a)])) rfl (by rw [hml]; rfl) rfl (hb hby own_d7_1) (by decide) (W := 0) (by show 2 * 0 + _ ≤ _; exact Nat.le_of_eq rfl) (by decide)
  refine own_st (st30) ?_
  clear st30 X0 e0
  show OFin p e below s _ _ _ (T30.setTop (mkF m 4 #[.val (.ref a), .val (.int q1), .val (.int q2)] []))
  refine own_st (fun _ kS => XS.aloadN X30.here hx rfl (hb hby own_d7_4) rfl rfl kS) ?_
  show OFin p e below s _ _ _ (T30.setTop (mkF m 5 #[.val (.ref a), .val (.int q1), .val (.int q2)] [(.ref a)]))
  refine own_st (fun _ kS => XS.iloadN X30.here hx rfl (hb hby own_d7_5) rfl kS) ?_
  show OFin p e below s _ _ _ (T30.setTop (mkF m 6 #[.val (.ref a), .val (.int q1), .val (.int q2)] [(.int q1), (.ref a)]))
  obtain ⟨T31, h31, X31, e31, W31, st31⟩ := putF X30 hx hZ hown (host := "") (Or.inl (own_w hw 39 rfl)) Via.refl e30 F_l E_a (Or.inr ⟨(own_w hw 40 rfl), rfl, hnm⟩) (own_w hw 34 rfl) (ty := .int) (by decide) rfl rfl (g := (mkF m 6 #[.val (.ref a), .val (.int q1), .val (.int q2)] [(.int q1), (.ref a)])) rfl rfl (hb hby own_d7_6)
  have f32 := F_l.same W31
  have f33 := E_a.wr W31
  have f35 := F_h.other W31 (Or.inr (slot_ne (Or.inr (own_w hw 42 rfl)) (Or.inr (own_w hw 40 rfl)) (by decide) (t := .int) (t' := .int) (by decide) (by decide)))
  have fr31 := Fr.snoc X31 N0 g_a
  clear N0
  have kp31 := kp0.wr W31 (Or.inl (List.mem_of_getElem? (i := 0) rfl))
  clear kp0
  refine own_st (st31) ?_
  clear st31 X30 e30 W31
  show OFin p e below s _ _ _ (T31.setTop (mkF m 9 #[.val (.ref a), .val (.int q1), .val (.int q2)] []))
  refine own_st (fun _ kS => XS.aloadN X31.here hx rfl (hb hby own_d7_9) rfl rfl kS) ?_
  show OFin p e below s _ _ _ (T31.setTop (mkF m 10 #[.val (.ref a), .val (.int q1), .val (.int q2)] [(.ref a)]))
  refine own_st (fun _ kS => XS.iloadN X31.here hx rfl (hb hby own_d7_10) rfl kS) ?_
  show OFin p e below s _ _ _ (T31.setTop (mkF m 11 #[.val (.ref a), .val (.int q1), .val (.int q2)] [(.int q2), (.ref a)]))
  obtain ⟨T36, h36, X36, e36, W36, st36⟩ := putF X31 hx hZ hown (host := "") (Or.inl (own_w hw 41 rfl)) Via.refl e31 f35 f33 (Or.inr ⟨(own_w hw 42 rfl), rfl, hnm⟩) (own_w hw 34 rfl) (ty := .int) (by decide) rfl rfl (g := (mkF m 11 #[.val (.ref a), .val (.int q1), .val (.int q2)] [(.int q2), (.ref a)])) rfl rfl (hb hby own_d7_11)
  have f37 := f35.same W36
  have f38 := f33.wr W36
  clear f33
  have f39 := f32.other W36 (Or.inr (slot_ne (Or.inr (own_w hw 40 rfl)) (Or.inr (own_w hw 42 rfl)) (by decide) (t := .int) (t' := .int) (by decide) (by decide)))
  clear f32
  have fr36 := Fr.snoc X36 fr31 g_a
  clear fr31
  have kp36 := kp31.wr W36 (Or.inl (List.mem_of_getElem? (i := 0) rfl))
  clear kp31
  refine own_st (st36) ?_
  clear st36 X31 e31 W36 f35
  show OFin p e below s _ _ _ (T36.setTop (mkF m 14 #[.val (.ref a), .val (.int q1), .val (.int q2)] []))
  exact own_retV X36 hx hret hlk (hb hby own_d7_14) (by decide) (by decide) (by show _ ∧ _ ∧ Keep h0 T36.heap _ ∧ _; rw [e36]; exact ⟨rfl, fr36, kp36, f38, f39, f37⟩)
set_option maxRecDepth 65536 in
set_option maxHeartbeats 40000000 in
theorem rmWM (l : Launch) (Z : State) (a0 : Array Value) (hw : ∀ d ∈ tables_1, d.before a0 Z = true) (o : Addr) (q : Int32) (h0 : Heap) (n0 : Nat) (Z0 : n0 ≤ h0.size) (hq : ¬ (500000000 : Int32) < q) :
    OMet l Z (⟨"com/example/idhini/idhini/Range", "withMean", "(Ljava/lang/String;I)Lcom/example/idhini/idhini/Range;"⟩ : MethodName) prog_64_method_3_code 2 (some (.object "com/example/idhini/idhini/Range")) (⟨2, 1, 2, 27⟩ : Room) #[(.ref o), (.int q)] h0 (fun v h L => ∃ a, v = some (.ref a) ∧ Fr n0 L ∧ Keep h0 h [] ∧ Exa Z h a "com/example/idhini/idhini/Range" ∧ Fld Z h a "com/example/idhini/idhini/Range" "low" "I" (.int (1 : Int32)) ∧ Fld Z h a "com/example/idhini/idhini/Range" "high" "I" (.int (((2 : Int32) * q) - (1 : Int32)))) := by
  refine own_enter own_pn6 ?_
  intro p e s m below meth c T0 X0 hC e0
  obtain ⟨hx, hZ, hby, hml, hown, hret, hlk, hnm⟩ := hC
  have hown : s.vm.findClass "com/example/idhini/idhini/Range" = some m.cls := hown
  refine own_at (own_ef6_RI m o q) ?_
  show OFin p e below s _ _ _ (T0.setTop (mkF m 0 #[.val (.ref o), .val (.int q)] []))
  have N0 := Fr.nil n0
  have kp0 := Keep.refl h0 []
  refine own_st (fun _ kS => XS.iloadN X0.here hx rfl (hb hby own_d6_0) rfl kS) ?_
  show OFin p e below s _ _ _ (T0.setTop (mkF m 1 #[.val (.ref o), .val (.int q)] [(.int q)]))
  refine own_st (X0.ldcInt hx hown (mvT hZ (own_w hw 32 rfl)) (g := (mkF m 1 #[.val (.ref o), .val (.int q)] [(.int q)])) rfl (hb hby own_d6_1)) ?_
  show OFin p e below s _ _ _ (T0.setTop (mkF m 3 #[.val (.ref o), .val (.int q)] [(.int (500000000 : Int32)), (.int q)]))
  refine own_st (fun _ kS => XS.icmpYes X0.here hx rfl (pc0 := 3) (pc' := 21) rfl (hb hby own_d6_3) rfl (flt hq).2.2.2 (by decide) (by decide) kS) ?_
  show OFin p e below s _ _ _ (T0.setTop (mkF m 21 #[.val (.ref o), .val (.int q)] []))
  obtain ⟨T41, h41, X41, e41, E41, A41, D41, -, st41⟩ := newO X0 hx hZ hown (own_w hw 33 rfl) (own_w hw 34 rfl) (own_w hw 30 rfl) e0 (g := (mkF m 21 #[.val (.ref o), .val (.int q)] [])) rfl (hb hby own_d6_21) (by decide) (by decide)
  obtain ⟨a, g41⟩ : ∃ z, z = h0.size := ⟨_, rfl⟩
  rw [← g41] at A41 D41 st41
  have g_a : n0 ≤ a := Nat.le_trans Z0 (Nat.le_of_eq g41.symm)
  have f42 : Fld Z h41 a "com/example/idhini/idhini/Range" "low" "I" (.int (0 : Int32)) := D41 (Or.inr (own_w hw 40 rfl)) (ty := .int) (by decide)
  have f43 : Fld Z h41 a "com/example/idhini/idhini/Range" "high" "I" (.int (0 : Int32)) := D41 (Or.inr (own_w hw 42 rfl)) (ty := .int) (by decide)
  have sz41 : n0 ≤ h41.size := Nat.le_trans Z0 E41.1
  have kp41 := kp0.ext E41
  have kz_a := Nat.le_trans kp0.1 (Nat.le_of_eq g41.symm)
  clear kp0
  refine own_st (st41) ?_
  clear st41 X0 e0 E41 D41 g41
  show OFin p e below s _ _ _ (T41.setTop (mkF m 24 #[.val (.ref o), .val (.int q)] [(.ref a)]))
  refine own_st (fun _ kS => XS.dup X41.here hx rfl (hb hby own_d6_24) rfl rfl kS) ?_
  show OFin p e below s _ _ _ (T41.setTop (mkF m 25 #[.val (.ref o), .val (.int q)] [(.ref a), (.ref a)]))
  refine own_st (fun _ kS => XS.iconst X41.here hx rfl (hb hby own_d6_25) kS) ?_
  show OFin p e below s _ _ _ (T41.setTop (mkF m 26 #[.val (.ref o), .val (.int q)] [(.int (1 : Int32)), (.ref a), (.ref a)]))
  refine own_st (fun _ kS => XS.iconst X41.here hx rfl (hb hby own_d6_26) kS) ?_
  show OFin p e below s _ _ _ (T41.setTop (mkF m 27 #[.val (.ref o), .val (.int q)] [(.int (2 : Int32)), (.int (1 : Int32)), (.ref a), (.ref a)]))
  refine own_st (fun _ kS => XS.iloadN X41.here hx rfl (hb hby own_d6_27) rfl kS) ?_
  show OFin p e below s _ _ _ (T41.setTop (mkF m 28 #[.val (.ref o), .val (.int q)] [(.int q), (.int (2 : Int32)), (.int (1 : Int32)), (.ref a), (.ref a)]))
  refine own_st (fun _ kS => XS.imul X41.here hx rfl (hb hby own_d6_28) rfl kS) ?_
  show OFin p e below s _ _ _ (T41.setTop (mkF m 29 #[.val (.ref o), .val (.int q)] [(.int ((2 : Int32) * q)), (.int (1 : Int32)), (.ref a), (.ref a)]))
  refine own_st (fun _ kS => XS.iconst X41.here hx rfl (hb hby own_d6_29) kS) ?_
  show OFin p e below s _ _ _ (T41.setTop (mkF m 30 #[.val (.ref o), .val (.int q)] [(.int (1 : Int32)), (.int ((2 : Int32) * q)), (.int (1 : Int32)), (.ref a), (.ref a)]))
  refine own_st (fun _ kS => XS.isub X41.here hx rfl (hb hby own_d6_30) rfl kS) ?_
  show OFin p e below s _ _ _ (T41.setTop (mkF m 31 #[.val (.ref o), .val (.int q)] [(.int (((2 : Int32) * q) - (1 : Int32))), (.int (1 : Int32)), (.ref a), (.ref a)]))
  obtain ⟨v44, T44, L44, X44, hQ44, st44⟩ := own_init X41 hx hZ (y := (⟨"com/example/idhini/idhini/Range", "<init>", "(II)V"⟩ : MethodName)) (rm := ⟨1, 0, 0, 12⟩) (W := 1) (a := a) (argsL := [(.int (1 : Int32)), (.int (((2 : Int32) * q) - (1 : Int32)))]) (rest := [(.ref a)]) rfl hown (own_w hw 35 rfl) (own_w hw 36 rfl) (own_w hw 30 rfl) (own_w hw 37 rfl) (rmRI l Z a0 hw a _ _ h41 n0 A41 f42 f43 g_a) e41 (g := (mkF m 31 #[.val (.ref o), .val (.int q)] [(.int (((2 : Int32) * q) - (1 : Int32))), (.int (1 : Int32)), (.ref a), (.ref a)])) rfl (by rw [hml]; rfl) (lenOf own_pd3 rfl) rfl (by show 2 * 0 + _ ≤ _; exact Nat.le_of_eq rfl) (hb hby own_d6_31) (by decide) (by decide) (by decide) (by decide)
  obtain ⟨rfl, N44, K44, EE, FL, FH⟩ := hQ44
  have fr44 := Fr.app N0 N44
  have kp44 := kp41.trans K44 (allS (Or.inr kz_a) all0)
  have f45 := A41.keep K44
  clear f42
  clear f43
  have sz44 : n0 ≤ T44.heap.size := Nat.le_trans sz41 K44.1
  clear sz41
  refine own_st (st44) ?_
  clear st44 X41 e41
  show OFin p e below s _ _ _ (T44.setTop (mkF m 34 #[.val (.ref o), .val (.int q)] [(.ref a)]))
  exact own_ret X44 hx (t := (.object "com/example/idhini/idhini/Range")) hret hlk rfl (Or.inr (Or.inr (Or.inr (Or.inr ⟨rfl, rfl, rfl⟩)))) (hb hby own_d6_34) (by decide) (by decide) ⟨a, rfl, fr44, kp44, EE, FL, FH⟩
set_option maxRecDepth 65536 in
set_option maxHeartbeats 40000000 in
theorem rmMe (l : Launch) (Z : State) (a0 : Array Value) (hw : ∀ d ∈ tables_1, d.before a0 Z = true) (a : Addr) (h0 : Heap) (q1 q2 : Int32) (x : UInt64) (F_l : Fld Z h0 a "com/example/idhini/idhini/Range" "low" "I" (.int q1)) (F_h : Fld Z h0 a "com/example/idhini/idhini/Range" "high" "I" (.int q2)) (n1 : Jvm.Free.Fl.NoNaN64 (FP.dadd (FP.i2d q1) (FP.i2d q2))) (n2 : Jvm.Free.Fl.NoNaN64 (FP.ddiv (FP.dadd (FP.i2d q1) (FP.i2d q2)) (4611686018427387904 : UInt64))) (hv : FP.ddiv (FP.dadd (FP.i2d q1) (FP.i2d q2)) (4611686018427387904 : UInt64) = x) :
    OMet l Z (⟨"com/example/idhini/idhini/Range", "mean", "()D"⟩ : MethodName) prog_64_method_5_code 1 (some .double) (⟨0, 0, 0, 0⟩ : Room) #[(.ref a)] h0 (fun v h L => v = some (.double x) ∧ h = h0 ∧ L = []) := by
  refine own_enter own_pn8 ?_
  intro p e s m below meth c T0 X0 hC e0
  obtain ⟨hx, hZ, hby, hml, hown, hret, hlk, hnm⟩ := hC
  have hown : s.vm.findClass "com/example/idhini/idhini/Range" = some m.cls := hown
  refine own_at (own_ef8_R m a) ?_
  show OFin p e below s _ _ _ (T0.setTop (mkF m 0 #[.val (.ref a)] []))
  refine own_st (fun _ kS => XS.aloadN X0.here hx rfl (hb hby own_d8_0) rfl rfl kS) ?_
  show OFin p e below s _ _ _ (T0.setTop (mkF m 1 #[.val (.ref a)] [(.ref a)]))
  obtain ⟨T48, X48, e48, st48⟩ := getF X0 hx hZ hown (host := "") (Or.inl (own_w hw 39 rfl)) Via.refl e0 F_l (g := (mkF m 1 #[.val (.ref a)] [(.ref a)])) rfl rfl (hb hby own_d8_1)
  refine own_st (st48) ?_
  clear st48 X0 e0
  show OFin p e below s _ _ _ (T48.setTop (mkF m 4 #[.val (.ref a)] [(.int q1)]))
  refine own_st (fun _ kS => Jvm.Free.XS.i2dS (g := (mkF m 4 #[.val (.ref a)] [(.int q1)])) X48.here hx rfl (hb hby own_d8_4) rfl rfl kS) ?_
  show OFin p e below s _ _ _ (T48.setTop (mkF m 5 #[.val (.ref a)] [(.double (FP.i2d q1))]))
  refine own_st (fun _ kS => XS.aloadN X48.here hx rfl (hb hby own_d8_5) rfl rfl kS) ?_
  show OFin p e below s _ _ _ (T48.setTop (mkF m 6 #[.val (.ref a)] [(.ref a), (.double (FP.i2d q1))]))
  obtain ⟨T49, X49, e49, st49⟩ := getF X48 hx hZ hown (host := "") (Or.inl (own_w hw 41 rfl)) Via.refl e48 F_h (g := (mkF m 6 #[.val (.ref a)] [(.ref a), (.double (FP.i2d q1))])) rfl rfl (hb hby own_d8_6)
  refine own_st (st49) ?_
  clear st49 X48 e48
  show OFin p e below s _ _ _ (T49.setTop (mkF m 9 #[.val (.ref a)] [(.int q2), (.double (FP.i2d q1))]))
  refine own_st (fun _ kS => Jvm.Free.XS.i2dS (g := (mkF m 9 #[.val (.ref a)] [(.int q2), (.double (FP.i2d q1))])) X49.here hx rfl (hb hby own_d8_9) rfl rfl kS) ?_
  show OFin p e below s _ _ _ (T49.setTop (mkF m 10 #[.val (.ref a)] [(.double (FP.i2d q2)), (.double (FP.i2d q1))]))
  refine own_st (fun _ kS => Jvm.Free.XS.daddS (g := (mkF m 10 #[.val (.ref a)] [(.double (FP.i2d q2)), (.double (FP.i2d q1))])) X49.here hx rfl (v := (FP.dadd (FP.i2d q1) (FP.i2d q2))) (hb hby own_d8_10) rfl n1 rfl kS) ?_
  show OFin p e below s _ _ _ (T49.setTop (mkF m 11 #[.val (.ref a)] [(.double (FP.dadd (FP.i2d q1) (FP.i2d q2)))]))
  refine own_st (X49.ldc2DoubleC hx hown (mvT hZ (own_w hw 48 rfl)) (g := (mkF m 11 #[.val (.ref a)] [(.double (FP.dadd (FP.i2d q1) (FP.i2d q2)))])) rfl (hb hby own_d8_11)) ?_
  show OFin p e below s _ _ _ (T49.setTop (mkF m 14 #[.val (.ref a)] [(.double (4611686018427387904 : UInt64)), (.double (FP.dadd (FP.i2d q1) (FP.i2d q2)))]))
  refine own_st (fun _ kS => Jvm.Free.XS.ddivS (g := (mkF m 14 #[.val (.ref a)] [(.double (4611686018427387904 : UInt64)), (.double (FP.dadd (FP.i2d q1) (FP.i2d q2)))])) X49.here hx rfl (v := x) (hb hby own_d8_14) rfl n2 hv kS) ?_
  show OFin p e below s _ _ _ (T49.setTop (mkF m 15 #[.val (.ref a)] [(.double x)]))
  exact own_ret X49 hx (t := .double) hret hlk rfl (Or.inr (Or.inr (Or.inl ⟨rfl, rfl, _, rfl⟩))) (hb hby own_d8_15) (by decide) (by decide) ⟨rfl, e49, rfl⟩
set_option maxRecDepth 65536 in
set_option maxHeartbeats 40000000 in
theorem rm0 (l : Launch) (Z : State) (a0 : Array Value) (hw : ∀ d ∈ tables_1, d.before a0 Z = true) (p1 : Int32) (p2 : Int32) (h0 : Heap) (n0 : Nat) (Z0 : n0 ≤ h0.size) (z : Int32) (S_c : Sta Z Z.heap "java/lang/String" "COMPACT_STRINGS" "Z" (.int z)) (hz : ¬ (z = (0 : Int32))) (O : Old Z n0 h0) :
    OMet l Z x code maxLocals ret room_1 #[(.int p1), (.int p2)] h0 (fun v h L => v = some (.int (1 : Int32)) ∧ Fr n0 L) := by
  refine own_enter own_pn0 ?_
  intro p e s m below meth c T0 X0 hC e0
  obtain ⟨hx, hZ, hby, hml, hown, hret, hlk, hnm⟩ := hC
  have hown : s.vm.findClass "com/example/idhini/idhini/RangeWithMeanPinLaw" = some m.cls := hown
  refine own_at (own_ef0_II m p1 p2) ?_
  show OFin p e below s _ _ _ (T0.setTop (mkF m 0 #[.val (.int p1), .val (.int p2), .unset, .unset, .unset] []))
  have N0 := Fr.nil n0
  have kp0 := Keep.refl h0 []
  have hm := own_mm p1
  have hc := own_ch p2
  refine own_st (fun _ kS => XS.iconst X0.here hx rfl (hb hby at_0) kS) ?_
  show OFin p e below s _ _ _ (T0.setTop (mkF m 1 #[.val (.int p1), .val (.int p2), .unset, .unset, .unset] [(.int (1 : Int32))]))
  refine own_st (fun _ kS => XS.iloadN X0.here hx rfl (hb hby at_1) rfl kS) ?_
  show OFin p e below s _ _ _ (T0.setTop (mkF m 2 #[.val (.int p1), .val (.int p2), .unset, .unset, .unset] [(.int p1), (.int (1 : Int32))]))
  refine own_st (X0.ldcInt hx hown (mvT hZ (own_w hw 0 rfl)) (g := (mkF m 2 #[.val (.int p1), .val (.int p2), .unset, .unset, .unset] [(.int p1), (.int (1 : Int32))])) rfl (hb hby at_2)) ?_
  show OFin p e below s _ _ _ (T0.setTop (mkF m 4 #[.val (.int p1), .val (.int p2), .unset, .unset, .unset] [(.int (2147483647 : Int32)), (.int p1), (.int (1 : Int32))]))
  refine own_st (fun _ kS => XS.iand X0.here hx rfl (hb hby at_4) rfl kS) ?_
  show OFin p e below s _ _ _ (T0.setTop (mkF m 5 #[.val (.int p1), .val (.int p2), .unset, .unset, .unset] [(.int (p1 &&& (2147483647 : Int32))), (.int (1 : Int32))]))
  refine own_st (X0.ldcInt hx hown (mvT hZ (own_w hw 1 rfl)) (g := (mkF m 5 #[.val (.int p1), .val (.int p2), .unset, .unset, .unset] [(.int (p1 &&& (2147483647 : Int32))), (.int (1 : Int32))])) rfl (hb hby at_5)) ?_
  show OFin p e below s _ _ _ (T0.setTop (mkF m 7 #[.val (.int p1), .val (.int p2), .unset, .unset, .unset] [(.int (500000000 : Int32)), (.int (p1 &&& (2147483647 : Int32))), (.int (1 : Int32))]))
  refine own_st (fun _ kS => iremM (g := (mkF m 7 #[.val (.int p1), .val (.int p2), .unset, .unset, .unset] [(.int (500000000 : Int32)), (.int (p1 &&& (2147483647 : Int32))), (.int (1 : Int32))])) X0 hx rfl (hb hby at_7) rfl (by decide) kS) ?_
  show OFin p e below s _ _ _ (T0.setTop (mkF m 8 #[.val (.int p1), .val (.int p2), .unset, .unset, .unset] [(.int ((p1 &&& (2147483647 : Int32)) % (500000000 : Int32))), (.int (1 : Int32))]))
  refine own_st (fun _ kS => XS.iadd X0.here hx rfl (hb hby at_8) rfl kS) ?_
  show OFin p e below s _ _ _ (T0.setTop (mkF m 9 #[.val (.int p1), .val (.int p2), .unset, .unset, .unset] [(.int ((1 : Int32) + ((p1 &&& (2147483647 : Int32)) % (500000000 : Int32))))]))
  generalize ((1 : Int32) + ((p1 &&& (2147483647 : Int32)) % (500000000 : Int32))) = q at hm ⊢
  show OFin p e below s _ _ _ (T0.setTop (mkF m 9 #[.val (.int p1), .val (.int p2), .unset, .unset, .unset] [(.int q)]))
  refine own_st (fun _ kS => XS.istoreN X0.here hx rfl (hb hby at_9) rfl (l' := #[.val (.int p1), .val (.int p2), .val (.int q), .unset, .unset]) rfl kS) ?_
  show OFin p e below s _ _ _ (T0.setTop (mkF m 10 #[.val (.int p1), .val (.int p2), .val (.int q), .unset, .unset] []))
  refine own_st (fun _ kS => XS.iloadN X0.here hx rfl (hb hby at_10) rfl kS) ?_
  show OFin p e below s _ _ _ (T0.setTop (mkF m 11 #[.val (.int p1), .val (.int p2), .val (.int q), .unset, .unset] [(.int p2)]))
  refine own_st (fun _ kS => XS.sipush X0.here hx rfl (hb hby at_11) kS) ?_
  show OFin p e below s _ _ _ (T0.setTop (mkF m 14 #[.val (.int p1), .val (.int p2), .val (.int q), .unset, .unset] [(.int (255 : Int32)), (.int p2)]))
  refine own_st (fun _ kS => XS.iand X0.here hx rfl (hb hby at_14) rfl kS) ?_
  show OFin p e below s _ _ _ (T0.setTop (mkF m 15 #[.val (.int p1), .val (.int p2), .val (.int q), .unset, .unset] [(.int (p2 &&& (255 : Int32)))]))
  refine own_st (fun _ kS => XS.i2c X0.here hx rfl (hb hby at_15) rfl kS) ?_
  show OFin p e below s _ _ _ (T0.setTop (mkF m 16 #[.val (.int p1), .val (.int p2), .val (.int q), .unset, .unset] [(.int ((p2 &&& (255 : Int32)).toUInt32.toUInt16.toUInt32.toInt32))]))
  have hq : ¬ (500000000 : Int32) < q := by rw [Int32.lt_iff_toInt_lt]; show ¬ (500000000 : Int) < _; omega
  obtain ⟨v50, T50, L50, X50, hQ50, st50⟩ := own_static X0 hx hZ (y := (⟨"java/lang/String", "valueOf", "(C)Ljava/lang/String;"⟩ : MethodName)) (rm := ⟨2, 2, 5, 27⟩) (W := 0) (argsL := [(.int ((p2 &&& (255 : Int32)).toUInt32.toUInt16.toUInt32.toInt32))]) (rest := []) hown (own_w hw 2 rfl) (own_w hw 3 rfl) (own_w hw 4 rfl) (own_w hw 5 rfl) (rmVO l Z a0 hw _ h0 n0 Z0 z hc S_c hz O) e0 (g := (mkF m 16 #[.val (.int p1), .val (.int p2), .val (.int q), .unset, .unset] [(.int ((p2 &&& (255 : Int32)).toUInt32.toUInt16.toUInt32.toInt32))])) rfl (by rw [hml]; rfl) (lenOf own_pd4 rfl) rfl (by show 2 * 0 + _ ≤ _; exact Nat.le_of_eq rfl) (hb hby at_16) (by decide) (by decide) (by decide) (by decide)
  obtain ⟨t, rfl, N50, K50⟩ := hQ50
  have fr50 := Fr.app N0 N50
  have kp50 := kp0.trans K50 all0
  have od50 := O.keep K50 all0
  have sz50 : n0 ≤ T50.heap.size := Nat.le_trans Z0 K50.1
  refine own_st (st50) ?_
  clear st50 X0 e0
  show OFin p e below s _ _ _ (T50.setTop (mkF m 19 #[.val (.int p1), .val (.int p2), .val (.int q), .unset, .unset] [(.ref t)]))
  refine own_st (fun _ kS => XS.astoreN X50.here hx rfl (hb hby at_19) rfl rfl (l' := #[.val (.int p1), .val (.int p2), .val (.int q), .val (.ref t), .unset]) rfl kS) ?_
  show OFin p e below s _ _ _ (T50.setTop (mkF m 20 #[.val (.int p1), .val (.int p2), .val (.int q), .val (.ref t), .unset] []))
  refine own_st (fun _ kS => XS.aloadN X50.here hx rfl (hb hby at_20) rfl rfl kS) ?_
  show OFin p e below s _ _ _ (T50.setTop (mkF m 21 #[.val (.int p1), .val (.int p2), .val (.int q), .val (.ref t), .unset] [(.ref t)]))
  refine own_st (fun _ kS => XS.iloadN X50.here hx rfl (hb hby at_21) rfl kS) ?_
  show OFin p e below s _ _ _ (T50.setTop (mkF m 22 #[.val (.int p1), .val (.int p2), .val (.int q), .val (.ref t), .unset] [(.int q), (.ref t)]))
  obtain ⟨v51, T51, L51, X51, hQ51, st51⟩ := own_static X50 hx hZ (y := (⟨"com/example/idhini/idhini/Range", "withMean", "(Ljava/lang/String;I)Lcom/example/idhini/idhini/Range;"⟩ : MethodName)) (rm := ⟨2, 1, 2, 27⟩) (W := 0) (argsL := [(.ref t), (.int q)]) (rest := []) hown (own_w hw 28 rfl) (own_w hw 29 rfl) (own_w hw 30 rfl) (own_w hw 31 rfl) (rmWM l Z a0 hw t q T50.heap n0 sz50 hq) rfl (g := (mkF m 22 #[.val (.int p1), .val (.int p2), .val (.int q), .val (.ref t), .unset] [(.int q), (.ref t)])) rfl (by rw [hml]; rfl) (lenOf own_pd5 rfl) rfl (by show 2 * 0 + _ ≤ _; exact Nat.le_of_eq rfl) (hb hby at_22) (by decide) (by decide) (by decide) (by decide)
  obtain ⟨a, rfl, N51, K51, EE, FL, FH⟩ := hQ51
  have fr51 := Fr.app fr50 N51
  have kp51 := kp50.trans K51 all0
  have od51 := od50.keep K51 all0
  clear od50
  have sz51 : n0 ≤ T51.heap.size := Nat.le_trans sz50 K51.1
  clear sz50
  refine own_st (st51) ?_
  clear st51 X50
  show OFin p e below s _ _ _ (T51.setTop (mkF m 25 #[.val (.int p1), .val (.int p2), .val (.int q), .val (.ref t), .unset] [(.ref a)]))
  refine own_st (fun _ kS => XS.astore X51.here hx rfl (hb hby at_25) rfl rfl (l' := #[.val (.int p1), .val (.int p2), .val (.int q), .val (.ref t), .val (.ref a)]) rfl kS) ?_
  show OFin p e below s _ _ _ (T51.setTop (mkF m 27 #[.val (.int p1), .val (.int p2), .val (.int q), .val (.ref t), .val (.ref a)] []))
  refine own_st (fun _ kS => XS.aload X51.here hx rfl (hb hby at_27) rfl rfl kS) ?_
  show OFin p e below s _ _ _ (T51.setTop (mkF m 29 #[.val (.int p1), .val (.int p2), .val (.int q), .val (.ref t), .val (.ref a)] [(.ref a)]))
  obtain ⟨v52, T52, L52, X52, hQ52, st52⟩ := own_virtual X51 hx hZ (y := (⟨"com/example/idhini/idhini/Range", "mean", "()D"⟩ : MethodName)) (z := (⟨"com/example/idhini/idhini/Range", "mean", "()D"⟩ : MethodName)) (rm := ⟨0, 0, 0, 0⟩) (W := 0) (a := a) (argsL := []) (rest := []) hown (own_w hw 43 rfl) (own_w hw 44 rfl) (notFace_of_selects (args := #[]) (mvT hZ (own_w hw 46 rfl))) (own_w hw 46 rfl) (own_w hw 45 rfl) (own_w hw 30 rfl) (own_w hw 47 rfl) (rmMe l Z a0 hw a T51.heap _ _ (FP.i2d q) FL FH (own_nn (own_sumI hm)) (own_nn (own_divI hm)) (own_mean hm)) rfl EE (g := (mkF m 29 #[.val (.int p1), .val (.int p2), .val (.int q), .val (.ref t), .val (.ref a)] [(.ref a)])) rfl (by rw [hml]; rfl) (lenOf own_pd6 rfl) rfl (by show 2 * 0 + _ ≤ _; exact Nat.le_of_eq rfl) (hb hby at_29) (by decide) (by decide) (by decide) (by decide)
  obtain ⟨rfl, e52, rfl⟩ := hQ52
  rw [List.append_nil] at X52
  refine own_st (st52) ?_
  clear st52 X51
  show OFin p e below s _ _ _ (T52.setTop (mkF m 32 #[.val (.int p1), .val (.int p2), .val (.int q), .val (.ref t), .val (.ref a)] [(.double (FP.i2d q))]))
  refine own_st (fun _ kS => XS.iloadN X52.here hx rfl (hb hby at_32) rfl kS) ?_
  show OFin p e below s _ _ _ (T52.setTop (mkF m 33 #[.val (.int p1), .val (.int p2), .val (.int q), .val (.ref t), .val (.ref a)] [(.int q), (.double (FP.i2d q))]))
  refine own_st (fun _ kS => Jvm.Free.XS.i2dS (g := (mkF m 33 #[.val (.int p1), .val (.int p2), .val (.int q), .val (.ref t), .val (.ref a)] [(.int q), (.double (FP.i2d q))])) X52.here hx rfl (hb hby at_33) rfl rfl kS) ?_
  show OFin p e below s _ _ _ (T52.setTop (mkF m 34 #[.val (.int p1), .val (.int p2), .val (.int q), .val (.ref t), .val (.ref a)] [(.double (FP.i2d q)), (.double (FP.i2d q))]))
  refine own_st (own_dcmpl X52 hx (g := (mkF m 34 #[.val (.int p1), .val (.int p2), .val (.int q), .val (.ref t), .val (.ref a)] [(.double (FP.i2d q)), (.double (FP.i2d q))])) rfl (hb hby at_34) rfl) ?_
  show OFin p e below s _ _ _ (T52.setTop (mkF m 35 #[.val (.int p1), .val (.int p2), .val (.int q), .val (.ref t), .val (.ref a)] [(.int (cmpValue (FP.dcmp (FP.i2d q) (FP.i2d q)) .l))]))
  refine own_st (fun _ kS => XS.ifNo X52.here hx rfl (hb hby at_35) rfl ((if0 _ _).trans (teq (own_cmp q)).2) kS) ?_
  show OFin p e below s _ _ _ (T52.setTop (mkF m 38 #[.val (.int p1), .val (.int p2), .val (.int q), .val (.ref t), .val (.ref a)] []))
  refine own_st (fun _ kS => XS.iconst X52.here hx rfl (hb hby at_38) kS) ?_
  show OFin p e below s _ _ _ (T52.setTop (mkF m 39 #[.val (.int p1), .val (.int p2), .val (.int q), .val (.ref t), .val (.ref a)] [(.int (1 : Int32))]))
  refine own_st (fun _ kS => XS.goto X52.here hx rfl (pc0 := 39) (pc' := 43) rfl (hb hby at_39) (by decide) (by decide) kS) ?_
  show OFin p e below s _ _ _ (T52.setTop (mkF m 43 #[.val (.int p1), .val (.int p2), .val (.int q), .val (.ref t), .val (.ref a)] [(.int (1 : Int32))]))
  exact own_ret X52 hx (t := .boolean) hret hlk rfl (Or.inl ⟨rfl, by simp, _, rfl⟩) (hb hby at_43) (by decide) (by decide) ⟨rfl, fr51⟩
set_option maxRecDepth 65536 in
set_option maxHeartbeats 40000000 in
theorem comes_1 {Post : Tables → Env → Array Value → State → Outcome → State → Prop} (hpost : ∀ tb e args s v u, (limb_1_1.after args s (.returned v) u = true ∧ limb_1_2.after args s (.returned v) u = true ∧ True) → FrameEnd s (.returned v) u (Jvm.fieldLocs frame_1_writes args s ++ Jvm.arrayLocs frame_1_arrays args s ++ Jvm.staticLocs frame_1_statics s) 16 128 → Post tb e args s (.returned v) u) :
    ArmFor flags0 classFile x code maxLocals ret World_1 tables_1 room_1 Calls_1 rest_1 Pre_1 Post := by
  intro l hfl _ _ p e ha hc hk s m args below hf hA hF happ hP
  obtain ⟨hcalls, hrest, hpre⟩ := hP
  obtain ⟨-, -, -, hnamed, -, -, -, hat⟩ := (Spec.applies_iff hf).mp happ
  obtain ⟨hg, hn⟩ := and_e (Cond.before_iff.mp (show (Jvm.Cond.and given_1 narrow_1).before args s = true from hpre))
  obtain ⟨gc, hg0⟩ := and_e hg
  obtain ⟨ga0, hg1⟩ := and_e hg0
  obtain ⟨w0, w1, rfl⟩ : ∃ w0 w1 : Value, args = #[w0, w1] := by
    have hs : args.size = 2 := by simpa [Cond.value, given_1] using gc
    obtain ⟨L⟩ := args
    match L, hs with
    | [w0, w1], _ => exact ⟨w0, w1, rfl⟩
  have hw := fun d (hd : d ∈ tables_1) => atoms_spec (ws := Jvm.Cond.code x code maxLocals ret :: tables_1) hat d (List.mem_cons_of_mem _ hd)
  have hfit : Fit s := fun {y c} hc i hi => by
    obtain ⟨ha, rfl⟩ := Array.getElem?_eq_some_iff.mp hc
    have q := List.all_eq_true.mp ((Array.all_eq_true_iff_forall_mem.mp hF) _ (Array.getElem_mem ha)) i (List.mem_range.mpr hi)
    simpa [Array.getElem?_eq_getElem hi] using q
  obtain ⟨i0, ei0⟩ := is_v ga0
  obtain rfl : w0 = (.int i0) := Option.some.inj ei0
  obtain ⟨i1, ei1⟩ := is_v hg1
  obtain rfl : w1 = (.int i1) := Option.some.inj ei1
  obtain ⟨hsets, hown0⟩ := atoms_of _ (rest_1_c_eq ▸ (show rest_1_c.before _ s = true from hrest))
  have n5 := not_v (Cond.before_iff.mp (hsets _ (List.mem_of_getElem? (i := 2) rfl)))
  obtain ⟨zz, e10⟩ := is_v (Cond.before_iff.mp (hsets _ (List.mem_of_getElem? (i := 1) rfl)))
  have S12 : Sta s s.heap "java/lang/String" "COMPACT_STRINGS" "Z" (.int zz) := Sta.start e10 (Or.inl (hsets _ (List.mem_of_getElem? (i := 0) rfl)))
  have c17 : ¬ (zz = (0 : Int32)) := gotF (Cond.eq_ints e10 (Term.int_eval (0))) n5
  obtain ⟨n, o, h1, h2, h3, _, L, rfl, ⟨rfl, N⟩, hq⟩ := rm0 l s _ hw i0 i1 s.heap s.heap.size (Nat.le_refl _) zz S12 c17 (Old.start s) tables_1 p e ha hc hk s m _ below hf ((Spec.applies_iff_loose hf).mp happ).1 ⟨rfl, State.Warmed39.refl s, rfl⟩ trivial
  refine ⟨n, _, h1, h2, h3, hpost _ _ _ _ _ _ ⟨Cond.after_iff.mpr rfl, Cond.after_iff.mpr (eq_i res_at (Term.int_eval (1)) rfl), trivial⟩ ⟨hq.1, hq.2.1, (hq.2.2.sift fun y hy => Or.inr (N y hy)).mono (by decide) (by decide)⟩⟩
theorem main_1_1 : Claimed_1_1 := comes_1 fun _ _ _ _ _ _ h hF => ⟨h.1, hF⟩
theorem main_1_2 : Claimed_1_2 := comes_1 fun _ _ _ _ _ _ h hF => ⟨h.2.1, hF⟩
end Jvm.Pilot.@@N@@
namespace Jvm.Pilot.@@N@@
open Jvm Jvm.ClassFile Sem Op Lib Jvm.Free Jvm.Stand Jvm.Pilot.@@N@@.Jvm.D
/-! MADE BY PROGRAM (witnessworld.py) out of the Statement's table words and the real class files: 17 classes; the members and pool entries that the words name. The judged class is class 1, her method 1. -/
namespace start1
open Jvm.ClassFile
def u (s : String) : CpInfo := .utf8 (stringToUtf16 s)
/-- a pool by its gaps: so many unusable entries, then the entry; so many at the end -/
def gap : Nat → List CpInfo → List CpInfo
  | 0, r => r
  | n + 1, r => .unusable :: gap n r
def poolList (es : List (Nat × CpInfo)) (last : Nat) : List CpInfo := es.foldr (fun e r => gap e.1 (e.2 :: r)) (gap last [])
def pool (es : List (Nat × CpInfo)) (last : Nat) : Array CpInfo := ⟨poolList es last⟩
def fileOf (pool : Array CpInfo) (this : Nat) (attrs : Array Attribute := #[]) (ms : Array MethodInfo := #[]) (fl : Nat := 33) (sup : Nat := 0) (ifs : Array Nat := #[]) (fds : Array FieldInfo := #[]) : ClassFile where
  minorVersion := 0
  majorVersion := 65
  constantPool := pool
  accessFlags := fl
  thisClass := this
  superClass := sup
  interfaces := ifs
  fields := fds
  methods := ms
  attributes := attrs
def plain (name : String) (sup : Option ClassId) : Class where
  name := name
  kind := .ordinary
  loader := none
  accessFlags := 33
  super := sup
  interfaces := #[]
  cf := none
  fields := #[]
  methods := #[]
  instanceTypes := #[]
  staticTypes := #[]
  resolved := #[]
  callSites := []
  init := .initialized
  statics := none
  mirror := none

def pool0 : Array CpInfo := pool [(5, u "<init>"), (0, u "()V"), (1, .class_ 10), (1, u "java/lang/Object")] 113

def k0c0 : Code := { maxStack := 0, maxLocals := 1, code := object_method_1_code, exceptionTable := #[], attributes := #[] }
def k0m0 : Method := { name := "<init>", desc := "()V", sig := { parameters := [], returnType := none }, accessFlags := 1, code := some k0c0 }
/-- java/lang/Object -/
def k0 : Class := { plain "java/lang/Object" none with
  accessFlags := 33
  interfaces := #[]
  cf := some (fileOf pool0 8 #[] #[{ accessFlags := 1, nameIndex := 5, descriptorIndex := 6, attributes := #[] }] 33 0 #[] #[])
  fields := #[]
  methods := #[k0m0]
  instanceTypes := #[]
  staticTypes := #[]
  resolved := Array.replicate 124 none
  statics := none }

def pool1 : Array CpInfo := pool [(2, .class_ 4), (1, u "java/lang/Object"), (0, u "<init>"), (0, u "()V"), (0, .integer 2147483647), (0, .integer 500000000), (0, .methodref 10 11), (0, .class_ 12), (0, .nameAndType 13 14), (0, u "java/lang/String"), (0, u "valueOf"), (0, u "(C)Ljava/lang/String;"), (0, .methodref 16 17), (0, .class_ 18), (0, .nameAndType 19 20), (0, u "com/example/idhini/idhini/Range"), (0, u "withMean"), (0, u "(Ljava/lang/String;I)Lcom/example/idhini/idhini/Range;"), (0, .methodref 16 22), (0, .nameAndType 23 24), (0, u "mean"), (0, u "()D"), (0, .class_ 26), (0, u "com/example/idhini/idhini/RangeWithMeanPinLaw"), (2, u "law"), (0, u "(II)Z")] 6

def k1m0 : Method := { name := "<init>", desc := "()V", sig := { parameters := [], returnType := none }, accessFlags := 1, code := none }
def k1c1 : Code := { maxStack := 4, maxLocals := 5, code := code, exceptionTable := #[], attributes := #[] }
def k1m1 : Method := { name := "law", desc := "(II)Z", sig := { parameters := [.int, .int], returnType := some .boolean }, accessFlags := 9, code := some k1c1 }
/-- com/example/idhini/idhini/RangeWithMeanPinLaw -/
def k1 : Class := { plain "com/example/idhini/idhini/RangeWithMeanPinLaw" (some 0) with
  accessFlags := 49
  interfaces := #[]
  cf := some (fileOf pool1 25 #[] #[{ accessFlags := 1, nameIndex := 5, descriptorIndex := 6, attributes := #[] }, { accessFlags := 9, nameIndex := 29, descriptorIndex := 30, attributes := #[] }] 49 2 #[] #[])
  fields := #[]
  methods := #[k1m0, k1m1]
  instanceTypes := #[]
  staticTypes := #[]
  resolved := Array.replicate 37 none
  statics := none }

def pool2 : Array CpInfo := pool [(1, .class_ 2), (0, u "java/io/Serializable"), (0, .class_ 4), (0, u "java/lang/Object")] 2

/-- java/io/Serializable -/
def k2 : Class := { plain "java/io/Serializable" (some 0) with
  accessFlags := 1537
  interfaces := #[]
  cf := some (fileOf pool2 1 #[] #[] 1537 3 #[] #[])
  fields := #[]
  methods := #[]
  instanceTypes := #[]
  staticTypes := #[]
  resolved := Array.replicate 7 none
  statics := none }

def pool3 : Array CpInfo := pool [(1, .class_ 2), (0, u "java/lang/Comparable"), (0, .class_ 4), (0, u "java/lang/Object")] 7

/-- java/lang/Comparable -/
def k3 : Class := { plain "java/lang/Comparable" (some 0) with
  accessFlags := 1537
  interfaces := #[]
  cf := some (fileOf pool3 1 #[] #[] 1537 3 #[] #[])
  fields := #[]
  methods := #[]
  instanceTypes := #[]
  staticTypes := #[]
  resolved := Array.replicate 12 none
  statics := none }

def pool4 : Array CpInfo := pool [(2, .class_ 4), (1, u "java/lang/CharSequence"), (42, .class_ 48), (0, u "java/lang/CharSequence$1CodePointIterator"), (10, .class_ 60), (0, u "java/lang/CharSequence$1CharIterator"), (5, .class_ 67), (0, u "java/lang/Object")] 63

/-- java/lang/CharSequence -/
def k4 : Class := { plain "java/lang/CharSequence" (some 0) with
  accessFlags := 1537
  interfaces := #[]
  cf := some (fileOf pool4 2 #[.nestMembers #[47, 59]] #[] 1537 66 #[] #[])
  fields := #[]
  methods := #[]
  instanceTypes := #[]
  staticTypes := #[]
  resolved := Array.replicate 131 none
  statics := none }

def pool5 : Array CpInfo := pool [(1, .class_ 2), (0, u "java/lang/constant/Constable"), (0, .class_ 4), (0, u "java/lang/Object")] 6

/-- java/lang/constant/Constable -/
def k5 : Class := { plain "java/lang/constant/Constable" (some 0) with
  accessFlags := 1537
  interfaces := #[]
  cf := some (fileOf pool5 1 #[] #[] 1537 3 #[] #[])
  fields := #[]
  methods := #[]
  instanceTypes := #[]
  staticTypes := #[]
  resolved := Array.replicate 11 none
  statics := none }

def pool6 : Array CpInfo := pool [(1, .class_ 2), (0, u "java/lang/constant/ConstantDesc"), (0, .class_ 4), (0, u "java/lang/Object")] 32

/-- java/lang/constant/ConstantDesc -/
def k6 : Class := { plain "java/lang/constant/ConstantDesc" (some 0) with
  accessFlags := 1537
  interfaces := #[]
  cf := some (fileOf pool6 1 #[] #[] 1537 3 #[] #[])
  fields := #[]
  methods := #[]
  instanceTypes := #[]
  staticTypes := #[]
  resolved := Array.replicate 37 none
  statics := none }

def pool7 : Array CpInfo := pool [(1, .methodref 2 3), (0, .class_ 4), (0, .nameAndType 5 6), (0, u "java/lang/Object"), (0, u "<init>"), (0, u "()V"), (2, .fieldref 10 11), (0, .class_ 12), (0, .nameAndType 13 14), (0, u "java/lang/String"), (0, u "value"), (0, u "[B"), (0, .fieldref 10 16), (0, .nameAndType 17 18), (0, u "coder"), (0, u "B"), (2, u "hash"), (0, u "I"), (2, u "hashIsZero"), (0, u "Z"), (11, .fieldref 10 39), (0, .nameAndType 40 26), (0, u "COMPACT_STRINGS"), (12, u "toBytes"), (53, .class_ 109), (1, u "java/lang/StringLatin1"), (99, .methodref 10 210), (0, .nameAndType 5 211), (0, u "([BB)V"), (157, u "(C)Z"), (205, .class_ 576), (0, u "java/lang/CharSequence"), (22, u "CASE_INSENSITIVE_ORDER"), (0, u "Ljava/util/Comparator;"), (181, u "valueOf"), (0, u "(C)Ljava/lang/String;"), (231, .methodref 107 1016), (0, .nameAndType 1017 369), (0, u "canEncode"), (0, .methodref 107 1019), (0, .nameAndType 53 1020), (0, u "(C)[B"), (80, u "serialPersistentFields"), (0, u "[Ljava/io/ObjectStreamField;"), (0, .class_ 1104), (0, u "java/lang/String$CaseInsensitiveComparator"), (1, .class_ 1107), (0, u "java/io/Serializable"), (0, .class_ 1109), (0, u "java/lang/Comparable"), (0, .class_ 1111), (0, u "java/lang/constant/Constable"), (0, .class_ 1113), (0, u "java/lang/constant/ConstantDesc"), (2, u "serialVersionUID"), (0, u "J"), (3, u "REPL"), (0, u "C"), (2, u "LATIN1"), (1, u "UTF16")] 323

def k7m0 : Method := { name := "<init>", desc := "()V", sig := { parameters := [], returnType := none }, accessFlags := 1, code := none }
def k7c1 : Code := { maxStack := 4, maxLocals := 1, code := jdk_42_method_139_code, exceptionTable := #[], attributes := #[] }
def k7m1 : Method := { name := "valueOf", desc := "(C)Ljava/lang/String;", sig := { parameters := [.char], returnType := some (.object "java/lang/String") }, accessFlags := 9, code := some k7c1 }
def k7c2 : Code := { maxStack := 2, maxLocals := 3, code := jdk_42_method_151_code, exceptionTable := #[], attributes := #[] }
def k7m2 : Method := { name := "<init>", desc := "([BB)V", sig := { parameters := [(.array .byte), .byte], returnType := none }, accessFlags := 0, code := some k7c2 }
/-- java/lang/String -/
def k7 : Class := { plain "java/lang/String" (some 0) with
  accessFlags := 49
  interfaces := #[2, 3, 4, 5, 6]
  cf := some (fileOf pool7 10 #[.nestMembers #[1103]] #[{ accessFlags := 1, nameIndex := 5, descriptorIndex := 6, attributes := #[] }, { accessFlags := 9, nameIndex := 782, descriptorIndex := 783, attributes := #[] }, { accessFlags := 0, nameIndex := 5, descriptorIndex := 211, attributes := #[] }] 49 2 #[1106, 1108, 575, 1110, 1112] #[{ accessFlags := 18, nameIndex := 13, descriptorIndex := 14, attributes := #[] }, { accessFlags := 18, nameIndex := 17, descriptorIndex := 18, attributes := #[] }, { accessFlags := 2, nameIndex := 21, descriptorIndex := 22, attributes := #[] }, { accessFlags := 2, nameIndex := 25, descriptorIndex := 26, attributes := #[] }, { accessFlags := 26, nameIndex := 1116, descriptorIndex := 1117, attributes := #[] }, { accessFlags := 24, nameIndex := 40, descriptorIndex := 26, attributes := #[] }, { accessFlags := 26, nameIndex := 1101, descriptorIndex := 1102, attributes := #[] }, { accessFlags := 26, nameIndex := 1121, descriptorIndex := 1122, attributes := #[] }, { accessFlags := 25, nameIndex := 599, descriptorIndex := 600, attributes := #[] }, { accessFlags := 24, nameIndex := 1125, descriptorIndex := 18, attributes := #[] }, { accessFlags := 24, nameIndex := 1127, descriptorIndex := 18, attributes := #[] }])
  fields := #[{ name := "value", type := (.array .byte), accessFlags := 18, slot := 0, constantValue := 0 }, { name := "coder", type := .byte, accessFlags := 18, slot := 1, constantValue := 0 }, { name := "hash", type := .int, accessFlags := 2, slot := 2, constantValue := 0 }, { name := "hashIsZero", type := .boolean, accessFlags := 2, slot := 3, constantValue := 0 }, { name := "serialVersionUID", type := .long, accessFlags := 26, slot := 0, constantValue := 0 }, { name := "COMPACT_STRINGS", type := .boolean, accessFlags := 24, slot := 1, constantValue := 0 }, { name := "serialPersistentFields", type := (.array (.object "java/io/ObjectStreamField")), accessFlags := 26, slot := 2, constantValue := 0 }, { name := "REPL", type := .char, accessFlags := 26, slot := 3, constantValue := 0 }, { name := "CASE_INSENSITIVE_ORDER", type := (.object "java/util/Comparator"), accessFlags := 25, slot := 4, constantValue := 0 }, { name := "LATIN1", type := .byte, accessFlags := 24, slot := 5, constantValue := 0 }, { name := "UTF16", type := .byte, accessFlags := 24, slot := 6, constantValue := 0 }]
  methods := #[k7m0, k7m1, k7m2]
  instanceTypes := #[(.array .byte), .byte, .int, .boolean]
  staticTypes := #[.long, .boolean, (.array (.object "java/io/ObjectStreamField")), .char, (.object "java/util/Comparator"), .byte, .byte]
  resolved := Array.replicate 1451 none
  statics := some 0 }

def pool8 : Array CpInfo := pool [(4, .class_ 6), (1, u "java/lang/Object"), (0, u "<init>"), (0, u "()V"), (5, .class_ 16), (1, u "java/lang/StringLatin1"), (73, u "canEncode"), (14, u "(C)Z"), (15, u "$assertionsDisabled"), (0, u "Z"), (98, .class_ 223), (1, u "java/lang/StringLatin1$LinesSpliterator"), (156, u "toBytes"), (1, u "(C)[B"), (7, .class_ 391), (0, u "java/lang/StringLatin1$CharsSpliterator")] 3

def k8m0 : Method := { name := "<init>", desc := "()V", sig := { parameters := [], returnType := none }, accessFlags := 0, code := none }
def k8c1 : Code := { maxStack := 2, maxLocals := 1, code := jdk_43_method_3_code, exceptionTable := #[], attributes := #[] }
def k8m1 : Method := { name := "canEncode", desc := "(C)Z", sig := { parameters := [.char], returnType := some .boolean }, accessFlags := 9, code := some k8c1 }
def k8c2 : Code := { maxStack := 4, maxLocals := 1, code := jdk_43_method_46_code, exceptionTable := #[], attributes := #[] }
def k8m2 : Method := { name := "toBytes", desc := "(C)[B", sig := { parameters := [.char], returnType := some (.array .byte) }, accessFlags := 9, code := some k8c2 }
/-- java/lang/StringLatin1 -/
def k8 : Class := { plain "java/lang/StringLatin1" (some 0) with
  accessFlags := 48
  interfaces := #[]
  cf := some (fileOf pool8 14 #[.nestMembers #[390, 221]] #[{ accessFlags := 0, nameIndex := 7, descriptorIndex := 8, attributes := #[] }, { accessFlags := 9, nameIndex := 90, descriptorIndex := 105, attributes := #[] }, { accessFlags := 9, nameIndex := 380, descriptorIndex := 382, attributes := #[] }] 48 4 #[] #[{ accessFlags := 4120, nameIndex := 121, descriptorIndex := 122, attributes := #[] }])
  fields := #[{ name := "$assertionsDisabled", type := .boolean, accessFlags := 4120, slot := 0, constantValue := 0 }]
  methods := #[k8m0, k8m1, k8m2]
  instanceTypes := #[]
  staticTypes := #[.boolean]
  resolved := Array.replicate 395 none
  statics := none }

def pool9 : Array CpInfo := pool [(1, .class_ 2), (0, u "com/example/idhini/idhini/Range"), (0, .methodref 4 5), (0, .class_ 6), (0, .nameAndType 7 8), (0, u "java/lang/Object"), (0, u "<init>"), (0, u "()V"), (0, .fieldref 1 10), (0, .nameAndType 11 12), (0, u "low"), (0, u "I"), (0, .fieldref 1 14), (0, .nameAndType 15 12), (0, u "high"), (2, u "TEXT"), (0, u "Ljava/util/regex/Pattern;"), (36, .methodref 1 57), (0, .nameAndType 7 58), (0, u "(II)V"), (0, .integer 500000000), (22, .double 4611686018427387904), (13, u "MAX"), (0, u "J"), (1, u "MAX_MEAN"), (6, u "withMean"), (0, u "(Ljava/lang/String;I)Lcom/example/idhini/idhini/Range;"), (0, u "mean"), (0, u "()D")] 28

def k9c0 : Code := { maxStack := 2, maxLocals := 3, code := prog_64_method_1_code, exceptionTable := #[], attributes := #[] }
def k9m0 : Method := { name := "<init>", desc := "(II)V", sig := { parameters := [.int, .int], returnType := none }, accessFlags := 2, code := some k9c0 }
def k9c1 : Code := { maxStack := 5, maxLocals := 2, code := prog_64_method_3_code, exceptionTable := #[], attributes := #[] }
def k9m1 : Method := { name := "withMean", desc := "(Ljava/lang/String;I)Lcom/example/idhini/idhini/Range;", sig := { parameters := [(.object "java/lang/String"), .int], returnType := some (.object "com/example/idhini/idhini/Range") }, accessFlags := 8, code := some k9c1 }
def k9c2 : Code := { maxStack := 4, maxLocals := 1, code := prog_64_method_5_code, exceptionTable := #[], attributes := #[] }
def k9m2 : Method := { name := "mean", desc := "()D", sig := { parameters := [], returnType := some .double }, accessFlags := 0, code := some k9c2 }
/-- com/example/idhini/idhini/Range -/
def k9 : Class := { plain "com/example/idhini/idhini/Range" (some 0) with
  accessFlags := 32
  interfaces := #[]
  cf := some (fileOf pool9 1 #[] #[{ accessFlags := 2, nameIndex := 7, descriptorIndex := 58, attributes := #[] }, { accessFlags := 8, nameIndex := 106, descriptorIndex := 107, attributes := #[] }, { accessFlags := 0, nameIndex := 108, descriptorIndex := 109, attributes := #[] }] 32 4 #[] #[{ accessFlags := 24, nameIndex := 96, descriptorIndex := 97, attributes := #[] }, { accessFlags := 26, nameIndex := 99, descriptorIndex := 12, attributes := #[] }, { accessFlags := 26, nameIndex := 18, descriptorIndex := 19, attributes := #[] }, { accessFlags := 18, nameIndex := 11, descriptorIndex := 12, attributes := #[] }, { accessFlags := 18, nameIndex := 15, descriptorIndex := 12, attributes := #[] }])
  fields := #[{ name := "MAX", type := .long, accessFlags := 24, slot := 0, constantValue := 0 }, { name := "MAX_MEAN", type := .int, accessFlags := 26, slot := 1, constantValue := 0 }, { name := "TEXT", type := (.object "java/util/regex/Pattern"), accessFlags := 26, slot := 2, constantValue := 0 }, { name := "low", type := .int, accessFlags := 18, slot := 0, constantValue := 0 }, { name := "high", type := .int, accessFlags := 18, slot := 1, constantValue := 0 }]
  methods := #[k9m0, k9m1, k9m2]
  instanceTypes := #[.int, .int]
  staticTypes := #[.long, .int, (.object "java/util/regex/Pattern")]
  resolved := Array.replicate 138 none
  statics := none }

def pool10 : Array CpInfo := pool [(2, .class_ 4), (1, u "java/lang/Object"), (0, u "<init>"), (0, u "()V"), (17, .class_ 26), (1, u "jdk/internal/util/Preconditions"), (28, .class_ 56), (0, u "jdk/internal/util/Preconditions$4"), (57, .class_ 115), (0, u "jdk/internal/util/Preconditions$1"), (7, u "SIOOBE_FORMATTER"), (0, u "Ljava/util/function/BiFunction;"), (0, .class_ 126), (0, u "jdk/internal/util/Preconditions$2"), (3, u "AIOOBE_FORMATTER"), (0, .class_ 132), (0, u "jdk/internal/util/Preconditions$3"), (3, u "IOOBE_FORMATTER")] 57

def k10m0 : Method := { name := "<init>", desc := "()V", sig := { parameters := [], returnType := none }, accessFlags := 1, code := none }
/-- jdk/internal/util/Preconditions -/
def k10 : Class := { plain "jdk/internal/util/Preconditions" (some 0) with
  accessFlags := 33
  interfaces := #[]
  cf := some (fileOf pool10 24 #[.nestMembers #[55, 131, 125, 114]] #[{ accessFlags := 1, nameIndex := 5, descriptorIndex := 6, attributes := #[] }] 33 2 #[] #[{ accessFlags := 25, nameIndex := 123, descriptorIndex := 124, attributes := #[] }, { accessFlags := 25, nameIndex := 130, descriptorIndex := 124, attributes := #[] }, { accessFlags := 25, nameIndex := 136, descriptorIndex := 124, attributes := #[] }])
  fields := #[{ name := "SIOOBE_FORMATTER", type := (.object "java/util/function/BiFunction"), accessFlags := 25, slot := 0, constantValue := 0 }, { name := "AIOOBE_FORMATTER", type := (.object "java/util/function/BiFunction"), accessFlags := 25, slot := 1, constantValue := 0 }, { name := "IOOBE_FORMATTER", type := (.object "java/util/function/BiFunction"), accessFlags := 25, slot := 2, constantValue := 0 }]
  methods := #[k10m0]
  instanceTypes := #[]
  staticTypes := #[(.object "java/util/function/BiFunction"), (.object "java/util/function/BiFunction"), (.object "java/util/function/BiFunction")]
  resolved := Array.replicate 194 none
  statics := some 1 }

def pool11 : Array CpInfo := pool [(9, u "<init>"), (6, .class_ 18), (1, u "java/lang/Object"), (0, u "()V"), (1, .class_ 23), (1, u "jdk/internal/util/ArraysSupport"), (0, u "LOG2_ARRAY_LONG_INDEX_SCALE"), (0, u "I"), (2, u "U"), (0, u "Ljdk/internal/misc/Unsafe;"), (8, u "BIG_ENDIAN"), (0, u "Z"), (8, u "LOG2_BYTE_BIT_SIZE"), (4, u "LOG2_ARRAY_INT_INDEX_SCALE"), (54, u "JLA"), (0, u "Ljdk/internal/access/JavaLangAccess;"), (11, u "LOG2_ARRAY_BOOLEAN_INDEX_SCALE"), (9, u "LOG2_ARRAY_BYTE_INDEX_SCALE"), (5, u "LOG2_ARRAY_CHAR_INDEX_SCALE"), (5, u "LOG2_ARRAY_SHORT_INDEX_SCALE"), (18, u "LOG2_ARRAY_FLOAT_INDEX_SCALE"), (24, u "LOG2_ARRAY_DOUBLE_INDEX_SCALE"), (89, u "T_BOOLEAN"), (2, u "T_CHAR"), (1, u "T_FLOAT"), (1, u "T_DOUBLE"), (1, u "T_BYTE"), (1, u "T_SHORT"), (1, u "T_INT"), (1, u "T_LONG"), (1, u "SOFT_MAX_ARRAY_LENGTH")] 83

def k11m0 : Method := { name := "<init>", desc := "()V", sig := { parameters := [], returnType := none }, accessFlags := 2, code := none }
/-- jdk/internal/util/ArraysSupport -/
def k11 : Class := { plain "jdk/internal/util/ArraysSupport" (some 0) with
  accessFlags := 33
  interfaces := #[]
  cf := some (fileOf pool11 21 #[] #[{ accessFlags := 2, nameIndex := 9, descriptorIndex := 19, attributes := #[] }] 33 16 #[] #[{ accessFlags := 24, nameIndex := 28, descriptorIndex := 29, attributes := #[] }, { accessFlags := 26, nameIndex := 38, descriptorIndex := 39, attributes := #[] }, { accessFlags := 25, nameIndex := 121, descriptorIndex := 25, attributes := #[] }, { accessFlags := 25, nameIndex := 131, descriptorIndex := 25, attributes := #[] }, { accessFlags := 25, nameIndex := 137, descriptorIndex := 25, attributes := #[] }, { accessFlags := 25, nameIndex := 143, descriptorIndex := 25, attributes := #[] }, { accessFlags := 25, nameIndex := 53, descriptorIndex := 25, attributes := #[] }, { accessFlags := 25, nameIndex := 24, descriptorIndex := 25, attributes := #[] }, { accessFlags := 25, nameIndex := 162, descriptorIndex := 25, attributes := #[] }, { accessFlags := 25, nameIndex := 187, descriptorIndex := 25, attributes := #[] }, { accessFlags := 26, nameIndex := 48, descriptorIndex := 25, attributes := #[] }, { accessFlags := 25, nameIndex := 277, descriptorIndex := 25, attributes := #[] }, { accessFlags := 25, nameIndex := 280, descriptorIndex := 25, attributes := #[] }, { accessFlags := 25, nameIndex := 282, descriptorIndex := 25, attributes := #[] }, { accessFlags := 25, nameIndex := 284, descriptorIndex := 25, attributes := #[] }, { accessFlags := 25, nameIndex := 286, descriptorIndex := 25, attributes := #[] }, { accessFlags := 25, nameIndex := 288, descriptorIndex := 25, attributes := #[] }, { accessFlags := 25, nameIndex := 290, descriptorIndex := 25, attributes := #[] }, { accessFlags := 25, nameIndex := 292, descriptorIndex := 25, attributes := #[] }, { accessFlags := 26, nameIndex := 108, descriptorIndex := 109, attributes := #[] }, { accessFlags := 25, nameIndex := 294, descriptorIndex := 25, attributes := #[] }])
  fields := #[{ name := "U", type := (.object "jdk/internal/misc/Unsafe"), accessFlags := 24, slot := 0, constantValue := 0 }, { name := "BIG_ENDIAN", type := .boolean, accessFlags := 26, slot := 1, constantValue := 0 }, { name := "LOG2_ARRAY_BOOLEAN_INDEX_SCALE", type := .int, accessFlags := 25, slot := 2, constantValue := 0 }, { name := "LOG2_ARRAY_BYTE_INDEX_SCALE", type := .int, accessFlags := 25, slot := 3, constantValue := 0 }, { name := "LOG2_ARRAY_CHAR_INDEX_SCALE", type := .int, accessFlags := 25, slot := 4, constantValue := 0 }, { name := "LOG2_ARRAY_SHORT_INDEX_SCALE", type := .int, accessFlags := 25, slot := 5, constantValue := 0 }, { name := "LOG2_ARRAY_INT_INDEX_SCALE", type := .int, accessFlags := 25, slot := 6, constantValue := 0 }, { name := "LOG2_ARRAY_LONG_INDEX_SCALE", type := .int, accessFlags := 25, slot := 7, constantValue := 0 }, { name := "LOG2_ARRAY_FLOAT_INDEX_SCALE", type := .int, accessFlags := 25, slot := 8, constantValue := 0 }, { name := "LOG2_ARRAY_DOUBLE_INDEX_SCALE", type := .int, accessFlags := 25, slot := 9, constantValue := 0 }, { name := "LOG2_BYTE_BIT_SIZE", type := .int, accessFlags := 26, slot := 10, constantValue := 0 }, { name := "T_BOOLEAN", type := .int, accessFlags := 25, slot := 11, constantValue := 0 }, { name := "T_CHAR", type := .int, accessFlags := 25, slot := 12, constantValue := 0 }, { name := "T_FLOAT", type := .int, accessFlags := 25, slot := 13, constantValue := 0 }, { name := "T_DOUBLE", type := .int, accessFlags := 25, slot := 14, constantValue := 0 }, { name := "T_BYTE", type := .int, accessFlags := 25, slot := 15, constantValue := 0 }, { name := "T_SHORT", type := .int, accessFlags := 25, slot := 16, constantValue := 0 }, { name := "T_INT", type := .int, accessFlags := 25, slot := 17, constantValue := 0 }, { name := "T_LONG", type := .int, accessFlags := 25, slot := 18, constantValue := 0 }, { name := "JLA", type := (.object "jdk/internal/access/JavaLangAccess"), accessFlags := 26, slot := 19, constantValue := 0 }, { name := "SOFT_MAX_ARRAY_LENGTH", type := .int, accessFlags := 25, slot := 20, constantValue := 0 }]
  methods := #[k11m0]
  instanceTypes := #[]
  staticTypes := #[(.object "jdk/internal/misc/Unsafe"), .boolean, .int, .int, .int, .int, .int, .int, .int, .int, .int, .int, .int, .int, .int, .int, .int, .int, .int, (.object "jdk/internal/access/JavaLangAccess"), .int]
  resolved := Array.replicate 378 none
  statics := none }

def pool12 : Array CpInfo := pool [(1, u "java/lang/Cloneable"), (0, .class_ 1), (0, u "java/lang/Object"), (0, .class_ 3)] 3

/-- java/lang/Cloneable -/
def k12 : Class := { plain "java/lang/Cloneable" (some 0) with
  accessFlags := 1537
  interfaces := #[]
  cf := some (fileOf pool12 2 #[] #[] 1537 4 #[] #[])
  fields := #[]
  methods := #[]
  instanceTypes := #[]
  staticTypes := #[]
  resolved := Array.replicate 8 none
  statics := none }

/-- the primitive byte -/
def k13 : Class := { plain "byte" none with kind := .primitive 'B', accessFlags := 0x411 }
/-- [B -/
def k14 : Class := { plain "[B" (some 0) with kind := .array 13 .byte, interfaces := #[12, 2], accessFlags := 1041 }

/-- the primitive int -/
def k15 : Class := { plain "int" none with kind := .primitive 'I', accessFlags := 0x411 }
/-- [I -/
def k16 : Class := { plain "[I" (some 0) with kind := .array 15 .int, interfaces := #[12, 2], accessFlags := 1041 }

def heap : Heap := #[{ cls := 7, slots := #[.long 0, .int 1, .null, .int 0, .null, .int 0, .int 0], vm := .statics 7 },
  { cls := 10, slots := #[.null, .null, .null], vm := .statics 10 }]
def classes : Array Class := #[k0, k1, k2, k3, k4, k5, k6, k7, k8, k9, k10, k11, k12, k13, k14, k15, k16]
def interned : List (Array UInt16 × Addr) := []
def slotsUsed : Nat := 10
def theMethod : MethodId := ⟨1, 1⟩
def args0 : Array Value := #[.int 5, .int 7]
def aboutOver (below : List Frame) : State where
  vm := { classes := classes, interned := interned.toArray }
  heap := heap
  slotsUsed := slotsUsed
  threads := #[{ frames := .invoking theMethod args0 :: below }]
def below0 : List Frame := [.native { method := ⟨0, 0⟩, args := #[] }]
def about1 : State := aboutOver below0
def p0 : Program := .bare "" "" ""
def e0 : Env := launch0.env 0 0 0
theorem w_frames : about1.frames = Frame.invoking theMethod args0 :: below0 := rfl
set_option maxRecDepth 65536 in
theorem w_args : argsFit about1.vm theMethod args0 = true := by decide +kernel
set_option maxRecDepth 65536 in
theorem w_heap : heapFits about1 = true := by decide +kernel
set_option maxRecDepth 65536 in
theorem w_runnable : about1.curStatus? = some .runnable := by decide +kernel
set_option maxRecDepth 65536 in
theorem w_alone : about1.alone = true := by decide +kernel
set_option maxRecDepth 65536 in
theorem w_named : about1.methodNamed? x = some theMethod := by decide +kernel
set_option maxRecDepth 65536 in
theorem w_hears : about1.hears theMethod below0 = true := by decide +kernel
set_option maxRecDepth 65536 in
theorem w_ripe : about1.ripe theMethod args0 below0 = true := by decide +kernel
theorem w_running : about1.status = .running := rfl
set_option maxRecDepth 65536 in
theorem w_room : about1.hasRoom e0.platform room_1 = true :=
  launch0.hasRoom_least _ room_1 (by decide +kernel) (by decide +kernel) (by decide +kernel) (by decide +kernel) (by decide +kernel) (by decide +kernel)
theorem allAtoms_all (ts : List Jvm.Cond) (a : Array Jvm.Value) (st : Jvm.State) : (allAtoms ts).before a st = ts.all (fun c => c.before a st) := by
  induction ts with
  | nil => rfl
  | cons c t ih =>
    show (Jvm.Cond.and c (allAtoms t)).before a st = _
    rw [Jvm.Cond.before_and, ih, List.all_cons]
def words1 : List Jvm.Cond := Jvm.Cond.code x code maxLocals ret :: tables_1
/-- a 'code' word, met by the world's own term for the bytes: nothing is compared byte by byte -/
theorem code_word {y : MethodName} {bytes : ByteArray} {mx : Nat} {rt : Option FieldType} {a : Array Value} {s : State} {m : MethodId} {meth : Method} {c : Code} (h1 : s.methodNamed? y = some m) (h2 : s.vm.method? m = some meth) (h3 : meth.code = some c) (h4 : c.code = bytes)
    (h5 : (c.maxLocals == mx && c.exceptionTable.isEmpty && decide (c.maxStack ≤ mostOperands) && decide (meth.sig.returnType = rt) && !meth.locks && decide (parseMethodDescriptor y.desc = some meth.sig)) = true) : (Jvm.Cond.code y bytes mx rt).before a s = true := by
  simp only [Bool.and_eq_true, beq_iff_eq, Bool.not_eq_true', decide_eq_true_eq] at h5
  obtain ⟨⟨⟨⟨⟨g1, g2⟩, g3⟩, g4⟩, g5⟩, g6⟩ := h5
  simp [Cond.before, Cond.holds, Cond.value, h1, h2, h3, h4, g1, g2, g3, g4, g5, g6]
def isCode : Jvm.Cond → Bool
  | .code _ _ _ _ => true
  | _ => false
theorem all_split {L : List Jvm.Cond} {P : Jvm.Cond → Bool} (h1 : L.all (fun c => isCode c || P c) = true) (h2 : ∀ c ∈ L.filter isCode, P c = true) : L.all P = true := by
  refine List.all_eq_true.mpr fun c hc => ?_
  have h := List.all_eq_true.mp h1 c hc
  rcases Bool.eq_false_or_eq_true (isCode c) with hi | hi
  · exact h2 c (List.mem_filter.mpr ⟨hc, hi⟩)
  · simpa [hi] using h
set_option maxRecDepth 65536 in
theorem w_c0 : (Jvm.Cond.code x code maxLocals ret).before args0 about1 = true := code_word (m := ⟨1, 1⟩) (meth := k1m1) (c := k1c1) (by decide +kernel) rfl rfl rfl (by decide +kernel)
set_option maxRecDepth 65536 in
theorem w_c1 : (Jvm.Cond.code ({ cls := "java/lang/String", name := "valueOf", desc := "(C)Ljava/lang/String;" } : Jvm.MethodName) jdk_42_method_139_code (1 : Nat) (Option.some (Jvm.ClassFile.FieldType.object "java/lang/String"))).before args0 about1 = true := code_word (m := ⟨7, 1⟩) (meth := k7m1) (c := k7c1) (by decide +kernel) rfl rfl rfl (by decide +kernel)
set_option maxRecDepth 65536 in
theorem w_c2 : (Jvm.Cond.code ({ cls := "java/lang/StringLatin1", name := "canEncode", desc := "(C)Z" } : Jvm.MethodName) jdk_43_method_3_code (1 : Nat) (Option.some Jvm.ClassFile.FieldType.boolean)).before args0 about1 = true := code_word (m := ⟨8, 1⟩) (meth := k8m1) (c := k8c1) (by decide +kernel) rfl rfl rfl (by decide +kernel)
set_option maxRecDepth 65536 in
theorem w_c3 : (Jvm.Cond.code ({ cls := "java/lang/StringLatin1", name := "toBytes", desc := "(C)[B" } : Jvm.MethodName) jdk_43_method_46_code (1 : Nat) (Option.some (Jvm.ClassFile.FieldType.array Jvm.ClassFile.FieldType.byte))).before args0 about1 = true := code_word (m := ⟨8, 2⟩) (meth := k8m2) (c := k8c2) (by decide +kernel) rfl rfl rfl (by decide +kernel)
set_option maxRecDepth 65536 in
theorem w_c4 : (Jvm.Cond.code ({ cls := "java/lang/String", name := "<init>", desc := "([BB)V" } : Jvm.MethodName) jdk_42_method_151_code (3 : Nat) (Option.none : Option Jvm.ClassFile.FieldType)).before args0 about1 = true := code_word (m := ⟨7, 2⟩) (meth := k7m2) (c := k7c2) (by decide +kernel) rfl rfl rfl (by decide +kernel)
set_option maxRecDepth 65536 in
theorem w_c5 : (Jvm.Cond.code ({ cls := "java/lang/Object", name := "<init>", desc := "()V" } : Jvm.MethodName) object_method_1_code (1 : Nat) (Option.none : Option Jvm.ClassFile.FieldType)).before args0 about1 = true := code_word (m := ⟨0, 0⟩) (meth := k0m0) (c := k0c0) (by decide +kernel) rfl rfl rfl (by decide +kernel)
set_option maxRecDepth 65536 in
theorem w_c6 : (Jvm.Cond.code ({ cls := "com/example/idhini/idhini/Range", name := "withMean", desc := "(Ljava/lang/String;I)Lcom/example/idhini/idhini/Range;" } : Jvm.MethodName) prog_64_method_3_code (2 : Nat) (Option.some (Jvm.ClassFile.FieldType.object "com/example/idhini/idhini/Range"))).before args0 about1 = true := code_word (m := ⟨9, 1⟩) (meth := k9m1) (c := k9c1) (by decide +kernel) rfl rfl rfl (by decide +kernel)
set_option maxRecDepth 65536 in
theorem w_c7 : (Jvm.Cond.code ({ cls := "com/example/idhini/idhini/Range", name := "<init>", desc := "(II)V" } : Jvm.MethodName) prog_64_method_1_code (3 : Nat) (Option.none : Option Jvm.ClassFile.FieldType)).before args0 about1 = true := code_word (m := ⟨9, 0⟩) (meth := k9m0) (c := k9c0) (by decide +kernel) rfl rfl rfl (by decide +kernel)
set_option maxRecDepth 65536 in
theorem w_c8 : (Jvm.Cond.code ({ cls := "com/example/idhini/idhini/Range", name := "mean", desc := "()D" } : Jvm.MethodName) prog_64_method_5_code (1 : Nat) (Option.some Jvm.ClassFile.FieldType.double)).before args0 about1 = true := code_word (m := ⟨9, 2⟩) (meth := k9m2) (c := k9c2) (by decide +kernel) rfl rfl rfl (by decide +kernel)
def codes1 : List Jvm.Cond := [Jvm.Cond.code x code maxLocals ret, Jvm.Cond.code ({ cls := "java/lang/String", name := "valueOf", desc := "(C)Ljava/lang/String;" } : Jvm.MethodName) jdk_42_method_139_code (1 : Nat) (Option.some (Jvm.ClassFile.FieldType.object "java/lang/String")), Jvm.Cond.code ({ cls := "java/lang/StringLatin1", name := "canEncode", desc := "(C)Z" } : Jvm.MethodName) jdk_43_method_3_code (1 : Nat) (Option.some Jvm.ClassFile.FieldType.boolean), Jvm.Cond.code ({ cls := "java/lang/StringLatin1", name := "toBytes", desc := "(C)[B" } : Jvm.MethodName) jdk_43_method_46_code (1 : Nat) (Option.some (Jvm.ClassFile.FieldType.array Jvm.ClassFile.FieldType.byte)), Jvm.Cond.code ({ cls := "java/lang/String", name := "<init>", desc := "([BB)V" } : Jvm.MethodName) jdk_42_method_151_code (3 : Nat) (Option.none : Option Jvm.ClassFile.FieldType), Jvm.Cond.code ({ cls := "java/lang/Object", name := "<init>", desc := "()V" } : Jvm.MethodName) object_method_1_code (1 : Nat) (Option.none : Option Jvm.ClassFile.FieldType), Jvm.Cond.code ({ cls := "com/example/idhini/idhini/Range", name := "withMean", desc := "(Ljava/lang/String;I)Lcom/example/idhini/idhini/Range;" } : Jvm.MethodName) prog_64_method_3_code (2 : Nat) (Option.some (Jvm.ClassFile.FieldType.object "com/example/idhini/idhini/Range")), Jvm.Cond.code ({ cls := "com/example/idhini/idhini/Range", name := "<init>", desc := "(II)V" } : Jvm.MethodName) prog_64_method_1_code (3 : Nat) (Option.none : Option Jvm.ClassFile.FieldType), Jvm.Cond.code ({ cls := "com/example/idhini/idhini/Range", name := "mean", desc := "()D" } : Jvm.MethodName) prog_64_method_5_code (1 : Nat) (Option.some Jvm.ClassFile.FieldType.double)]
set_option maxRecDepth 65536 in
theorem codes_eq : words1.filter isCode = codes1 := rfl
theorem w_codes : ∀ c ∈ words1.filter isCode, c.before args0 about1 = true := by
  rw [codes_eq]
  intro c hc
  simp only [codes1, List.mem_cons, List.not_mem_nil, or_false] at hc
  rcases hc with rfl | rfl | rfl | rfl | rfl | rfl | rfl | rfl | rfl
  · exact w_c0
  · exact w_c1
  · exact w_c2
  · exact w_c3
  · exact w_c4
  · exact w_c5
  · exact w_c6
  · exact w_c7
  · exact w_c8
set_option maxRecDepth 65536 in
theorem w_t1 : (words1.take 24).all (fun c => isCode c || c.before args0 about1) = true := by decide +kernel
set_option maxRecDepth 65536 in
theorem w_t2 : ((words1.drop 24).take 24).all (fun c => isCode c || c.before args0 about1) = true := by decide +kernel
set_option maxRecDepth 65536 in
theorem w_t3 : ((words1.drop 24).drop 24).all (fun c => isCode c || c.before args0 about1) = true := by decide +kernel
theorem w_tables : (allAtoms (Jvm.Cond.code x code maxLocals ret :: tables_1)).before args0 about1 = true := by
  rw [allAtoms_all]
  show words1.all (fun c => c.before args0 about1) = true
  refine all_split ?_ w_codes
  rw [← List.take_append_drop 24 words1, List.all_append, w_t1, ← List.take_append_drop 24 (words1.drop 24), List.all_append, w_t2, w_t3]
  rfl
set_option maxRecDepth 65536 in
theorem w_rest : rest_1_c.before args0 about1 = true := by decide +kernel
set_option maxRecDepth 65536 in
theorem w_case : (Jvm.Cond.and given_1 narrow_1).before args0 about1 = true := by decide +kernel
theorem w_applies : (headSpec (Jvm.Cond.code x code maxLocals ret :: tables_1) room_1).applies x e0.platform about1 = true :=
  (Spec.applies_iff w_frames).mpr ⟨w_running, w_runnable, w_alone, w_named, w_hears, w_ripe, w_room, w_tables⟩
theorem atStart : AtStart classFile x code maxLocals ret World_1 tables_1 room_1 Calls_1 rest_1 Pre_1 launch0 p0 e0 about1 theMethod args0 below0 :=
  ⟨lists_1, trivial, launch0.admits_env _ _ _, launch0.least_env, fairChoices_fair.cas, fairChoices_fair.clock, w_frames, w_args, w_heap, w_applies, trivial, w_rest, w_case⟩
end start1
theorem witness_1 : WitnessClaimed_1 := ⟨start1.p0, start1.e0, start1.about1, start1.theMethod, start1.args0, start1.below0, start1.atStart⟩
end Jvm.Pilot.@@N@@
