import JvmDerived
import JvmDerived.Pilot.@@N@@Statement
import JvmDerived.Pilot.@@N@@Code
set_option linter.unusedVariables false
set_option linter.unusedSimpArgs false
@@BLOCK:NumsL.lean.txt@@
namespace Jvm.Pilot.@@N@@
open Jvm Jvm.ClassFile Sem Op Lib Jvm.Free Jvm.Stand Jvm.LawKit Jvm.RoadKit Bundle Jvm.Pilot.@@N@@.Jvm.D
theorem own_w {Z : State} {a0 : Array Value} (hw : ∀ d ∈ tables_1, d.before a0 Z = true) (i : Nat) {d : Jvm.Cond} (h : tables_1[i]? = some d) : d.before a0 Z = true := hw _ (List.mem_of_getElem? h)
/-! own layer: a body's rest as one predicate (OFin), a contract (OMet), calls that give the plain facts back -/
def OFin (p : Program) (e : Env) (below : List Frame) (s : State) (kc ks : Nat) (Q : Option Value → Heap → List Loc → Prop) (S : State) : Prop :=
  ∃ s₂ o, Steps p.tables e below S s₂ ∧ s₂.status = .running ∧ Ended s₂ below o ∧ ∃ v L, o = .returned v ∧ Q v s₂.heap L ∧ FrameEnd s o s₂ L kc ks
def OMet (l : Launch) (Z : State) (y : MethodName) (bytes : ByteArray) (maxL : Nat) (ret : Option FieldType) (rm : Room) (as' : Array Value) (h0 : Heap) (Q : Option Value → Heap → List Loc → Prop) : Prop :=
  ∀ ws : List Jvm.Cond, MetFree l y (head1 (Jvm.Cond.code y bytes maxL ret :: ws) rm) (fun a U => a = as' ∧ Z.Warmed39 U.vm ∧ U.heap = h0) (fun _ _ _ _ _ => True) (fun _ U o U' => ∃ v L, o = .returned v ∧ Q v U'.heap L ∧ FrameEnd U o U' L rm.cells rm.slots)
def OCtx (Z : State) (p : Program) (s : State) (m : MethodId) (meth : Method) (c : Code) (cls nam : String) (bytes : ByteArray) (maxL : Nat) (ret : Option FieldType) : Prop :=
  p.tables.exec = Jvm.exec ∧ Z.Warmed39 s.vm ∧ c.code = bytes ∧ c.maxLocals = maxL ∧ s.vm.findClass cls = some m.cls ∧ meth.sig.returnType = ret ∧ meth.locks = false ∧ meth.name = nam
section OwnLayer
variable {p : Program} {l : Launch} {e : Env} {R : Room} {s : State} {m : MethodId} {args : Array Value} {below : List Frame} {meth : Method} {c : Code} {T : State} {locs : List Loc} {cells slots : Nat} {Z : State} {a0 : Array Value} {h : Heap}
variable {kc ks : Nat} {Q : Option Value → Heap → List Loc → Prop}
theorem own_st {A B : State} (hs : ∀ t, Steps p.tables e below B t → Steps p.tables e below A t) (k : OFin p e below s kc ks Q B) : OFin p e below s kc ks Q A := by
  obtain ⟨s₂, o, h1, r⟩ := k; exact ⟨s₂, o, hs _ h1, r⟩
theorem own_at {g g' : JFrame} (q : g = g') (k : OFin p e below s kc ks Q (T.setTop g')) : OFin p e below s kc ks Q (T.setTop g) := q ▸ k
theorem own_mono {Q' : Option Value → Heap → List Loc → Prop} {S : State} (k : OFin p e below s kc ks Q S) (q : ∀ v h L, Q v h L → Q' v h L) : OFin p e below s kc ks Q' S := by
  obtain ⟨s₂, o, h1, h2, h3, v, L, h4, h5, h6⟩ := k; exact ⟨s₂, o, h1, h2, h3, v, L, h4, q _ _ _ h5, h6⟩
theorem own_enter {y : MethodName} {bytes : ByteArray} {maxL : Nat} {ret : Option FieldType} {rm : Room} {as' : Array Value} {h0 : Heap} (hp : plainFor y = true)
    (hB : ∀ (p : Program) (e : Env) (s : State) (m : MethodId) (below : List Frame) (meth : Method) (c : Code) (T : State), Stand p l e rm s m as' below meth c T [] 0 0 → OCtx Z p s m meth c y.cls y.name bytes maxL ret → T.heap = h0 → OFin p e below s rm.cells rm.slots Q (T.setTop (entryFrame m as' maxL))) :
    OMet l Z y bytes maxL ret rm as' h0 Q := by
  intro ws
  refine MetFree.of_bodySF hp hisR ?_
  intro p e s m args below meth c s₁ Bd hml0 hP hK
  obtain ⟨rfl, hZ, hh⟩ := hP
  exact hB p e s m below meth c s₁ (Stand.of_body Bd) ⟨Bd.exec, hZ, Bd.bytes, hml0, findClass_of_methodNamed Bd.named, Bd.returns, BodyLoose.notSynchronized Bd, (name_of_methodNamed Bd.named Bd.method).1⟩ (by rw [← hh, Bd.state]; rfl)
theorem own_ret (X : Stand p l e R s m args below meth c T locs cells slots) (hx : p.tables.exec = Jvm.exec) {t : FieldType} (hret : meth.sig.returnType = some t) (hlk : meth.locks = false) {pc : Nat} {Ls : Array Slot} {w : Value} {i : Instr} {rest : List Value} (hn : narrow t w = w)
    (hi : (i = .ireturn ∧ (t = .int ∨ t = .boolean ∨ t = .byte ∨ t = .char ∨ t = .short) ∧ ∃ z, w = .int z) ∨ (i = .lreturn ∧ t = .long ∧ ∃ z, w = .long z) ∨ (i = .dreturn ∧ t = .double ∧ ∃ z, w = .double z) ∨ (i = .freturn ∧ t = .float ∧ ∃ z, w = .float z) ∨ (i = .areturn ∧ t.isReference = true ∧ w.isRef = true))
    (hd : decode c.code pc = .ok (i, 1)) (hc : cells ≤ kc) (hs : slots ≤ ks) (hq : Q (some w) T.heap locs) : OFin p e below s kc ks Q (T.setTop (mkF m pc Ls (w :: rest))) := by
  obtain ⟨fs, hr, hrun, hended, hW, hsame⟩ := X.leave (v := some w) (fun h => by rw [hret] at h; cases h) hlk
  exact ⟨_, _, retOut X hx hret hn hi hd hr, hrun, hended, _, _, rfl, hq, ⟨_, rfl⟩, hW, hsame.mono hc hs⟩
theorem own_retV (X : Stand p l e R s m args below meth c T locs cells slots) (hx : p.tables.exec = Jvm.exec) (hret : meth.sig.returnType = none) (hlk : meth.locks = false) {pc : Nat} {Ls : Array Slot}
    (hd : decode c.code pc = .ok (.return_, 1)) (hc : cells ≤ kc) (hs : slots ≤ ks) (hq : Q none T.heap locs) : OFin p e below s kc ks Q (T.setTop (mkF m pc Ls [])) := by
  obtain ⟨fs, hr, hrun, hended, hW, hsame⟩ := X.leave (v := none) (fun _ => rfl) hlk
  exact ⟨_, _, X.returnOut hx hret hd hr, hrun, hended, _, _, rfl, hq, ⟨_, rfl⟩, hW, hsame.mono hc hs⟩
theorem own_back {y : MethodName} {bytes : ByteArray} {maxL : Nat} {ret : Option FieldType} {rm : Room} {len W : Nat} {as' : Array Value} (hM : OMet l Z y bytes maxL ret rm as' h Q) (hZ : Z.Warmed39 s.vm) (wc : (Jvm.Cond.code y bytes maxL ret).before a0 Z = true) (wz : (Jvm.Cond.initialized y.cls).before a0 Z = true) (hf : rm.frames + 1 ≤ R.frames) (hl : W + (maxL + 11) + rm.locals ≤ R.locals) :
    Back l R p e below s args y len W (fun A a => a = as' ∧ A.U.heap = h ∧ A.cells + rm.cells ≤ R.cells ∧ A.slots + rm.slots ≤ R.slots)
      (fun A _ v B => ∃ L, Q v B.U.heap L ∧ B.locs = A.locs ++ L ∧ B.cells = A.cells + rm.cells ∧ B.slots = A.slots + rm.slots) := backOf (hM []) hZ wc wz hf hl
theorem own_static (X : Stand p l e R s m args below meth c T locs cells slots) (hx : p.tables.exec = Jvm.exec) (hZ : Z.Warmed39 s.vm) {own : String} {index : Nat} {y : MethodName} {bytes : ByteArray} {maxL : Nat} {ret : Option FieldType} {rm : Room} {W : Nat} {argsL rest : List Value}
    (hown : s.vm.findClass own = some m.cls) (w1 : (Jvm.Cond.methodLink own index y).before a0 Z = true) (w2 : (Jvm.Cond.static y).before a0 Z = true) (wz : (Jvm.Cond.initialized y.cls).before a0 Z = true) (wc : (Jvm.Cond.code y bytes maxL ret).before a0 Z = true)
    (hM : OMet l Z y bytes maxL ret rm argsL.toArray h Q) (eT : T.heap = h) {g : JFrame} (hg : g.method = m) (hsize : g.locals.size = c.maxLocals) (hlen : ∀ sig, parseMethodDescriptor y.desc = some sig → argsL.length = sig.parameters.length)
    (hstack : g.stack = argsL.reverse ++ rest) (hW : 2 * g.monitorRoom + (rest.map fun v => v.category).sum ≤ W) (hdg : decode c.code g.pc = .ok (.invokestatic index, 3))
    (hf : rm.frames + 1 ≤ R.frames) (hl : W + (maxL + 11) + rm.locals ≤ R.locals) (hc : cells + rm.cells ≤ R.cells) (hs : slots + rm.slots ≤ R.slots)
    (hy : y.cls ≠ "java/lang/invoke/MethodHandle" ∧ y.cls ≠ "java/lang/invoke/VarHandle" := by decide) :
    ∃ (v : Option Value) (T' : State) (L : List Loc), Stand p l e R s m args below meth c T' (locs ++ L) (cells + rm.cells) (slots + rm.slots) ∧ Q v T'.heap L ∧
      ∀ target, Steps p.tables e below (T'.setTop { g with pc := g.pc + 3, stack := v.toList ++ rest }) target → Steps p.tables e below (T.setTop g) target := by
  obtain ⟨v, vm₁, ⟨T', L', k', n'⟩, -, X', ⟨L, hQ, l1, y1, z1⟩, st⟩ := Jvm.LawKit.callS X hx hown (mvT hZ w1) (mvT hZ w2) (mvT hZ wz) (mvT hZ wc) hy (own_back (W := W) hM hZ wc wz hf hl) hg hsize hlen hstack hW hdg (fun _ _ => ⟨rfl, eT, hc, hs⟩)
  dsimp only [Pt.U, Pt.locs, Pt.cells, Pt.slots] at X' l1 y1 z1 st hQ
  subst l1 y1 z1
  exact ⟨v, T', L, X', hQ, st⟩
theorem own_init (X : Stand p l e R s m args below meth c T locs cells slots) (hx : p.tables.exec = Jvm.exec) (hZ : Z.Warmed39 s.vm) {own : String} {index : Nat} {y : MethodName} {bytes : ByteArray} {maxL : Nat} {rm : Room} {W : Nat} {a : Addr} {argsL rest : List Value} (hy1 : y.name = "<init>")
    (hown : s.vm.findClass own = some m.cls) (w1 : (Jvm.Cond.methodLink own index y).before a0 Z = true) (w2 : (Jvm.Cond.instanceMethod y).before a0 Z = true) (wz : (Jvm.Cond.initialized y.cls).before a0 Z = true) (wc : (Jvm.Cond.code y bytes maxL none).before a0 Z = true)
    (hM : OMet l Z y bytes maxL none rm (.ref a :: argsL).toArray h Q) (eT : T.heap = h) {g : JFrame} (hg : g.method = m) (hsize : g.locals.size = c.maxLocals) (hlen : ∀ sig, parseMethodDescriptor y.desc = some sig → argsL.length = sig.parameters.length)
    (hstack : g.stack = argsL.reverse ++ .ref a :: rest) (hW : 2 * g.monitorRoom + (rest.map fun v => v.category).sum ≤ W) (hdg : decode c.code g.pc = .ok (.invokespecial index, 3))
    (hf : rm.frames + 1 ≤ R.frames) (hl : W + (maxL + 11) + rm.locals ≤ R.locals) (hc : cells + rm.cells ≤ R.cells) (hs : slots + rm.slots ≤ R.slots)
    (hy : y.cls ≠ "java/lang/invoke/MethodHandle" ∧ y.cls ≠ "java/lang/invoke/VarHandle" := by decide) :
    ∃ (v : Option Value) (T' : State) (L : List Loc), Stand p l e R s m args below meth c T' (locs ++ L) (cells + rm.cells) (slots + rm.slots) ∧ Q v T'.heap L ∧
      ∀ target, Steps p.tables e below (T'.setTop { g with pc := g.pc + 3, stack := v.toList ++ rest }) target → Steps p.tables e below (T.setTop g) target := by
  obtain ⟨v, vm₁, ⟨T', L', k', n'⟩, -, X', ⟨L, hQ, l1, y1, z1⟩, st⟩ := X.specialBack hx hy1 hown (mvT hZ w1) (mvT hZ w2) (mvT hZ wc) hy (own_back (W := W) hM hZ wc wz hf hl) hg hsize (Steps.refl _) hlen hstack hW hdg (fun _ _ => ⟨rfl, eT, hc, hs⟩)
  dsimp only [Pt.U, Pt.locs, Pt.cells, Pt.slots] at X' l1 y1 z1 st hQ
  subst l1 y1 z1
  exact ⟨v, T', L, X', hQ, fun t k => st.trans k⟩
theorem own_virtual (X : Stand p l e R s m args below meth c T locs cells slots) (hx : p.tables.exec = Jvm.exec) (hZ : Z.Warmed39 s.vm) {own C : String} {index : Nat} {y z : MethodName} {bytes : ByteArray} {maxL : Nat} {ret : Option FieldType} {rm : Room} {W : Nat} {a : Addr} {argsL rest : List Value}
    (hown : s.vm.findClass own = some m.cls) (w1 : (Jvm.Cond.methodLink own index y).before a0 Z = true) (w2 : (Jvm.Cond.declares y).before a0 Z = true) (hnf : NotFace s y) (w3 : (Jvm.Cond.selects C y z).before a0 Z = true) (w4 : (Jvm.Cond.instanceMethod z).before a0 Z = true) (wz : (Jvm.Cond.initialized z.cls).before a0 Z = true) (wc : (Jvm.Cond.code z bytes maxL ret).before a0 Z = true)
    (hM : OMet l Z z bytes maxL ret rm (.ref a :: argsL).toArray h Q) (eT : T.heap = h) (E : Exa Z h a C) {g : JFrame} (hg : g.method = m) (hsize : g.locals.size = c.maxLocals) (hlen : ∀ sig, parseMethodDescriptor y.desc = some sig → argsL.length = sig.parameters.length)
    (hstack : g.stack = argsL.reverse ++ .ref a :: rest) (hW : 2 * g.monitorRoom + (rest.map fun v => v.category).sum ≤ W) (hdg : decode c.code g.pc = .ok (.invokevirtual index, 3))
    (hf : rm.frames + 1 ≤ R.frames) (hl : W + (maxL + 11) + rm.locals ≤ R.locals) (hc : cells + rm.cells ≤ R.cells) (hs : slots + rm.slots ≤ R.slots)
    (hy : y.cls ≠ "java/lang/invoke/MethodHandle" ∧ y.cls ≠ "java/lang/invoke/VarHandle" := by decide) :
    ∃ (v : Option Value) (T' : State) (L : List Loc), Stand p l e R s m args below meth c T' (locs ++ L) (cells + rm.cells) (slots + rm.slots) ∧ Q v T'.heap L ∧
      ∀ target, Steps p.tables e below (T'.setTop { g with pc := g.pc + 3, stack := v.toList ++ rest }) target → Steps p.tables e below (T.setTop g) target := by
  obtain ⟨cq, kq, qa, qb, qc⟩ := isOf hZ eT E
  obtain ⟨v, vm₁, ⟨T', L', k', n'⟩, -, X', ⟨L, hQ, l1, y1, z1⟩, st⟩ := X.virtualBack hx hown (mvT hZ w1) (mvT hZ w2) hnf (mvT hZ w3) (mvT hZ w4) hy (own_back (W := W) hM hZ wc wz hf hl) qa qc hg hsize (Steps.refl _) hlen hstack hW hdg (fun _ _ => ⟨rfl, eT, hc, hs⟩)
  dsimp only [Pt.U, Pt.locs, Pt.cells, Pt.slots] at X' l1 y1 z1 st hQ
  subst l1 y1 z1
  exact ⟨v, T', L, X', hQ, fun t k => st.trans k⟩
end OwnLayer
/-! own layer 2: an array as a function of the place -/
def OArr (Z : State) (h : Heap) (a : Addr) (ty : FieldType) (N : Nat) (f : Nat → Value) : Prop := ∃ c : Cell, Arr Z h a c ty ∧ c.slots.size = N ∧ N < 2 ^ 31 ∧ ∀ i, i < N → c.slots[i]? = some (f i)
section OwnArr
variable {Z : State} {h h' : Heap} {a b : Addr} {ty : FieldType} {N : Nat} {f : Nat → Value} {ws : List Addr} {sl : Nat} {v : Value}
theorem OArr.lt (F : OArr Z h a ty N f) : a < h.size := by obtain ⟨c, A, -⟩ := F; exact A.lt
theorem OArr.ext (F : OArr Z h a ty N f) (E : Ext h h') : OArr Z h' a ty N f := by obtain ⟨c, A, r⟩ := F; exact ⟨c, A.ext E, r⟩
theorem OArr.other (F : OArr Z h b ty N f) (W : Wr h h' a sl v) (q : b ≠ a) : OArr Z h' b ty N f := by obtain ⟨c, A, r⟩ := F; exact ⟨c, A.other W q, r⟩
theorem OArr.keep (F : OArr Z h a ty N f) (K : Keep h h' ws) (q : a ∉ ws) : OArr Z h' a ty N f := by obtain ⟨c, A, r⟩ := F; exact ⟨c, ⟨K.2.1 a c A.1 q, A.2⟩, r⟩
theorem OArr.set (F : OArr Z h a ty N f) {j : Nat} (W : Wr h h' a j v) : OArr Z h' a ty N (fun i => if i = j then v else f i) := by
  obtain ⟨c, A, S, B, H⟩ := F
  refine ⟨_, A.same W, by rw [sz_set]; exact S, B, fun i hi => ?_⟩
  show (c.slots.setIfInBounds j v)[i]? = some (if i = j then v else f i)
  by_cases q : i = j
  · subst q; simp [S, hi]
  · rw [Array.getElem?_setIfInBounds_ne (Ne.symm q), if_neg q]; exact H i hi
theorem OArr.setI {g : Nat → Int32} (F : OArr Z h a ty N (fun i => .int (g i))) {j : Nat} {x : Int32} (W : Wr h h' a j (.int x)) : OArr Z h' a ty N (fun i => .int (if i = j then x else g i)) := by
  have q := F.set W
  have e : (fun i => if i = j then Value.int x else Value.int (g i)) = fun i => Value.int (if i = j then x else g i) := by funext i; split <;> rfl
  rw [e] at q; exact q
theorem OArr.setJ {g : Nat → Int64} (F : OArr Z h a ty N (fun i => .long (g i))) {j : Nat} {x : Int64} (W : Wr h h' a j (.long x)) : OArr Z h' a ty N (fun i => .long (if i = j then x else g i)) := by
  have q := F.set W
  have e : (fun i => if i = j then Value.long x else Value.long (g i)) = fun i => Value.long (if i = j then x else g i) := by funext i; split <;> rfl
  rw [e] at q; exact q
theorem own_clamp (z : Int32) : z.toNatClampNeg < 2 ^ 31 := by have := z.toInt_lt; simp only [Int32.toNatClampNeg]; omega
theorem OArr.new {k : ClassId} {z : Int32} (A : Arr Z h a (newA k ty z) ty) (q : z.toNatClampNeg = N) : OArr Z h a ty N (fun _ => defaultValue ty) :=
  ⟨_, A, by rw [sz_new]; exact q, by rw [← q]; exact own_clamp z, fun i hi => by rw [← q] at hi; simp [newA, hi]⟩
theorem OArr.of {k : ClassId} {z : Int32} {vs : List Value} {dv : Value} (A : Arv Z h a k ty z vs dv) (q : z.toNatClampNeg = N) (r : ∀ i, i < N → vs.getD i dv = f i) : OArr Z h a ty N f := by
  obtain ⟨c, A1, -, S, -, H, -⟩ := A
  exact ⟨c, A1, by rw [S]; exact q, by rw [← q]; exact own_clamp z, fun i hi => by rw [← r i hi]; exact H i (by rw [S, q]; exact hi)⟩
theorem OArr.congr {g : Nat → Value} (F : OArr Z h a ty N f) (r : ∀ i, i < N → f i = g i) : OArr Z h a ty N g := by
  obtain ⟨c, A, S, B, H⟩ := F; exact ⟨c, A, S, B, fun i hi => by rw [← r i hi]; exact H i hi⟩
theorem own_inb {c : Cell} {j : Int32} {i : Nat} (S : c.slots.size = N) (h0 : ¬ j < 0) (hj : j.toNatClampNeg = i) (hi : i < N) : ¬ (j < 0 ∨ c.slots.size ≤ j.toNatClampNeg) := by
  rintro (q | q)
  · exact h0 q
  · rw [S, hj] at q; omega
theorem own_hv {c : Cell} {j : Int32} {i : Nat} (H : ∀ i, i < N → c.slots[i]? = some (f i)) (hj : j.toNatClampNeg = i) (hi : i < N) : c.slots[j.toNatClampNeg]? = some (f i) := by rw [hj]; exact H i hi
theorem own_len {c : Cell} {z : Int32} (S : c.slots.size = N) (q : N.toInt32 = z) : c.slots.size.toInt32 = z := by rw [S]; exact q
theorem own_wrj {j : Int32} {i : Nat} (W : Wr h h' a j.toNatClampNeg v) (hj : j.toNatClampNeg = i) : Wr h h' a i v := hj ▸ W
theorem own_nb (x : Int32) : nar .byte (x.toInt8.toInt32) = x.toInt8.toInt32 := by show (x.toInt8.toInt32).toInt8.toInt32 = _; simp
theorem own_nwb (x : Int32) : narrow .byte (.int x.toInt8.toInt32) = .int x.toInt8.toInt32 := by show Value.int ((x.toInt8.toInt32).toInt8.toInt32) = _; simp
end OwnArr
/-! own layer 4: arrays of references; calls up, private, through an interface -/
def ORef (Z : State) (h : Heap) (a : Addr) (ty : FieldType) (C : String) (N : Nat) (f : Nat → Value) : Prop := ∃ c : Cell, Arr Z h a c ty ∧ c.slots.size = N ∧ N < 2 ^ 31 ∧ (∀ i, i < N → c.slots[i]? = some (f i)) ∧ (Ovr Z c.cls C ∨ ∃ t, OvrA Z c.cls t C)
section OwnRef
variable {Z : State} {h h' : Heap} {a b : Addr} {ty : FieldType} {C : String} {N : Nat} {f : Nat → Value} {ws : List Addr} {sl : Nat} {v : Value}
theorem ORef.lt (F : ORef Z h a ty C N f) : a < h.size := by obtain ⟨c, A, -⟩ := F; exact A.lt
theorem ORef.ext (F : ORef Z h a ty C N f) (E : Ext h h') : ORef Z h' a ty C N f := by obtain ⟨c, A, r⟩ := F; exact ⟨c, A.ext E, r⟩
theorem ORef.other (F : ORef Z h b ty C N f) (W : Wr h h' a sl v) (q : b ≠ a) : ORef Z h' b ty C N f := by obtain ⟨c, A, r⟩ := F; exact ⟨c, A.other W q, r⟩
theorem ORef.keep (F : ORef Z h a ty C N f) (K : Keep h h' ws) (q : a ∉ ws) : ORef Z h' a ty C N f := by obtain ⟨c, A, r⟩ := F; exact ⟨c, ⟨K.2.1 a c A.1 q, A.2⟩, r⟩
theorem ORef.set (F : ORef Z h a ty C N f) {j : Nat} (W : Wr h h' a j v) : ORef Z h' a ty C N (fun i => if i = j then v else f i) := by
  obtain ⟨c, A, S, B, H, O⟩ := F
  refine ⟨_, A.same W, by rw [sz_set]; exact S, B, fun i hi => ?_, O⟩
  show (c.slots.setIfInBounds j v)[i]? = some (if i = j then v else f i)
  by_cases q : i = j
  · subst q; simp [S, hi]
  · rw [Array.getElem?_setIfInBounds_ne (Ne.symm q), if_neg q]; exact H i hi
theorem ORef.new {k : ClassId} {z : Int32} (A : Arr Z h a (newA k (.object C) z) (.object C)) (O : Ovr Z k C) (q : z.toNatClampNeg = N) : ORef Z h a (.object C) C N (fun _ => .null) :=
  ⟨_, A, by rw [sz_new]; exact q, by rw [← q]; exact own_clamp z, fun i hi => by rw [← q] at hi; simp [newA, hi, defaultValue], Or.inl O⟩
theorem ORef.newA {k : ClassId} {z : Int32} {t : FieldType} (A : Arr Z h a (newA k (.array t) z) (.array t)) (O : OvrA Z k t C) (q : z.toNatClampNeg = N) : ORef Z h a (.array t) C N (fun _ => .null) :=
  ⟨_, A, by rw [sz_new]; exact q, by rw [← q]; exact own_clamp z, fun i hi => by rw [← q] at hi; simp [Jvm.RoadKit.newA, hi, defaultValue], Or.inr ⟨t, O⟩⟩
theorem own_sto {c : Cell} (A : Arr Z h a c ty) (O : Ovr Z c.cls C ∨ ∃ t, OvrA Z c.cls t C) {y : Addr} (I : Ins Z h y C true) : Sto Z h a (.ref y) := by
  rcases O with O | ⟨t, O⟩
  · exact Sto.of A O I
  · exact Sto.ofVA A rfl O I
theorem ORef.congr {g : Nat → Value} (F : ORef Z h a ty C N f) (r : ∀ i, i < N → f i = g i) : ORef Z h a ty C N g := by
  obtain ⟨c, A, S, B, H, O⟩ := F; exact ⟨c, A, S, B, fun i hi => by rw [← r i hi]; exact H i hi, O⟩
end OwnRef
section OwnCalls
variable {p : Program} {l : Launch} {e : Env} {R : Room} {s : State} {m : MethodId} {args : Array Value} {below : List Frame} {meth : Method} {c : Code} {T : State} {locs : List Loc} {cells slots : Nat} {Z : State} {a0 : Array Value} {h : Heap}
variable {Q : Option Value → Heap → List Loc → Prop}
theorem own_virtualUp (X : Stand p l e R s m args below meth c T locs cells slots) (hx : p.tables.exec = Jvm.exec) (hZ : Z.Warmed39 s.vm) {own C owner : String} {index : Nat} {y z : MethodName} {bytes : ByteArray} {maxL : Nat} {ret : Option FieldType} {rm : Room} {W : Nat} {a : Addr} {argsL rest : List Value}
    (hown : s.vm.findClass own = some m.cls) (w1 : (Jvm.Cond.methodLink own index y).before a0 Z = true) (w2 : (Jvm.Cond.sameMethod y.cls owner y.name y.desc).before a0 Z = true) (w5 : (Jvm.Cond.declares ⟨owner, y.name, y.desc⟩).before a0 Z = true) (w3 : (Jvm.Cond.selects C y z).before a0 Z = true) (w4 : (Jvm.Cond.instanceMethod z).before a0 Z = true) (wz : (Jvm.Cond.initialized z.cls).before a0 Z = true) (wc : (Jvm.Cond.code z bytes maxL ret).before a0 Z = true)
    (hM : OMet l Z z bytes maxL ret rm (.ref a :: argsL).toArray h Q) (eT : T.heap = h) (E : Exa Z h a C) {g : JFrame} (hg : g.method = m) (hsize : g.locals.size = c.maxLocals) (hlen : ∀ sig, parseMethodDescriptor y.desc = some sig → argsL.length = sig.parameters.length)
    (hstack : g.stack = argsL.reverse ++ .ref a :: rest) (hW : 2 * g.monitorRoom + (rest.map fun v => v.category).sum ≤ W) (hdg : decode c.code g.pc = .ok (.invokevirtual index, 3))
    (hf : rm.frames + 1 ≤ R.frames) (hl : W + (maxL + 11) + rm.locals ≤ R.locals) (hc : cells + rm.cells ≤ R.cells) (hs : slots + rm.slots ≤ R.slots)
    (hy : owner ≠ "java/lang/invoke/MethodHandle" ∧ owner ≠ "java/lang/invoke/VarHandle" := by decide) :
    ∃ (v : Option Value) (T' : State) (L : List Loc), Stand p l e R s m args below meth c T' (locs ++ L) (cells + rm.cells) (slots + rm.slots) ∧ Q v T'.heap L ∧
      ∀ target, Steps p.tables e below (T'.setTop { g with pc := g.pc + 3, stack := v.toList ++ rest }) target → Steps p.tables e below (T.setTop g) target := by
  obtain ⟨cq, kq, qa, qb, qc⟩ := isOf hZ eT E
  obtain ⟨v, vm₁, ⟨T', L', k', n'⟩, -, X', ⟨L, hQ, l1, y1, z1⟩, st⟩ := X.virtualBackUp hx hown (mvT hZ w1) (mvT hZ w2) (mvT hZ w5) hy (mvT hZ w3) (mvT hZ w4) (own_back (W := W) hM hZ wc wz hf hl) qa qc hg hsize (Steps.refl _) hlen hstack hW hdg (fun _ _ => ⟨rfl, eT, hc, hs⟩)
  dsimp only [Pt.U, Pt.locs, Pt.cells, Pt.slots] at X' l1 y1 z1 st hQ
  subst l1 y1 z1
  exact ⟨v, T', L, X', hQ, fun t k => st.trans k⟩
theorem own_private (X : Stand p l e R s m args below meth c T locs cells slots) (hx : p.tables.exec = Jvm.exec) (hZ : Z.Warmed39 s.vm) {own C K : String} {u : MethodName} {index : Nat} {y : MethodName} {bytes : ByteArray} {maxL : Nat} {ret : Option FieldType} {rm : Room} {W : Nat} {a : Addr} {argsL rest : List Value}
    (hown : s.vm.findClass own = some m.cls) (w1 : (Jvm.Cond.methodLink own index y).before a0 Z = true) (w4 : (Jvm.Cond.instanceMethod y).before a0 Z = true) (w5 : (Jvm.Cond.privateMethod y).before a0 Z = true) (w6 : (Jvm.Cond.selects K u u).before a0 Z = true) (hu : u.cls = y.cls) (wz : (Jvm.Cond.initialized y.cls).before a0 Z = true) (wc : (Jvm.Cond.code y bytes maxL ret).before a0 Z = true)
    (hM : OMet l Z y bytes maxL ret rm (.ref a :: argsL).toArray h Q) (eT : T.heap = h) (E : Exa Z h a C) {g : JFrame} (hg : g.method = m) (hsize : g.locals.size = c.maxLocals) (hlen : ∀ sig, parseMethodDescriptor y.desc = some sig → argsL.length = sig.parameters.length)
    (hstack : g.stack = argsL.reverse ++ .ref a :: rest) (hW : 2 * g.monitorRoom + (rest.map fun v => v.category).sum ≤ W) (hdg : decode c.code g.pc = .ok (.invokevirtual index, 3))
    (hf : rm.frames + 1 ≤ R.frames) (hl : W + (maxL + 11) + rm.locals ≤ R.locals) (hc : cells + rm.cells ≤ R.cells) (hs : slots + rm.slots ≤ R.slots)
    (hy : y.cls ≠ "java/lang/invoke/MethodHandle" ∧ y.cls ≠ "java/lang/invoke/VarHandle" := by decide) :
    ∃ (v : Option Value) (T' : State) (L : List Loc), Stand p l e R s m args below meth c T' (locs ++ L) (cells + rm.cells) (slots + rm.slots) ∧ Q v T'.heap L ∧
      ∀ target, Steps p.tables e below (T'.setTop { g with pc := g.pc + 3, stack := v.toList ++ rest }) target → Steps p.tables e below (T.setTop g) target := by
  obtain ⟨cell, hcell, hobj⟩ := E.cell
  have hpriv : s.PrivateAt y := Cond.privateMethod_at (mvP hZ w5 (args := args))
  have hinst : (Jvm.Cond.instanceMethod y).before args s = true := mvT hZ w4
  obtain ⟨c2, r2, m2, -, -, q3, -, kP, hkP, hkPi⟩ := Cond.selects_spec (mvT hZ w6 : (Jvm.Cond.selects K u u).before args s = true)
  have hfc : s.vm.findClass y.cls = some m2.cls := by rw [← hu]; exact findClass_of_methodNamed q3
  have hsel := selects_self_of_private (args := args) hfc hkP hkPi hpriv hinst hy
  obtain ⟨v, vm₁, ⟨T', L', k', n'⟩, -, X', ⟨L, hQ, l1, y1, z1⟩, st⟩ := X.privateBack hx hown (mvT hZ w1) hinst hsel hpriv (mvT hZ wc) hy (own_back (W := W) hM hZ wc wz hf hl) hg hsize (Steps.refl _) (by rw [eT]; exact hcell) hobj hlen hstack hW hdg (fun _ _ => ⟨rfl, eT, hc, hs⟩)
  dsimp only [Pt.U, Pt.locs, Pt.cells, Pt.slots] at X' l1 y1 z1 st hQ
  subst l1 y1 z1
  exact ⟨v, T', L, X', hQ, fun t k => st.trans k⟩
theorem own_face (X : Stand p l e R s m args below meth c T locs cells slots) (hx : p.tables.exec = Jvm.exec) (hZ : Z.Warmed39 s.vm) {own C : String} {index count : Nat} {y z : MethodName} {bytes : ByteArray} {maxL : Nat} {ret : Option FieldType} {rm : Room} {W : Nat} {a : Addr} {argsL rest : List Value}
    (hown : s.vm.findClass own = some m.cls) (w1 : (Jvm.Cond.methodLink own index y).before a0 Z = true) (w2 : (Jvm.Cond.declares y).before a0 Z = true) (w5 : (Jvm.Cond.interfaceMethod y.cls y.cls y.name y.desc).before args s = true) (w3 : (Jvm.Cond.selects C y z).before a0 Z = true) (w4 : (Jvm.Cond.instanceMethod z).before a0 Z = true) (w6 : (Jvm.Cond.publicMethod z).before a0 Z = true) (w7 : (Jvm.Cond.unhidden C y.name y.desc).before a0 Z = true) (w8 : (Jvm.Cond.castable C y.cls).before a0 Z = true) (wz : (Jvm.Cond.initialized z.cls).before a0 Z = true) (wc : (Jvm.Cond.code z bytes maxL ret).before a0 Z = true)
    (hM : OMet l Z z bytes maxL ret rm (.ref a :: argsL).toArray h Q) (eT : T.heap = h) (E : Exa Z h a C) {g : JFrame} (hg : g.method = m) (hsize : g.locals.size = c.maxLocals) (hlen : ∀ sig, parseMethodDescriptor y.desc = some sig → argsL.length = sig.parameters.length)
    (hstack : g.stack = argsL.reverse ++ .ref a :: rest) (hW : 2 * g.monitorRoom + (rest.map fun v => v.category).sum ≤ W) (hdg : decode c.code g.pc = .ok (.invokeinterface index count, 5))
    (hf : rm.frames + 1 ≤ R.frames) (hl : W + (maxL + 11) + rm.locals ≤ R.locals) (hc : cells + rm.cells ≤ R.cells) (hs : slots + rm.slots ≤ R.slots)
    (hy : y.cls ≠ "java/lang/invoke/MethodHandle" ∧ y.cls ≠ "java/lang/invoke/VarHandle" := by decide) :
    ∃ (v : Option Value) (T' : State) (L : List Loc), Stand p l e R s m args below meth c T' (locs ++ L) (cells + rm.cells) (slots + rm.slots) ∧ Q v T'.heap L ∧
      ∀ target, Steps p.tables e below (T'.setTop { g with pc := g.pc + 5, stack := v.toList ++ rest }) target → Steps p.tables e below (T.setTop g) target := by
  obtain ⟨cq, kq, qa, qb, qc⟩ := isOf hZ eT E
  obtain ⟨v, vm₁, ⟨T', L', k', n'⟩, -, X', ⟨L, hQ, l1, y1, z1⟩, st⟩ := X.interfaceBack hx hown (mvT hZ w1) (mvT hZ w2) w5 (mvT hZ w3) (mvT hZ w4) (mvT hZ w6) (mvT hZ w7) (mvT hZ w8) hy (own_back (W := W) hM hZ wc wz hf hl) qa qb qc hg hsize (Steps.refl _) hlen hstack hW hdg (fun _ _ => ⟨rfl, eT, hc, hs⟩)
  dsimp only [Pt.U, Pt.locs, Pt.cells, Pt.slots] at X' l1 y1 z1 st hQ
  subst l1 y1 z1
  exact ⟨v, T', L, X', hQ, fun t k => st.trans k⟩
end OwnCalls
theorem own_pn5 : plainFor (⟨"java/util/AbstractCollection", "<init>", "()V"⟩ : MethodName) = true := plainFor_of_name (by first | (simp [plainName, overriddenIn]; done) | decide +kernel)
theorem own_ef5_R (m : MethodId) (x0 : Addr) : entryFrame m #[(.ref x0)] 1 = mkF m 0 #[.val (.ref x0)] [] := by first | (simp [entryFrame, mkF, argsToLocals, Value.category]; done) | rfl
theorem own_d5_0 : decode jdk_22_method_1_code 0 = .ok (.aload_n 0, 1) := by decide +kernel
theorem own_d5_1 : decode jdk_22_method_1_code 1 = .ok (.invokespecial 1, 3) := by decide +kernel
theorem own_d5_4 : decode jdk_22_method_1_code 4 = .ok (.return_, 1) := by decide +kernel
theorem own_pn4 : plainFor (⟨"java/util/AbstractList", "<init>", "()V"⟩ : MethodName) = true := plainFor_of_name (by first | (simp [plainName, overriddenIn]; done) | decide +kernel)
theorem own_ef4_R (m : MethodId) (x0 : Addr) : entryFrame m #[(.ref x0)] 1 = mkF m 0 #[.val (.ref x0)] [] := by first | (simp [entryFrame, mkF, argsToLocals, Value.category]; done) | rfl
theorem own_d4_0 : decode jdk_39_method_1_code 0 = .ok (.aload_n 0, 1) := by decide +kernel
theorem own_d4_1 : decode jdk_39_method_1_code 1 = .ok (.invokespecial 1, 3) := by decide +kernel
theorem own_pd0 : parseMethodDescriptor "()V" = some ⟨[], none⟩ := by decide +kernel
theorem own_d4_4 : decode jdk_39_method_1_code 4 = .ok (.aload_n 0, 1) := by decide +kernel
theorem own_d4_5 : decode jdk_39_method_1_code 5 = .ok (.iconst 0, 1) := by decide +kernel
theorem own_d4_6 : decode jdk_39_method_1_code 6 = .ok (.putfield 7, 3) := by decide +kernel
theorem own_d4_9 : decode jdk_39_method_1_code 9 = .ok (.return_, 1) := by decide +kernel
theorem own_pn3 : plainFor (⟨"com/example/epicycle/epicycle/ChunkedList", "<init>", "()V"⟩ : MethodName) = true := plainFor_of_name (by first | (simp [plainName, overriddenIn]; done) | decide +kernel)
theorem own_ef3_R (m : MethodId) (x0 : Addr) : entryFrame m #[(.ref x0)] 1 = mkF m 0 #[.val (.ref x0)] [] := by first | (simp [entryFrame, mkF, argsToLocals, Value.category]; done) | rfl
theorem own_d3_0 : decode prog_2_method_1_code 0 = .ok (.aload_n 0, 1) := by decide +kernel
theorem own_d3_1 : decode prog_2_method_1_code 1 = .ok (.invokespecial 3, 3) := by decide +kernel
theorem own_d3_4 : decode prog_2_method_1_code 4 = .ok (.aload_n 0, 1) := by decide +kernel
theorem own_d3_5 : decode prog_2_method_1_code 5 = .ok (.iconst 1, 1) := by decide +kernel
theorem own_d3_6 : decode prog_2_method_1_code 6 = .ok (.anewarray 9, 3) := by decide +kernel
theorem own_d3_9 : decode prog_2_method_1_code 9 = .ok (.putfield 11, 3) := by decide +kernel
theorem own_d3_12 : decode prog_2_method_1_code 12 = .ok (.return_, 1) := by decide +kernel
theorem own_pn7 : plainFor (⟨"com/example/epicycle/epicycle/TimeoutTable", "wordsFor", "(J)J"⟩ : MethodName) = true := plainFor_of_name (by first | (simp [plainName, overriddenIn]; done) | decide +kernel)
theorem own_ef7_J (m : MethodId) (x0 : Int64) : entryFrame m #[(.long x0)] 2 = mkF m 0 #[.val (.long x0), .second] [] := by first | (simp [entryFrame, mkF, argsToLocals, Value.category]; done) | rfl
theorem own_d7_0 : decode prog_20_method_8_code 0 = .ok (.lload_n 0, 1) := by decide +kernel
theorem own_d7_1 : decode prog_20_method_8_code 1 = .ok (.ldc2_w 79, 3) := by decide +kernel
theorem own_d7_4 : decode prog_20_method_8_code 4 = .ok (.ladd, 1) := by decide +kernel
theorem own_d7_5 : decode prog_20_method_8_code 5 = .ok (.lconst 1, 1) := by decide +kernel
theorem own_d7_6 : decode prog_20_method_8_code 6 = .ok (.lsub, 1) := by decide +kernel
theorem own_d7_7 : decode prog_20_method_8_code 7 = .ok (.bipush 6, 2) := by decide +kernel
theorem own_d7_9 : decode prog_20_method_8_code 9 = .ok (.lushr, 1) := by decide +kernel
theorem own_d7_10 : decode prog_20_method_8_code 10 = .ok (.lreturn, 1) := by decide +kernel
theorem own_pn6 : plainFor (⟨"com/example/epicycle/epicycle/TimeoutTable", "levelsFor", "(I)[[J"⟩ : MethodName) = true := plainFor_of_name (by first | (simp [plainName, overriddenIn]; done) | decide +kernel)
theorem own_ef6_I (m : MethodId) (x0 : Int32) : entryFrame m #[(.int x0)] 6 = mkF m 0 #[.val (.int x0), .unset, .unset, .unset, .unset, .unset] [] := by first | (simp [entryFrame, mkF, argsToLocals, Value.category]; done) | rfl
theorem own_d6_0 : decode prog_20_method_7_code 0 = .ok (.iconst 1, 1) := by decide +kernel
theorem own_d6_1 : decode prog_20_method_7_code 1 = .ok (.istore_n 1, 1) := by decide +kernel
theorem own_d6_2 : decode prog_20_method_7_code 2 = .ok (.iload_n 0, 1) := by decide +kernel
theorem own_d6_3 : decode prog_20_method_7_code 3 = .ok (.i2l, 1) := by decide +kernel
theorem own_d6_4 : decode prog_20_method_7_code 4 = .ok (.lstore_n 2, 1) := by decide +kernel
theorem own_d6_5 : decode prog_20_method_7_code 5 = .ok (.lload_n 2, 1) := by decide +kernel
theorem own_d6_6 : decode prog_20_method_7_code 6 = .ok (.ldc2_w 79, 3) := by decide +kernel
theorem own_d6_9 : decode prog_20_method_7_code 9 = .ok (.lcmp, 1) := by decide +kernel
theorem own_d6_10 : decode prog_20_method_7_code 10 = .ok (.ifCond .le 14, 3) := by decide +kernel
theorem own_d6_24 : decode prog_20_method_7_code 24 = .ok (.iload_n 1, 1) := by decide +kernel
theorem own_d6_25 : decode prog_20_method_7_code 25 = .ok (.anewarray 85, 3) := by decide +kernel
theorem own_d6_28 : decode prog_20_method_7_code 28 = .ok (.astore_n 2, 1) := by decide +kernel
theorem own_d6_29 : decode prog_20_method_7_code 29 = .ok (.iload_n 0, 1) := by decide +kernel
theorem own_d6_30 : decode prog_20_method_7_code 30 = .ok (.i2l, 1) := by decide +kernel
theorem own_d6_31 : decode prog_20_method_7_code 31 = .ok (.lstore_n 3, 1) := by decide +kernel
theorem own_d6_32 : decode prog_20_method_7_code 32 = .ok (.iconst 0, 1) := by decide +kernel
theorem own_d6_33 : decode prog_20_method_7_code 33 = .ok (.istore 5, 2) := by decide +kernel
theorem own_d6_35 : decode prog_20_method_7_code 35 = .ok (.iload 5, 2) := by decide +kernel
theorem own_d6_37 : decode prog_20_method_7_code 37 = .ok (.iload_n 1, 1) := by decide +kernel
theorem own_d6_38 : decode prog_20_method_7_code 38 = .ok (.if_icmp .ge 27, 3) := by decide +kernel
theorem own_d6_41 : decode prog_20_method_7_code 41 = .ok (.aload_n 2, 1) := by decide +kernel
theorem own_d6_42 : decode prog_20_method_7_code 42 = .ok (.iload 5, 2) := by decide +kernel
theorem own_d6_44 : decode prog_20_method_7_code 44 = .ok (.lload_n 3, 1) := by decide +kernel
theorem own_d6_45 : decode prog_20_method_7_code 45 = .ok (.invokestatic 81, 3) := by decide +kernel
theorem own_pd1 : parseMethodDescriptor "(J)J" = some ⟨[.long], some .long⟩ := by decide +kernel
theorem own_d6_48 : decode prog_20_method_7_code 48 = .ok (.l2i, 1) := by decide +kernel
theorem own_d6_49 : decode prog_20_method_7_code 49 = .ok (.newarray .long, 2) := by decide +kernel
theorem own_d6_51 : decode prog_20_method_7_code 51 = .ok (.aastore, 1) := by decide +kernel
theorem own_d6_52 : decode prog_20_method_7_code 52 = .ok (.aload_n 2, 1) := by decide +kernel
theorem own_d6_53 : decode prog_20_method_7_code 53 = .ok (.iload 5, 2) := by decide +kernel
theorem own_d6_55 : decode prog_20_method_7_code 55 = .ok (.aaload, 1) := by decide +kernel
theorem own_d6_56 : decode prog_20_method_7_code 56 = .ok (.arraylength, 1) := by decide +kernel
theorem own_d6_57 : decode prog_20_method_7_code 57 = .ok (.i2l, 1) := by decide +kernel
theorem own_d6_58 : decode prog_20_method_7_code 58 = .ok (.lstore_n 3, 1) := by decide +kernel
theorem own_d6_59 : decode prog_20_method_7_code 59 = .ok (.iinc 5 1, 3) := by decide +kernel
theorem own_d6_62 : decode prog_20_method_7_code 62 = .ok (.goto (-27), 3) := by decide +kernel
theorem own_d6_65 : decode prog_20_method_7_code 65 = .ok (.aload_n 2, 1) := by decide +kernel
theorem own_d6_66 : decode prog_20_method_7_code 66 = .ok (.areturn, 1) := by decide +kernel
theorem own_pn1 : plainFor (⟨"com/example/epicycle/epicycle/TimeoutTable", "<init>", "()V"⟩ : MethodName) = true := plainFor_of_name (by first | (simp [plainName, overriddenIn]; done) | decide +kernel)
theorem own_ef1_R (m : MethodId) (x0 : Addr) : entryFrame m #[(.ref x0)] 1 = mkF m 0 #[.val (.ref x0)] [] := by first | (simp [entryFrame, mkF, argsToLocals, Value.category]; done) | rfl
theorem own_d1_0 : decode prog_20_method_1_code 0 = .ok (.aload_n 0, 1) := by decide +kernel
theorem own_d1_1 : decode prog_20_method_1_code 1 = .ok (.invokespecial 3, 3) := by decide +kernel
theorem own_d1_4 : decode prog_20_method_1_code 4 = .ok (.aload_n 0, 1) := by decide +kernel
theorem own_d1_5 : decode prog_20_method_1_code 5 = .ok (.new 9, 3) := by decide +kernel
theorem own_d1_8 : decode prog_20_method_1_code 8 = .ok (.dup, 1) := by decide +kernel
theorem own_d1_9 : decode prog_20_method_1_code 9 = .ok (.invokespecial 11, 3) := by decide +kernel
theorem own_d1_12 : decode prog_20_method_1_code 12 = .ok (.putfield 12, 3) := by decide +kernel
theorem own_d1_15 : decode prog_20_method_1_code 15 = .ok (.aload_n 0, 1) := by decide +kernel
theorem own_d1_16 : decode prog_20_method_1_code 16 = .ok (.bipush 64, 2) := by decide +kernel
theorem own_d1_18 : decode prog_20_method_1_code 18 = .ok (.invokestatic 16, 3) := by decide +kernel
theorem own_pd2 : parseMethodDescriptor "(I)[[J" = some ⟨[.int], some (.array (.array .long))⟩ := by decide +kernel
theorem own_d1_21 : decode prog_20_method_1_code 21 = .ok (.putfield 20, 3) := by decide +kernel
theorem own_d1_24 : decode prog_20_method_1_code 24 = .ok (.aload_n 0, 1) := by decide +kernel
theorem own_d1_25 : decode prog_20_method_1_code 25 = .ok (.bipush 64, 2) := by decide +kernel
theorem own_d1_27 : decode prog_20_method_1_code 27 = .ok (.putfield 24, 3) := by decide +kernel
theorem own_d1_30 : decode prog_20_method_1_code 30 = .ok (.return_, 1) := by decide +kernel
theorem own_pn8 : plainFor (⟨"com/example/epicycle/epicycle/SlotRing", "<init>", "(ILcom/example/epicycle/epicycle/TimeoutTable;)V"⟩ : MethodName) = true := plainFor_of_name (by first | (simp [plainName, overriddenIn]; done) | decide +kernel)
theorem own_ef8_RIR (m : MethodId) (x0 : Addr) (x1 : Int32) (x2 : Addr) : entryFrame m #[(.ref x0), (.int x1), (.ref x2)] 3 = mkF m 0 #[.val (.ref x0), .val (.int x1), .val (.ref x2)] [] := by first | (simp [entryFrame, mkF, argsToLocals, Value.category]; done) | rfl
theorem own_d8_0 : decode prog_7_method_1_code 0 = .ok (.aload_n 0, 1) := by decide +kernel
theorem own_d8_1 : decode prog_7_method_1_code 1 = .ok (.invokespecial 3, 3) := by decide +kernel
theorem own_d8_4 : decode prog_7_method_1_code 4 = .ok (.aload_n 0, 1) := by decide +kernel
theorem own_d8_5 : decode prog_7_method_1_code 5 = .ok (.bipush 64, 2) := by decide +kernel
theorem own_d8_7 : decode prog_7_method_1_code 7 = .ok (.anewarray 9, 3) := by decide +kernel
theorem own_d8_10 : decode prog_7_method_1_code 10 = .ok (.putfield 11, 3) := by decide +kernel
theorem own_d8_13 : decode prog_7_method_1_code 13 = .ok (.aload_n 0, 1) := by decide +kernel
theorem own_d8_14 : decode prog_7_method_1_code 14 = .ok (.iload_n 1, 1) := by decide +kernel
theorem own_d8_15 : decode prog_7_method_1_code 15 = .ok (.putfield 15, 3) := by decide +kernel
theorem own_d8_18 : decode prog_7_method_1_code 18 = .ok (.aload_n 0, 1) := by decide +kernel
theorem own_d8_19 : decode prog_7_method_1_code 19 = .ok (.aload_n 2, 1) := by decide +kernel
theorem own_d8_20 : decode prog_7_method_1_code 20 = .ok (.putfield 19, 3) := by decide +kernel
theorem own_d8_23 : decode prog_7_method_1_code 23 = .ok (.return_, 1) := by decide +kernel
theorem own_pn9 : plainFor (⟨"com/example/epicycle/epicycle/Timeout", "<init>", "(Lcom/example/epicycle/epicycle/Timeout$Holder;Ljava/lang/Runnable;J)V"⟩ : MethodName) = true := plainFor_of_name (by first | (simp [plainName, overriddenIn]; done) | decide +kernel)
theorem own_ef9_RNNJ (m : MethodId) (x0 : Addr) (x3 : Int64) : entryFrame m #[(.ref x0), .null, .null, (.long x3)] 5 = mkF m 0 #[.val (.ref x0), .val .null, .val .null, .val (.long x3), .second] [] := by first | (simp [entryFrame, mkF, argsToLocals, Value.category]; done) | rfl
theorem own_d9_0 : decode prog_11_method_1_code 0 = .ok (.aload_n 0, 1) := by decide +kernel
theorem own_d9_1 : decode prog_11_method_1_code 1 = .ok (.invokespecial 1, 3) := by decide +kernel
theorem own_d9_4 : decode prog_11_method_1_code 4 = .ok (.aload_n 0, 1) := by decide +kernel
theorem own_d9_5 : decode prog_11_method_1_code 5 = .ok (.aload_n 1, 1) := by decide +kernel
theorem own_d9_6 : decode prog_11_method_1_code 6 = .ok (.putfield 7, 3) := by decide +kernel
theorem own_d9_9 : decode prog_11_method_1_code 9 = .ok (.aload_n 0, 1) := by decide +kernel
theorem own_d9_10 : decode prog_11_method_1_code 10 = .ok (.aload_n 2, 1) := by decide +kernel
theorem own_d9_11 : decode prog_11_method_1_code 11 = .ok (.putfield 13, 3) := by decide +kernel
theorem own_d9_14 : decode prog_11_method_1_code 14 = .ok (.aload_n 0, 1) := by decide +kernel
theorem own_d9_15 : decode prog_11_method_1_code 15 = .ok (.lload_n 3, 1) := by decide +kernel
theorem own_d9_16 : decode prog_11_method_1_code 16 = .ok (.putfield 17, 3) := by decide +kernel
theorem own_d9_19 : decode prog_11_method_1_code 19 = .ok (.return_, 1) := by decide +kernel
theorem own_pn11 : plainFor (⟨"com/example/epicycle/epicycle/Timeout", "fireTick", "()J"⟩ : MethodName) = true := plainFor_of_name (by first | (simp [plainName, overriddenIn]; done) | decide +kernel)
theorem own_ef11_R (m : MethodId) (x0 : Addr) : entryFrame m #[(.ref x0)] 1 = mkF m 0 #[.val (.ref x0)] [] := by first | (simp [entryFrame, mkF, argsToLocals, Value.category]; done) | rfl
theorem own_d11_0 : decode prog_11_method_6_code 0 = .ok (.aload_n 0, 1) := by decide +kernel
theorem own_d11_1 : decode prog_11_method_6_code 1 = .ok (.getfield 17, 3) := by decide +kernel
theorem own_d11_4 : decode prog_11_method_6_code 4 = .ok (.lreturn, 1) := by decide +kernel
theorem own_pn12 : plainFor (⟨"com/example/epicycle/epicycle/SlotRing", "digit", "(JI)I"⟩ : MethodName) = true := plainFor_of_name (by first | (simp [plainName, overriddenIn]; done) | decide +kernel)
theorem own_ef12_JI (m : MethodId) (x0 : Int64) (x1 : Int32) : entryFrame m #[(.long x0), (.int x1)] 3 = mkF m 0 #[.val (.long x0), .second, .val (.int x1)] [] := by first | (simp [entryFrame, mkF, argsToLocals, Value.category]; done) | rfl
theorem own_d12_0 : decode prog_7_method_2_code 0 = .ok (.lload_n 0, 1) := by decide +kernel
theorem own_d12_1 : decode prog_7_method_2_code 1 = .ok (.iload_n 2, 1) := by decide +kernel
theorem own_d12_2 : decode prog_7_method_2_code 2 = .ok (.bipush 6, 2) := by decide +kernel
theorem own_d12_4 : decode prog_7_method_2_code 4 = .ok (.imul, 1) := by decide +kernel
theorem own_d12_5 : decode prog_7_method_2_code 5 = .ok (.lushr, 1) := by decide +kernel
theorem own_d12_6 : decode prog_7_method_2_code 6 = .ok (.l2i, 1) := by decide +kernel
theorem own_d12_7 : decode prog_7_method_2_code 7 = .ok (.bipush 63, 2) := by decide +kernel
theorem own_d12_9 : decode prog_7_method_2_code 9 = .ok (.iand, 1) := by decide +kernel
theorem own_d12_10 : decode prog_7_method_2_code 10 = .ok (.ireturn, 1) := by decide +kernel
theorem own_pn20 : plainFor (⟨"com/example/epicycle/epicycle/SlotRingTakePinLaw", "dig", "(JI)I"⟩ : MethodName) = true := plainFor_of_name (by first | (simp [plainName, overriddenIn]; done) | decide +kernel)
theorem own_ef20_JI (m : MethodId) (x0 : Int64) (x1 : Int32) : entryFrame m #[(.long x0), (.int x1)] 5 = mkF m 0 #[.val (.long x0), .second, .val (.int x1), .unset, .unset] [] := by first | (simp [entryFrame, mkF, argsToLocals, Value.category]; done) | rfl
theorem own_d20_0 : decode method_2_code 0 = .ok (.lload_n 0, 1) := by decide +kernel
theorem own_d20_1 : decode method_2_code 1 = .ok (.iload_n 2, 1) := by decide +kernel
theorem own_d20_2 : decode method_2_code 2 = .ok (.bipush 6, 2) := by decide +kernel
theorem own_d20_4 : decode method_2_code 4 = .ok (.imul, 1) := by decide +kernel
theorem own_d20_5 : decode method_2_code 5 = .ok (.lushr, 1) := by decide +kernel
theorem own_d20_6 : decode method_2_code 6 = .ok (.lstore_n 3, 1) := by decide +kernel
theorem own_d20_7 : decode method_2_code 7 = .ok (.lload_n 3, 1) := by decide +kernel
theorem own_d20_8 : decode method_2_code 8 = .ok (.ldc2_w 7, 3) := by decide +kernel
theorem own_d20_11 : decode method_2_code 11 = .ok (.land, 1) := by decide +kernel
theorem own_d20_12 : decode method_2_code 12 = .ok (.l2i, 1) := by decide +kernel
theorem own_d20_13 : decode method_2_code 13 = .ok (.ireturn, 1) := by decide +kernel
theorem own_pn14 : plainFor (⟨"com/example/epicycle/epicycle/TimeoutList", "<init>", "(Lcom/example/epicycle/epicycle/TimeoutTable;)V"⟩ : MethodName) = true := plainFor_of_name (by first | (simp [plainName, overriddenIn]; done) | decide +kernel)
theorem own_ef14_RR (m : MethodId) (x0 : Addr) (x1 : Addr) : entryFrame m #[(.ref x0), (.ref x1)] 2 = mkF m 0 #[.val (.ref x0), .val (.ref x1)] [] := by first | (simp [entryFrame, mkF, argsToLocals, Value.category]; done) | rfl
theorem own_d14_0 : decode prog_13_method_1_code 0 = .ok (.aload_n 0, 1) := by decide +kernel
theorem own_d14_1 : decode prog_13_method_1_code 1 = .ok (.invokespecial 3, 3) := by decide +kernel
theorem own_d14_4 : decode prog_13_method_1_code 4 = .ok (.aload_n 0, 1) := by decide +kernel
theorem own_d14_5 : decode prog_13_method_1_code 5 = .ok (.iconst 0, 1) := by decide +kernel
theorem own_d14_6 : decode prog_13_method_1_code 6 = .ok (.putfield 11, 3) := by decide +kernel
theorem own_d14_9 : decode prog_13_method_1_code 9 = .ok (.aload_n 0, 1) := by decide +kernel
theorem own_d14_10 : decode prog_13_method_1_code 10 = .ok (.iconst 0, 1) := by decide +kernel
theorem own_d14_11 : decode prog_13_method_1_code 11 = .ok (.putfield 15, 3) := by decide +kernel
theorem own_d14_14 : decode prog_13_method_1_code 14 = .ok (.aload_n 0, 1) := by decide +kernel
theorem own_d14_15 : decode prog_13_method_1_code 15 = .ok (.aload_n 1, 1) := by decide +kernel
theorem own_d14_16 : decode prog_13_method_1_code 16 = .ok (.putfield 18, 3) := by decide +kernel
theorem own_d14_19 : decode prog_13_method_1_code 19 = .ok (.return_, 1) := by decide +kernel
theorem own_pn13 : plainFor (⟨"com/example/epicycle/epicycle/SlotRing$Slot", "<init>", "(Lcom/example/epicycle/epicycle/TimeoutTable;)V"⟩ : MethodName) = true := plainFor_of_name (by first | (simp [plainName, overriddenIn]; done) | decide +kernel)
theorem own_ef13_RR (m : MethodId) (x0 : Addr) (x1 : Addr) : entryFrame m #[(.ref x0), (.ref x1)] 2 = mkF m 0 #[.val (.ref x0), .val (.ref x1)] [] := by first | (simp [entryFrame, mkF, argsToLocals, Value.category]; done) | rfl
theorem own_d13_0 : decode prog_8_method_1_code 0 = .ok (.aload_n 0, 1) := by decide +kernel
theorem own_d13_1 : decode prog_8_method_1_code 1 = .ok (.aload_n 1, 1) := by decide +kernel
theorem own_d13_2 : decode prog_8_method_1_code 2 = .ok (.invokespecial 1, 3) := by decide +kernel
theorem own_pd3 : parseMethodDescriptor "(Lcom/example/epicycle/epicycle/TimeoutTable;)V" = some ⟨[(.object "com/example/epicycle/epicycle/TimeoutTable")], none⟩ := by decide +kernel
theorem own_d13_5 : decode prog_8_method_1_code 5 = .ok (.return_, 1) := by decide +kernel
theorem own_pn15 : plainFor (⟨"com/example/epicycle/epicycle/TimeoutList", "isEmpty", "()Z"⟩ : MethodName) = true := plainFor_of_name (by first | (simp [plainName, overriddenIn]; done) | decide +kernel)
theorem own_ef15_R (m : MethodId) (x0 : Addr) : entryFrame m #[(.ref x0)] 1 = mkF m 0 #[.val (.ref x0)] [] := by first | (simp [entryFrame, mkF, argsToLocals, Value.category]; done) | rfl
theorem own_d15_0 : decode prog_13_method_2_code 0 = .ok (.aload_n 0, 1) := by decide +kernel
theorem own_d15_1 : decode prog_13_method_2_code 1 = .ok (.getfield 11, 3) := by decide +kernel
theorem own_d15_4 : decode prog_13_method_2_code 4 = .ok (.ifCond .ne 7, 3) := by decide +kernel
theorem own_d15_7 : decode prog_13_method_2_code 7 = .ok (.iconst 1, 1) := by decide +kernel
theorem own_d15_8 : decode prog_13_method_2_code 8 = .ok (.goto 4, 3) := by decide +kernel
theorem own_d15_12 : decode prog_13_method_2_code 12 = .ok (.ireturn, 1) := by decide +kernel
theorem own_d15_11 : decode prog_13_method_2_code 11 = .ok (.iconst 0, 1) := by decide +kernel
theorem own_pn19 : plainFor (⟨"com/example/epicycle/epicycle/ChunkedList", "size", "()I"⟩ : MethodName) = true := plainFor_of_name (by first | (simp [plainName, overriddenIn]; done) | decide +kernel)
theorem own_ef19_R (m : MethodId) (x0 : Addr) : entryFrame m #[(.ref x0)] 1 = mkF m 0 #[.val (.ref x0)] [] := by first | (simp [entryFrame, mkF, argsToLocals, Value.category]; done) | rfl
theorem own_d19_0 : decode prog_2_method_5_code 0 = .ok (.aload_n 0, 1) := by decide +kernel
theorem own_d19_1 : decode prog_2_method_5_code 1 = .ok (.getfield 15, 3) := by decide +kernel
theorem own_d19_4 : decode prog_2_method_5_code 4 = .ok (.ireturn, 1) := by decide +kernel
theorem own_pn18 : plainFor (⟨"com/example/epicycle/epicycle/ChunkedList", "add", "(Ljava/lang/Object;)Z"⟩ : MethodName) = true := plainFor_of_name (by first | (simp [plainName, overriddenIn]; done) | decide +kernel)
theorem own_ef18_RR (m : MethodId) (x0 : Addr) (x1 : Addr) : entryFrame m #[(.ref x0), (.ref x1)] 3 = mkF m 0 #[.val (.ref x0), .val (.ref x1), .unset] [] := by first | (simp [entryFrame, mkF, argsToLocals, Value.category]; done) | rfl
theorem own_d18_0 : decode prog_2_method_2_code 0 = .ok (.aload_n 0, 1) := by decide +kernel
theorem own_d18_1 : decode prog_2_method_2_code 1 = .ok (.getfield 15, 3) := by decide +kernel
theorem own_d18_4 : decode prog_2_method_2_code 4 = .ok (.ldc 21, 2) := by decide +kernel
theorem own_d18_6 : decode prog_2_method_2_code 6 = .ok (.if_icmp .ne 13, 3) := by decide +kernel
theorem own_d18_19 : decode prog_2_method_2_code 19 = .ok (.aload_n 0, 1) := by decide +kernel
theorem own_d18_20 : decode prog_2_method_2_code 20 = .ok (.getfield 15, 3) := by decide +kernel
theorem own_d18_23 : decode prog_2_method_2_code 23 = .ok (.bipush 10, 2) := by decide +kernel
theorem own_d18_25 : decode prog_2_method_2_code 25 = .ok (.iushr, 1) := by decide +kernel
theorem own_d18_26 : decode prog_2_method_2_code 26 = .ok (.istore_n 2, 1) := by decide +kernel
theorem own_d18_27 : decode prog_2_method_2_code 27 = .ok (.iload_n 2, 1) := by decide +kernel
theorem own_d18_28 : decode prog_2_method_2_code 28 = .ok (.aload_n 0, 1) := by decide +kernel
theorem own_d18_29 : decode prog_2_method_2_code 29 = .ok (.getfield 11, 3) := by decide +kernel
theorem own_d18_32 : decode prog_2_method_2_code 32 = .ok (.arraylength, 1) := by decide +kernel
theorem own_d18_33 : decode prog_2_method_2_code 33 = .ok (.if_icmp .ne 20, 3) := by decide +kernel
theorem own_d18_53 : decode prog_2_method_2_code 53 = .ok (.aload_n 0, 1) := by decide +kernel
theorem own_d18_54 : decode prog_2_method_2_code 54 = .ok (.getfield 11, 3) := by decide +kernel
theorem own_d18_57 : decode prog_2_method_2_code 57 = .ok (.iload_n 2, 1) := by decide +kernel
theorem own_d18_58 : decode prog_2_method_2_code 58 = .ok (.aaload, 1) := by decide +kernel
theorem own_d18_59 : decode prog_2_method_2_code 59 = .ok (.ifnonnull 15, 3) := by decide +kernel
theorem own_d18_62 : decode prog_2_method_2_code 62 = .ok (.aload_n 0, 1) := by decide +kernel
theorem own_d18_63 : decode prog_2_method_2_code 63 = .ok (.getfield 11, 3) := by decide +kernel
theorem own_d18_66 : decode prog_2_method_2_code 66 = .ok (.iload_n 2, 1) := by decide +kernel
theorem own_d18_67 : decode prog_2_method_2_code 67 = .ok (.sipush 1024, 3) := by decide +kernel
theorem own_d18_70 : decode prog_2_method_2_code 70 = .ok (.anewarray 36, 3) := by decide +kernel
theorem own_d18_73 : decode prog_2_method_2_code 73 = .ok (.aastore, 1) := by decide +kernel
theorem own_d18_74 : decode prog_2_method_2_code 74 = .ok (.aload_n 0, 1) := by decide +kernel
theorem own_d18_75 : decode prog_2_method_2_code 75 = .ok (.getfield 11, 3) := by decide +kernel
theorem own_d18_78 : decode prog_2_method_2_code 78 = .ok (.iload_n 2, 1) := by decide +kernel
theorem own_d18_79 : decode prog_2_method_2_code 79 = .ok (.aaload, 1) := by decide +kernel
theorem own_d18_80 : decode prog_2_method_2_code 80 = .ok (.aload_n 0, 1) := by decide +kernel
theorem own_d18_81 : decode prog_2_method_2_code 81 = .ok (.getfield 15, 3) := by decide +kernel
theorem own_d18_84 : decode prog_2_method_2_code 84 = .ok (.sipush 1023, 3) := by decide +kernel
theorem own_d18_87 : decode prog_2_method_2_code 87 = .ok (.iand, 1) := by decide +kernel
theorem own_d18_88 : decode prog_2_method_2_code 88 = .ok (.aload_n 1, 1) := by decide +kernel
theorem own_d18_89 : decode prog_2_method_2_code 89 = .ok (.aastore, 1) := by decide +kernel
theorem own_d18_90 : decode prog_2_method_2_code 90 = .ok (.aload_n 0, 1) := by decide +kernel
theorem own_d18_91 : decode prog_2_method_2_code 91 = .ok (.dup, 1) := by decide +kernel
theorem own_d18_92 : decode prog_2_method_2_code 92 = .ok (.getfield 15, 3) := by decide +kernel
theorem own_d18_95 : decode prog_2_method_2_code 95 = .ok (.iconst 1, 1) := by decide +kernel
theorem own_d18_96 : decode prog_2_method_2_code 96 = .ok (.iadd, 1) := by decide +kernel
theorem own_d18_97 : decode prog_2_method_2_code 97 = .ok (.putfield 15, 3) := by decide +kernel
theorem own_d18_100 : decode prog_2_method_2_code 100 = .ok (.aload_n 0, 1) := by decide +kernel
theorem own_d18_101 : decode prog_2_method_2_code 101 = .ok (.dup, 1) := by decide +kernel
theorem own_d18_102 : decode prog_2_method_2_code 102 = .ok (.getfield 38, 3) := by decide +kernel
theorem own_d18_105 : decode prog_2_method_2_code 105 = .ok (.iconst 1, 1) := by decide +kernel
theorem own_d18_106 : decode prog_2_method_2_code 106 = .ok (.iadd, 1) := by decide +kernel
theorem own_d18_107 : decode prog_2_method_2_code 107 = .ok (.putfield 38, 3) := by decide +kernel
theorem own_d18_110 : decode prog_2_method_2_code 110 = .ok (.iconst 1, 1) := by decide +kernel
theorem own_d18_111 : decode prog_2_method_2_code 111 = .ok (.ireturn, 1) := by decide +kernel
theorem own_pn17 : plainFor (⟨"com/example/epicycle/epicycle/TimeoutTable", "add", "(Lcom/example/epicycle/epicycle/Timeout;)I"⟩ : MethodName) = true := plainFor_of_name (by first | (simp [plainName, overriddenIn]; done) | decide +kernel)
theorem own_ef17_RR (m : MethodId) (x0 : Addr) (x1 : Addr) : entryFrame m #[(.ref x0), (.ref x1)] 3 = mkF m 0 #[.val (.ref x0), .val (.ref x1), .unset] [] := by first | (simp [entryFrame, mkF, argsToLocals, Value.category]; done) | rfl
theorem own_d17_0 : decode prog_20_method_2_code 0 = .ok (.aload_n 0, 1) := by decide +kernel
theorem own_d17_1 : decode prog_20_method_2_code 1 = .ok (.getfield 28, 3) := by decide +kernel
theorem own_d17_4 : decode prog_20_method_2_code 4 = .ok (.ifCond .le 25, 3) := by decide +kernel
theorem own_d17_29 : decode prog_20_method_2_code 29 = .ok (.aload_n 0, 1) := by decide +kernel
theorem own_d17_30 : decode prog_20_method_2_code 30 = .ok (.getfield 12, 3) := by decide +kernel
theorem own_d17_33 : decode prog_20_method_2_code 33 = .ok (.aload_n 1, 1) := by decide +kernel
theorem own_d17_34 : decode prog_20_method_2_code 34 = .ok (.invokevirtual 39, 3) := by decide +kernel
theorem own_pd4 : parseMethodDescriptor "(Ljava/lang/Object;)Z" = some ⟨[(.object "java/lang/Object")], some .boolean⟩ := by decide +kernel
theorem own_d17_37 : decode prog_20_method_2_code 37 = .ok (.pop, 1) := by decide +kernel
theorem own_d17_38 : decode prog_20_method_2_code 38 = .ok (.aload_n 0, 1) := by decide +kernel
theorem own_d17_39 : decode prog_20_method_2_code 39 = .ok (.getfield 12, 3) := by decide +kernel
theorem own_d17_42 : decode prog_20_method_2_code 42 = .ok (.invokevirtual 43, 3) := by decide +kernel
theorem own_pd5 : parseMethodDescriptor "()I" = some ⟨[], some .int⟩ := by decide +kernel
theorem own_d17_45 : decode prog_20_method_2_code 45 = .ok (.istore_n 2, 1) := by decide +kernel
theorem own_d17_46 : decode prog_20_method_2_code 46 = .ok (.iload_n 2, 1) := by decide +kernel
theorem own_d17_47 : decode prog_20_method_2_code 47 = .ok (.aload_n 0, 1) := by decide +kernel
theorem own_d17_48 : decode prog_20_method_2_code 48 = .ok (.getfield 24, 3) := by decide +kernel
theorem own_d17_51 : decode prog_20_method_2_code 51 = .ok (.if_icmp .le 34, 3) := by decide +kernel
theorem own_d17_85 : decode prog_20_method_2_code 85 = .ok (.iload_n 2, 1) := by decide +kernel
theorem own_d17_86 : decode prog_20_method_2_code 86 = .ok (.ireturn, 1) := by decide +kernel
theorem own_pn27 : plainFor (⟨"jdk/internal/util/Preconditions", "checkIndex", "(IILjava/util/function/BiFunction;)I"⟩ : MethodName) = true := plainFor_of_name (by first | (simp [plainName, overriddenIn]; done) | decide +kernel)
theorem own_ef27_IIN (m : MethodId) (x0 : Int32) (x1 : Int32) : entryFrame m #[(.int x0), (.int x1), .null] 3 = mkF m 0 #[.val (.int x0), .val (.int x1), .val .null] [] := by first | (simp [entryFrame, mkF, argsToLocals, Value.category]; done) | rfl
theorem own_d27_0 : decode jdk_41_method_11_code 0 = .ok (.iload_n 0, 1) := by decide +kernel
theorem own_d27_1 : decode jdk_41_method_11_code 1 = .ok (.ifCond .lt 8, 3) := by decide +kernel
theorem own_d27_4 : decode jdk_41_method_11_code 4 = .ok (.iload_n 0, 1) := by decide +kernel
theorem own_d27_5 : decode jdk_41_method_11_code 5 = .ok (.iload_n 1, 1) := by decide +kernel
theorem own_d27_6 : decode jdk_41_method_11_code 6 = .ok (.if_icmp .lt 10, 3) := by decide +kernel
theorem own_d27_16 : decode jdk_41_method_11_code 16 = .ok (.iload_n 0, 1) := by decide +kernel
theorem own_d27_17 : decode jdk_41_method_11_code 17 = .ok (.ireturn, 1) := by decide +kernel
theorem own_pn26 : plainFor (⟨"java/util/Objects", "checkIndex", "(II)I"⟩ : MethodName) = true := plainFor_of_name (by first | (simp [plainName, overriddenIn]; done) | decide +kernel)
theorem own_ef26_II (m : MethodId) (x0 : Int32) (x1 : Int32) : entryFrame m #[(.int x0), (.int x1)] 2 = mkF m 0 #[.val (.int x0), .val (.int x1)] [] := by first | (simp [entryFrame, mkF, argsToLocals, Value.category]; done) | rfl
theorem own_d26_0 : decode jdk_31_method_17_code 0 = .ok (.iload_n 0, 1) := by decide +kernel
theorem own_d26_1 : decode jdk_31_method_17_code 1 = .ok (.iload_n 1, 1) := by decide +kernel
theorem own_d26_2 : decode jdk_31_method_17_code 2 = .ok (.aconst_null, 1) := by decide +kernel
theorem own_d26_3 : decode jdk_31_method_17_code 3 = .ok (.invokestatic 105, 3) := by decide +kernel
theorem own_pd6 : parseMethodDescriptor "(IILjava/util/function/BiFunction;)I" = some ⟨[.int, .int, (.object "java/util/function/BiFunction")], some .int⟩ := by decide +kernel
theorem own_d26_6 : decode jdk_31_method_17_code 6 = .ok (.ireturn, 1) := by decide +kernel
theorem own_pn25 : plainFor (⟨"com/example/epicycle/epicycle/ChunkedList", "get", "(I)Ljava/lang/Object;"⟩ : MethodName) = true := plainFor_of_name (by first | (simp [plainName, overriddenIn]; done) | decide +kernel)
theorem own_ef25_RI (m : MethodId) (x0 : Addr) (x1 : Int32) : entryFrame m #[(.ref x0), (.int x1)] 2 = mkF m 0 #[.val (.ref x0), .val (.int x1)] [] := by first | (simp [entryFrame, mkF, argsToLocals, Value.category]; done) | rfl
theorem own_d25_0 : decode prog_2_method_3_code 0 = .ok (.iload_n 1, 1) := by decide +kernel
theorem own_d25_1 : decode prog_2_method_3_code 1 = .ok (.aload_n 0, 1) := by decide +kernel
theorem own_d25_2 : decode prog_2_method_3_code 2 = .ok (.getfield 15, 3) := by decide +kernel
theorem own_d25_5 : decode prog_2_method_3_code 5 = .ok (.invokestatic 41, 3) := by decide +kernel
theorem own_pd7 : parseMethodDescriptor "(II)I" = some ⟨[.int, .int], some .int⟩ := by decide +kernel
theorem own_d25_8 : decode prog_2_method_3_code 8 = .ok (.pop, 1) := by decide +kernel
theorem own_d25_9 : decode prog_2_method_3_code 9 = .ok (.aload_n 0, 1) := by decide +kernel
theorem own_d25_10 : decode prog_2_method_3_code 10 = .ok (.getfield 11, 3) := by decide +kernel
theorem own_d25_13 : decode prog_2_method_3_code 13 = .ok (.iload_n 1, 1) := by decide +kernel
theorem own_d25_14 : decode prog_2_method_3_code 14 = .ok (.bipush 10, 2) := by decide +kernel
theorem own_d25_16 : decode prog_2_method_3_code 16 = .ok (.iushr, 1) := by decide +kernel
theorem own_d25_17 : decode prog_2_method_3_code 17 = .ok (.aaload, 1) := by decide +kernel
theorem own_d25_18 : decode prog_2_method_3_code 18 = .ok (.iload_n 1, 1) := by decide +kernel
theorem own_d25_19 : decode prog_2_method_3_code 19 = .ok (.sipush 1023, 3) := by decide +kernel
theorem own_d25_22 : decode prog_2_method_3_code 22 = .ok (.iand, 1) := by decide +kernel
theorem own_d25_23 : decode prog_2_method_3_code 23 = .ok (.aaload, 1) := by decide +kernel
theorem own_d25_24 : decode prog_2_method_3_code 24 = .ok (.areturn, 1) := by decide +kernel
theorem own_pn24 : plainFor (⟨"com/example/epicycle/epicycle/TimeoutTable", "get", "(I)Lcom/example/epicycle/epicycle/Timeout;"⟩ : MethodName) = true := plainFor_of_name (by first | (simp [plainName, overriddenIn]; done) | decide +kernel)
theorem own_ef24_RI (m : MethodId) (x0 : Addr) (x1 : Int32) : entryFrame m #[(.ref x0), (.int x1)] 2 = mkF m 0 #[.val (.ref x0), .val (.int x1)] [] := by first | (simp [entryFrame, mkF, argsToLocals, Value.category]; done) | rfl
theorem own_d24_0 : decode prog_20_method_3_code 0 = .ok (.aload_n 0, 1) := by decide +kernel
theorem own_d24_1 : decode prog_20_method_3_code 1 = .ok (.getfield 12, 3) := by decide +kernel
theorem own_d24_4 : decode prog_20_method_3_code 4 = .ok (.iload_n 1, 1) := by decide +kernel
theorem own_d24_5 : decode prog_20_method_3_code 5 = .ok (.iconst 1, 1) := by decide +kernel
theorem own_d24_6 : decode prog_20_method_3_code 6 = .ok (.isub, 1) := by decide +kernel
theorem own_d24_7 : decode prog_20_method_3_code 7 = .ok (.invokevirtual 58, 3) := by decide +kernel
theorem own_pd8 : parseMethodDescriptor "(I)Ljava/lang/Object;" = some ⟨[.int], some (.object "java/lang/Object")⟩ := by decide +kernel
theorem own_d24_10 : decode prog_20_method_3_code 10 = .ok (.checkcast 62, 3) := by decide +kernel
theorem own_d24_13 : decode prog_20_method_3_code 13 = .ok (.areturn, 1) := by decide +kernel
theorem own_pn16 : plainFor (⟨"com/example/epicycle/epicycle/TimeoutList", "append", "(Lcom/example/epicycle/epicycle/Timeout;)V"⟩ : MethodName) = true := plainFor_of_name (by first | (simp [plainName, overriddenIn]; done) | decide +kernel)
theorem own_ef16_RR (m : MethodId) (x0 : Addr) (x1 : Addr) : entryFrame m #[(.ref x0), (.ref x1)] 3 = mkF m 0 #[.val (.ref x0), .val (.ref x1), .unset] [] := by first | (simp [entryFrame, mkF, argsToLocals, Value.category]; done) | rfl
theorem own_d16_0 : decode prog_13_method_7_code 0 = .ok (.aload_n 0, 1) := by decide +kernel
theorem own_d16_1 : decode prog_13_method_7_code 1 = .ok (.getfield 18, 3) := by decide +kernel
theorem own_d16_4 : decode prog_13_method_7_code 4 = .ok (.aload_n 1, 1) := by decide +kernel
theorem own_d16_5 : decode prog_13_method_7_code 5 = .ok (.invokevirtual 34, 3) := by decide +kernel
theorem own_pd9 : parseMethodDescriptor "(Lcom/example/epicycle/epicycle/Timeout;)I" = some ⟨[(.object "com/example/epicycle/epicycle/Timeout")], some .int⟩ := by decide +kernel
theorem own_d16_8 : decode prog_13_method_7_code 8 = .ok (.istore_n 2, 1) := by decide +kernel
theorem own_d16_9 : decode prog_13_method_7_code 9 = .ok (.aload_n 1, 1) := by decide +kernel
theorem own_d16_10 : decode prog_13_method_7_code 10 = .ok (.aload_n 0, 1) := by decide +kernel
theorem own_d16_11 : decode prog_13_method_7_code 11 = .ok (.getfield 15, 3) := by decide +kernel
theorem own_d16_14 : decode prog_13_method_7_code 14 = .ok (.putfield 31, 3) := by decide +kernel
theorem own_d16_17 : decode prog_13_method_7_code 17 = .ok (.aload_n 0, 1) := by decide +kernel
theorem own_d16_18 : decode prog_13_method_7_code 18 = .ok (.getfield 15, 3) := by decide +kernel
theorem own_d16_21 : decode prog_13_method_7_code 21 = .ok (.ifCond .ne 11, 3) := by decide +kernel
theorem own_d16_24 : decode prog_13_method_7_code 24 = .ok (.aload_n 0, 1) := by decide +kernel
theorem own_d16_25 : decode prog_13_method_7_code 25 = .ok (.iload_n 2, 1) := by decide +kernel
theorem own_d16_26 : decode prog_13_method_7_code 26 = .ok (.putfield 11, 3) := by decide +kernel
theorem own_d16_29 : decode prog_13_method_7_code 29 = .ok (.goto 18, 3) := by decide +kernel
theorem own_d16_47 : decode prog_13_method_7_code 47 = .ok (.aload_n 0, 1) := by decide +kernel
theorem own_d16_48 : decode prog_13_method_7_code 48 = .ok (.iload_n 2, 1) := by decide +kernel
theorem own_d16_49 : decode prog_13_method_7_code 49 = .ok (.putfield 15, 3) := by decide +kernel
theorem own_d16_52 : decode prog_13_method_7_code 52 = .ok (.return_, 1) := by decide +kernel
theorem own_d16_32 : decode prog_13_method_7_code 32 = .ok (.aload_n 0, 1) := by decide +kernel
theorem own_d16_33 : decode prog_13_method_7_code 33 = .ok (.getfield 18, 3) := by decide +kernel
theorem own_d16_36 : decode prog_13_method_7_code 36 = .ok (.aload_n 0, 1) := by decide +kernel
theorem own_d16_37 : decode prog_13_method_7_code 37 = .ok (.getfield 15, 3) := by decide +kernel
theorem own_d16_40 : decode prog_13_method_7_code 40 = .ok (.invokevirtual 38, 3) := by decide +kernel
theorem own_pd10 : parseMethodDescriptor "(I)Lcom/example/epicycle/epicycle/Timeout;" = some ⟨[.int], some (.object "com/example/epicycle/epicycle/Timeout")⟩ := by decide +kernel
theorem own_d16_43 : decode prog_13_method_7_code 43 = .ok (.iload_n 2, 1) := by decide +kernel
theorem own_d16_44 : decode prog_13_method_7_code 44 = .ok (.putfield 26, 3) := by decide +kernel
theorem own_pn10 : plainFor (⟨"com/example/epicycle/epicycle/SlotRing", "add", "(Lcom/example/epicycle/epicycle/Timeout;)V"⟩ : MethodName) = true := plainFor_of_name (by first | (simp [plainName, overriddenIn]; done) | decide +kernel)
theorem own_ef10_RR (m : MethodId) (x0 : Addr) (x1 : Addr) : entryFrame m #[(.ref x0), (.ref x1)] 4 = mkF m 0 #[.val (.ref x0), .val (.ref x1), .unset, .unset] [] := by first | (simp [entryFrame, mkF, argsToLocals, Value.category]; done) | rfl
theorem own_d10_0 : decode prog_7_method_5_code 0 = .ok (.aload_n 1, 1) := by decide +kernel
theorem own_d10_1 : decode prog_7_method_5_code 1 = .ok (.invokevirtual 33, 3) := by decide +kernel
theorem own_pd11 : parseMethodDescriptor "()J" = some ⟨[], some .long⟩ := by decide +kernel
theorem own_d10_4 : decode prog_7_method_5_code 4 = .ok (.aload_n 0, 1) := by decide +kernel
theorem own_d10_5 : decode prog_7_method_5_code 5 = .ok (.getfield 15, 3) := by decide +kernel
theorem own_d10_8 : decode prog_7_method_5_code 8 = .ok (.invokestatic 39, 3) := by decide +kernel
theorem own_pd12 : parseMethodDescriptor "(JI)I" = some ⟨[.long, .int], some .int⟩ := by decide +kernel
theorem own_d10_11 : decode prog_7_method_5_code 11 = .ok (.istore_n 2, 1) := by decide +kernel
theorem own_d10_12 : decode prog_7_method_5_code 12 = .ok (.aload_n 0, 1) := by decide +kernel
theorem own_d10_13 : decode prog_7_method_5_code 13 = .ok (.getfield 11, 3) := by decide +kernel
theorem own_d10_16 : decode prog_7_method_5_code 16 = .ok (.iload_n 2, 1) := by decide +kernel
theorem own_d10_17 : decode prog_7_method_5_code 17 = .ok (.aaload, 1) := by decide +kernel
theorem own_d10_18 : decode prog_7_method_5_code 18 = .ok (.astore_n 3, 1) := by decide +kernel
theorem own_d10_19 : decode prog_7_method_5_code 19 = .ok (.aload_n 3, 1) := by decide +kernel
theorem own_d10_20 : decode prog_7_method_5_code 20 = .ok (.ifnonnull 22, 3) := by decide +kernel
theorem own_d10_23 : decode prog_7_method_5_code 23 = .ok (.new 9, 3) := by decide +kernel
theorem own_d10_26 : decode prog_7_method_5_code 26 = .ok (.dup, 1) := by decide +kernel
theorem own_d10_27 : decode prog_7_method_5_code 27 = .ok (.aload_n 0, 1) := by decide +kernel
theorem own_d10_28 : decode prog_7_method_5_code 28 = .ok (.getfield 19, 3) := by decide +kernel
theorem own_d10_31 : decode prog_7_method_5_code 31 = .ok (.invokespecial 43, 3) := by decide +kernel
theorem own_d10_34 : decode prog_7_method_5_code 34 = .ok (.astore_n 3, 1) := by decide +kernel
theorem own_d10_35 : decode prog_7_method_5_code 35 = .ok (.aload_n 0, 1) := by decide +kernel
theorem own_d10_36 : decode prog_7_method_5_code 36 = .ok (.getfield 11, 3) := by decide +kernel
theorem own_d10_39 : decode prog_7_method_5_code 39 = .ok (.iload_n 2, 1) := by decide +kernel
theorem own_d10_40 : decode prog_7_method_5_code 40 = .ok (.aload_n 3, 1) := by decide +kernel
theorem own_d10_41 : decode prog_7_method_5_code 41 = .ok (.aastore, 1) := by decide +kernel
theorem own_d10_42 : decode prog_7_method_5_code 42 = .ok (.aload_n 3, 1) := by decide +kernel
theorem own_d10_43 : decode prog_7_method_5_code 43 = .ok (.dup, 1) := by decide +kernel
theorem own_d10_44 : decode prog_7_method_5_code 44 = .ok (.getfield 46, 3) := by decide +kernel
theorem own_d10_47 : decode prog_7_method_5_code 47 = .ok (.iconst 1, 1) := by decide +kernel
theorem own_d10_48 : decode prog_7_method_5_code 48 = .ok (.iadd, 1) := by decide +kernel
theorem own_d10_49 : decode prog_7_method_5_code 49 = .ok (.putfield 46, 3) := by decide +kernel
theorem own_d10_52 : decode prog_7_method_5_code 52 = .ok (.aload_n 0, 1) := by decide +kernel
theorem own_d10_53 : decode prog_7_method_5_code 53 = .ok (.dup, 1) := by decide +kernel
theorem own_d10_54 : decode prog_7_method_5_code 54 = .ok (.getfield 23, 3) := by decide +kernel
theorem own_d10_57 : decode prog_7_method_5_code 57 = .ok (.lconst 1, 1) := by decide +kernel
theorem own_d10_58 : decode prog_7_method_5_code 58 = .ok (.iload_n 2, 1) := by decide +kernel
theorem own_d10_59 : decode prog_7_method_5_code 59 = .ok (.lshl, 1) := by decide +kernel
theorem own_d10_60 : decode prog_7_method_5_code 60 = .ok (.lor, 1) := by decide +kernel
theorem own_d10_61 : decode prog_7_method_5_code 61 = .ok (.putfield 23, 3) := by decide +kernel
theorem own_d10_64 : decode prog_7_method_5_code 64 = .ok (.aload_n 3, 1) := by decide +kernel
theorem own_d10_65 : decode prog_7_method_5_code 65 = .ok (.getfield 49, 3) := by decide +kernel
theorem own_d10_68 : decode prog_7_method_5_code 68 = .ok (.ifnull 14, 3) := by decide +kernel
theorem own_d10_82 : decode prog_7_method_5_code 82 = .ok (.aload_n 3, 1) := by decide +kernel
theorem own_d10_83 : decode prog_7_method_5_code 83 = .ok (.invokevirtual 57, 3) := by decide +kernel
theorem own_pd13 : parseMethodDescriptor "()Z" = some ⟨[], some .boolean⟩ := by decide +kernel
theorem own_d10_86 : decode prog_7_method_5_code 86 = .ok (.ifCond .ne 17, 3) := by decide +kernel
theorem own_d10_103 : decode prog_7_method_5_code 103 = .ok (.aload_n 3, 1) := by decide +kernel
theorem own_d10_104 : decode prog_7_method_5_code 104 = .ok (.aload_n 1, 1) := by decide +kernel
theorem own_d10_105 : decode prog_7_method_5_code 105 = .ok (.invokevirtual 33, 3) := by decide +kernel
theorem own_d10_108 : decode prog_7_method_5_code 108 = .ok (.putfield 61, 3) := by decide +kernel
theorem own_d10_111 : decode prog_7_method_5_code 111 = .ok (.aload_n 3, 1) := by decide +kernel
theorem own_d10_112 : decode prog_7_method_5_code 112 = .ok (.aload_n 1, 1) := by decide +kernel
theorem own_d10_113 : decode prog_7_method_5_code 113 = .ok (.invokevirtual 64, 3) := by decide +kernel
theorem own_pd14 : parseMethodDescriptor "(Lcom/example/epicycle/epicycle/Timeout;)V" = some ⟨[(.object "com/example/epicycle/epicycle/Timeout")], none⟩ := by decide +kernel
theorem own_d10_116 : decode prog_7_method_5_code 116 = .ok (.aload_n 0, 1) := by decide +kernel
theorem own_d10_117 : decode prog_7_method_5_code 117 = .ok (.getfield 15, 3) := by decide +kernel
theorem own_d10_120 : decode prog_7_method_5_code 120 = .ok (.ifCond .le 18, 3) := by decide +kernel
theorem own_d10_123 : decode prog_7_method_5_code 123 = .ok (.aload_n 3, 1) := by decide +kernel
theorem own_d10_124 : decode prog_7_method_5_code 124 = .ok (.getfield 46, 3) := by decide +kernel
theorem own_d10_127 : decode prog_7_method_5_code 127 = .ok (.sipush 2048, 3) := by decide +kernel
theorem own_d10_130 : decode prog_7_method_5_code 130 = .ok (.if_icmp .le 8, 3) := by decide +kernel
theorem own_d10_138 : decode prog_7_method_5_code 138 = .ok (.return_, 1) := by decide +kernel
theorem own_d10_89 : decode prog_7_method_5_code 89 = .ok (.aload_n 1, 1) := by decide +kernel
theorem own_d10_90 : decode prog_7_method_5_code 90 = .ok (.invokevirtual 33, 3) := by decide +kernel
theorem own_d10_93 : decode prog_7_method_5_code 93 = .ok (.aload_n 3, 1) := by decide +kernel
theorem own_d10_94 : decode prog_7_method_5_code 94 = .ok (.getfield 61, 3) := by decide +kernel
theorem own_d10_97 : decode prog_7_method_5_code 97 = .ok (.lsub, 1) := by decide +kernel
theorem own_d10_98 : decode prog_7_method_5_code 98 = .ok (.lconst 0, 1) := by decide +kernel
theorem own_d10_99 : decode prog_7_method_5_code 99 = .ok (.lcmp, 1) := by decide +kernel
theorem own_d10_100 : decode prog_7_method_5_code 100 = .ok (.ifCond .ge 11, 3) := by decide +kernel
theorem own_pn21 : plainFor (⟨"com/example/epicycle/epicycle/SlotRing", "take", "(I)Lcom/example/epicycle/epicycle/TimeoutList;"⟩ : MethodName) = true := plainFor_of_name (by first | (simp [plainName, overriddenIn]; done) | decide +kernel)
theorem own_ef21_RI (m : MethodId) (x0 : Addr) (x1 : Int32) : entryFrame m #[(.ref x0), (.int x1)] 3 = mkF m 0 #[.val (.ref x0), .val (.int x1), .unset] [] := by first | (simp [entryFrame, mkF, argsToLocals, Value.category]; done) | rfl
theorem own_d21_0 : decode prog_7_method_11_code 0 = .ok (.aload_n 0, 1) := by decide +kernel
theorem own_d21_1 : decode prog_7_method_11_code 1 = .ok (.getfield 11, 3) := by decide +kernel
theorem own_d21_4 : decode prog_7_method_11_code 4 = .ok (.iload_n 1, 1) := by decide +kernel
theorem own_d21_5 : decode prog_7_method_11_code 5 = .ok (.aaload, 1) := by decide +kernel
theorem own_d21_6 : decode prog_7_method_11_code 6 = .ok (.astore_n 2, 1) := by decide +kernel
theorem own_d21_7 : decode prog_7_method_11_code 7 = .ok (.aload_n 0, 1) := by decide +kernel
theorem own_d21_8 : decode prog_7_method_11_code 8 = .ok (.getfield 11, 3) := by decide +kernel
theorem own_d21_11 : decode prog_7_method_11_code 11 = .ok (.iload_n 1, 1) := by decide +kernel
theorem own_d21_12 : decode prog_7_method_11_code 12 = .ok (.aconst_null, 1) := by decide +kernel
theorem own_d21_13 : decode prog_7_method_11_code 13 = .ok (.aastore, 1) := by decide +kernel
theorem own_d21_14 : decode prog_7_method_11_code 14 = .ok (.aload_n 0, 1) := by decide +kernel
theorem own_d21_15 : decode prog_7_method_11_code 15 = .ok (.dup, 1) := by decide +kernel
theorem own_d21_16 : decode prog_7_method_11_code 16 = .ok (.getfield 23, 3) := by decide +kernel
theorem own_d21_19 : decode prog_7_method_11_code 19 = .ok (.lconst 1, 1) := by decide +kernel
theorem own_d21_20 : decode prog_7_method_11_code 20 = .ok (.iload_n 1, 1) := by decide +kernel
theorem own_d21_21 : decode prog_7_method_11_code 21 = .ok (.lshl, 1) := by decide +kernel
theorem own_d21_22 : decode prog_7_method_11_code 22 = .ok (.ldc2_w 82, 3) := by decide +kernel
theorem own_d21_25 : decode prog_7_method_11_code 25 = .ok (.lxor, 1) := by decide +kernel
theorem own_d21_26 : decode prog_7_method_11_code 26 = .ok (.land, 1) := by decide +kernel
theorem own_d21_27 : decode prog_7_method_11_code 27 = .ok (.putfield 23, 3) := by decide +kernel
theorem own_d21_30 : decode prog_7_method_11_code 30 = .ok (.aload_n 2, 1) := by decide +kernel
theorem own_d21_31 : decode prog_7_method_11_code 31 = .ok (.areturn, 1) := by decide +kernel
theorem own_pn23 : plainFor (⟨"com/example/epicycle/epicycle/TimeoutList", "timeoutAt", "(I)Lcom/example/epicycle/epicycle/Timeout;"⟩ : MethodName) = true := plainFor_of_name (by first | (simp [plainName, overriddenIn]; done) | decide +kernel)
theorem own_ef23_RI (m : MethodId) (x0 : Addr) (x1 : Int32) : entryFrame m #[(.ref x0), (.int x1)] 2 = mkF m 0 #[.val (.ref x0), .val (.int x1)] [] := by first | (simp [entryFrame, mkF, argsToLocals, Value.category]; done) | rfl
theorem own_d23_0 : decode prog_13_method_12_code 0 = .ok (.iload_n 1, 1) := by decide +kernel
theorem own_d23_1 : decode prog_13_method_12_code 1 = .ok (.ifCond .ne 7, 3) := by decide +kernel
theorem own_d23_8 : decode prog_13_method_12_code 8 = .ok (.aload_n 0, 1) := by decide +kernel
theorem own_d23_9 : decode prog_13_method_12_code 9 = .ok (.getfield 18, 3) := by decide +kernel
theorem own_d23_12 : decode prog_13_method_12_code 12 = .ok (.iload_n 1, 1) := by decide +kernel
theorem own_d23_13 : decode prog_13_method_12_code 13 = .ok (.invokevirtual 38, 3) := by decide +kernel
theorem own_d23_16 : decode prog_13_method_12_code 16 = .ok (.areturn, 1) := by decide +kernel
theorem own_pn22 : plainFor (⟨"com/example/epicycle/epicycle/TimeoutList", "first", "()Lcom/example/epicycle/epicycle/Timeout;"⟩ : MethodName) = true := plainFor_of_name (by first | (simp [plainName, overriddenIn]; done) | decide +kernel)
theorem own_ef22_R (m : MethodId) (x0 : Addr) : entryFrame m #[(.ref x0)] 1 = mkF m 0 #[.val (.ref x0)] [] := by first | (simp [entryFrame, mkF, argsToLocals, Value.category]; done) | rfl
theorem own_d22_0 : decode prog_13_method_3_code 0 = .ok (.aload_n 0, 1) := by decide +kernel
theorem own_d22_1 : decode prog_13_method_3_code 1 = .ok (.aload_n 0, 1) := by decide +kernel
theorem own_d22_2 : decode prog_13_method_3_code 2 = .ok (.getfield 11, 3) := by decide +kernel
theorem own_d22_5 : decode prog_13_method_3_code 5 = .ok (.invokevirtual 22, 3) := by decide +kernel
theorem own_d22_8 : decode prog_13_method_3_code 8 = .ok (.areturn, 1) := by decide +kernel
theorem own_pn28 : plainFor (⟨"com/example/epicycle/epicycle/TimeoutList", "last", "()Lcom/example/epicycle/epicycle/Timeout;"⟩ : MethodName) = true := plainFor_of_name (by first | (simp [plainName, overriddenIn]; done) | decide +kernel)
theorem own_ef28_R (m : MethodId) (x0 : Addr) : entryFrame m #[(.ref x0)] 1 = mkF m 0 #[.val (.ref x0)] [] := by first | (simp [entryFrame, mkF, argsToLocals, Value.category]; done) | rfl
theorem own_d28_0 : decode prog_13_method_4_code 0 = .ok (.aload_n 0, 1) := by decide +kernel
theorem own_d28_1 : decode prog_13_method_4_code 1 = .ok (.aload_n 0, 1) := by decide +kernel
theorem own_d28_2 : decode prog_13_method_4_code 2 = .ok (.getfield 15, 3) := by decide +kernel
theorem own_d28_5 : decode prog_13_method_4_code 5 = .ok (.invokevirtual 22, 3) := by decide +kernel
theorem own_d28_8 : decode prog_13_method_4_code 8 = .ok (.areturn, 1) := by decide +kernel
theorem own_pn33 : plainFor (⟨"com/example/epicycle/epicycle/TimeoutList", "holds", "(Lcom/example/epicycle/epicycle/Timeout;)Z"⟩ : MethodName) = true := plainFor_of_name (by first | (simp [plainName, overriddenIn]; done) | decide +kernel)
theorem own_ef33_RR (m : MethodId) (x0 : Addr) (x1 : Addr) : entryFrame m #[(.ref x0), (.ref x1)] 2 = mkF m 0 #[.val (.ref x0), .val (.ref x1)] [] := by first | (simp [entryFrame, mkF, argsToLocals, Value.category]; done) | rfl
theorem own_d33_0 : decode prog_13_method_11_code 0 = .ok (.aload_n 1, 1) := by decide +kernel
theorem own_d33_1 : decode prog_13_method_11_code 1 = .ok (.getfield 31, 3) := by decide +kernel
theorem own_d33_4 : decode prog_13_method_11_code 4 = .ok (.ifCond .ne 25, 3) := by decide +kernel
theorem own_d33_7 : decode prog_13_method_11_code 7 = .ok (.aload_n 0, 1) := by decide +kernel
theorem own_d33_8 : decode prog_13_method_11_code 8 = .ok (.getfield 11, 3) := by decide +kernel
theorem own_d33_11 : decode prog_13_method_11_code 11 = .ok (.ifCond .eq 22, 3) := by decide +kernel
theorem own_d33_14 : decode prog_13_method_11_code 14 = .ok (.aload_n 0, 1) := by decide +kernel
theorem own_d33_15 : decode prog_13_method_11_code 15 = .ok (.getfield 18, 3) := by decide +kernel
theorem own_d33_18 : decode prog_13_method_11_code 18 = .ok (.aload_n 0, 1) := by decide +kernel
theorem own_d33_19 : decode prog_13_method_11_code 19 = .ok (.getfield 11, 3) := by decide +kernel
theorem own_d33_22 : decode prog_13_method_11_code 22 = .ok (.invokevirtual 38, 3) := by decide +kernel
theorem own_d33_25 : decode prog_13_method_11_code 25 = .ok (.aload_n 1, 1) := by decide +kernel
theorem own_d33_26 : decode prog_13_method_11_code 26 = .ok (.if_acmp .ne 7, 3) := by decide +kernel
theorem own_d33_29 : decode prog_13_method_11_code 29 = .ok (.iconst 1, 1) := by decide +kernel
theorem own_d33_30 : decode prog_13_method_11_code 30 = .ok (.goto 4, 3) := by decide +kernel
theorem own_d33_34 : decode prog_13_method_11_code 34 = .ok (.ireturn, 1) := by decide +kernel
theorem own_pn32 : plainFor (⟨"com/example/epicycle/epicycle/SlotRing", "holds", "(Lcom/example/epicycle/epicycle/Timeout;)Z"⟩ : MethodName) = true := plainFor_of_name (by first | (simp [plainName, overriddenIn]; done) | decide +kernel)
theorem own_ef32_RR (m : MethodId) (x0 : Addr) (x1 : Addr) : entryFrame m #[(.ref x0), (.ref x1)] 4 = mkF m 0 #[.val (.ref x0), .val (.ref x1), .unset, .unset] [] := by first | (simp [entryFrame, mkF, argsToLocals, Value.category]; done) | rfl
theorem own_d32_0 : decode prog_7_method_7_code 0 = .ok (.aload_n 0, 1) := by decide +kernel
theorem own_d32_1 : decode prog_7_method_7_code 1 = .ok (.getfield 11, 3) := by decide +kernel
theorem own_d32_4 : decode prog_7_method_7_code 4 = .ok (.aload_n 1, 1) := by decide +kernel
theorem own_d32_5 : decode prog_7_method_7_code 5 = .ok (.invokevirtual 33, 3) := by decide +kernel
theorem own_d32_8 : decode prog_7_method_7_code 8 = .ok (.aload_n 0, 1) := by decide +kernel
theorem own_d32_9 : decode prog_7_method_7_code 9 = .ok (.getfield 15, 3) := by decide +kernel
theorem own_d32_12 : decode prog_7_method_7_code 12 = .ok (.invokestatic 39, 3) := by decide +kernel
theorem own_d32_15 : decode prog_7_method_7_code 15 = .ok (.aaload, 1) := by decide +kernel
theorem own_d32_16 : decode prog_7_method_7_code 16 = .ok (.astore_n 2, 1) := by decide +kernel
theorem own_d32_17 : decode prog_7_method_7_code 17 = .ok (.aload_n 2, 1) := by decide +kernel
theorem own_d32_18 : decode prog_7_method_7_code 18 = .ok (.ifnonnull 8, 3) := by decide +kernel
theorem own_d32_21 : decode prog_7_method_7_code 21 = .ok (.iconst 0, 1) := by decide +kernel
theorem own_d32_22 : decode prog_7_method_7_code 22 = .ok (.istore_n 3, 1) := by decide +kernel
theorem own_d32_23 : decode prog_7_method_7_code 23 = .ok (.goto 28, 3) := by decide +kernel
theorem own_d32_51 : decode prog_7_method_7_code 51 = .ok (.iload_n 3, 1) := by decide +kernel
theorem own_d32_52 : decode prog_7_method_7_code 52 = .ok (.ireturn, 1) := by decide +kernel
theorem own_d32_26 : decode prog_7_method_7_code 26 = .ok (.aload_n 2, 1) := by decide +kernel
theorem own_d32_27 : decode prog_7_method_7_code 27 = .ok (.getfield 49, 3) := by decide +kernel
theorem own_d32_30 : decode prog_7_method_7_code 30 = .ok (.ifnull 15, 3) := by decide +kernel
theorem own_d32_45 : decode prog_7_method_7_code 45 = .ok (.aload_n 2, 1) := by decide +kernel
theorem own_d32_46 : decode prog_7_method_7_code 46 = .ok (.aload_n 1, 1) := by decide +kernel
theorem own_d32_47 : decode prog_7_method_7_code 47 = .ok (.invokevirtual 88, 3) := by decide +kernel
theorem own_pd15 : parseMethodDescriptor "(Lcom/example/epicycle/epicycle/Timeout;)Z" = some ⟨[(.object "com/example/epicycle/epicycle/Timeout")], some .boolean⟩ := by decide +kernel
theorem own_d32_50 : decode prog_7_method_7_code 50 = .ok (.istore_n 3, 1) := by decide +kernel
theorem own_pn31 : plainFor (⟨"java/lang/Integer", "numberOfTrailingZeros", "(I)I"⟩ : MethodName) = true := plainFor_of_name (by first | (simp [plainName, overriddenIn]; done) | decide +kernel)
theorem own_ef31_I (m : MethodId) (x0 : Int32) : entryFrame m #[(.int x0)] 2 = mkF m 0 #[.val (.int x0), .unset] [] := by first | (simp [entryFrame, mkF, argsToLocals, Value.category]; done) | rfl
theorem own_d31_0 : decode jdk_33_method_48_code 0 = .ok (.iload_n 0, 1) := by decide +kernel
theorem own_d31_1 : decode jdk_33_method_48_code 1 = .ok (.iconst (-1), 1) := by decide +kernel
theorem own_d31_2 : decode jdk_33_method_48_code 2 = .ok (.ixor, 1) := by decide +kernel
theorem own_d31_3 : decode jdk_33_method_48_code 3 = .ok (.iload_n 0, 1) := by decide +kernel
theorem own_d31_4 : decode jdk_33_method_48_code 4 = .ok (.iconst 1, 1) := by decide +kernel
theorem own_d31_5 : decode jdk_33_method_48_code 5 = .ok (.isub, 1) := by decide +kernel
theorem own_d31_6 : decode jdk_33_method_48_code 6 = .ok (.iand, 1) := by decide +kernel
theorem own_d31_7 : decode jdk_33_method_48_code 7 = .ok (.istore_n 0, 1) := by decide +kernel
theorem own_d31_8 : decode jdk_33_method_48_code 8 = .ok (.iload_n 0, 1) := by decide +kernel
theorem own_d31_9 : decode jdk_33_method_48_code 9 = .ok (.ifCond .gt 8, 3) := by decide +kernel
theorem own_d31_17 : decode jdk_33_method_48_code 17 = .ok (.iconst 1, 1) := by decide +kernel
theorem own_d31_18 : decode jdk_33_method_48_code 18 = .ok (.istore_n 1, 1) := by decide +kernel
theorem own_d31_19 : decode jdk_33_method_48_code 19 = .ok (.iload_n 0, 1) := by decide +kernel
theorem own_d31_20 : decode jdk_33_method_48_code 20 = .ok (.ldc_w 264, 3) := by decide +kernel
theorem own_d31_23 : decode jdk_33_method_48_code 23 = .ok (.if_icmp .le 11, 3) := by decide +kernel
theorem own_d31_26 : decode jdk_33_method_48_code 26 = .ok (.iinc 1 16, 3) := by decide +kernel
theorem own_d31_29 : decode jdk_33_method_48_code 29 = .ok (.iload_n 0, 1) := by decide +kernel
theorem own_d31_30 : decode jdk_33_method_48_code 30 = .ok (.bipush 16, 2) := by decide +kernel
theorem own_d31_32 : decode jdk_33_method_48_code 32 = .ok (.iushr, 1) := by decide +kernel
theorem own_d31_33 : decode jdk_33_method_48_code 33 = .ok (.istore_n 0, 1) := by decide +kernel
theorem own_d31_34 : decode jdk_33_method_48_code 34 = .ok (.iload_n 0, 1) := by decide +kernel
theorem own_d31_35 : decode jdk_33_method_48_code 35 = .ok (.sipush 256, 3) := by decide +kernel
theorem own_d31_38 : decode jdk_33_method_48_code 38 = .ok (.if_icmp .le 11, 3) := by decide +kernel
theorem own_d31_41 : decode jdk_33_method_48_code 41 = .ok (.iinc 1 8, 3) := by decide +kernel
theorem own_d31_44 : decode jdk_33_method_48_code 44 = .ok (.iload_n 0, 1) := by decide +kernel
theorem own_d31_45 : decode jdk_33_method_48_code 45 = .ok (.bipush 8, 2) := by decide +kernel
theorem own_d31_47 : decode jdk_33_method_48_code 47 = .ok (.iushr, 1) := by decide +kernel
theorem own_d31_48 : decode jdk_33_method_48_code 48 = .ok (.istore_n 0, 1) := by decide +kernel
theorem own_d31_49 : decode jdk_33_method_48_code 49 = .ok (.iload_n 0, 1) := by decide +kernel
theorem own_d31_50 : decode jdk_33_method_48_code 50 = .ok (.bipush 16, 2) := by decide +kernel
theorem own_d31_52 : decode jdk_33_method_48_code 52 = .ok (.if_icmp .le 10, 3) := by decide +kernel
theorem own_d31_55 : decode jdk_33_method_48_code 55 = .ok (.iinc 1 4, 3) := by decide +kernel
theorem own_d31_58 : decode jdk_33_method_48_code 58 = .ok (.iload_n 0, 1) := by decide +kernel
theorem own_d31_59 : decode jdk_33_method_48_code 59 = .ok (.iconst 4, 1) := by decide +kernel
theorem own_d31_60 : decode jdk_33_method_48_code 60 = .ok (.iushr, 1) := by decide +kernel
theorem own_d31_61 : decode jdk_33_method_48_code 61 = .ok (.istore_n 0, 1) := by decide +kernel
theorem own_d31_62 : decode jdk_33_method_48_code 62 = .ok (.iload_n 0, 1) := by decide +kernel
theorem own_d31_63 : decode jdk_33_method_48_code 63 = .ok (.iconst 4, 1) := by decide +kernel
theorem own_d31_64 : decode jdk_33_method_48_code 64 = .ok (.if_icmp .le 10, 3) := by decide +kernel
theorem own_d31_67 : decode jdk_33_method_48_code 67 = .ok (.iinc 1 2, 3) := by decide +kernel
theorem own_d31_70 : decode jdk_33_method_48_code 70 = .ok (.iload_n 0, 1) := by decide +kernel
theorem own_d31_71 : decode jdk_33_method_48_code 71 = .ok (.iconst 2, 1) := by decide +kernel
theorem own_d31_72 : decode jdk_33_method_48_code 72 = .ok (.iushr, 1) := by decide +kernel
theorem own_d31_73 : decode jdk_33_method_48_code 73 = .ok (.istore_n 0, 1) := by decide +kernel
theorem own_d31_74 : decode jdk_33_method_48_code 74 = .ok (.iload_n 1, 1) := by decide +kernel
theorem own_d31_75 : decode jdk_33_method_48_code 75 = .ok (.iload_n 0, 1) := by decide +kernel
theorem own_d31_76 : decode jdk_33_method_48_code 76 = .ok (.iconst 1, 1) := by decide +kernel
theorem own_d31_77 : decode jdk_33_method_48_code 77 = .ok (.iushr, 1) := by decide +kernel
theorem own_d31_78 : decode jdk_33_method_48_code 78 = .ok (.iadd, 1) := by decide +kernel
theorem own_d31_79 : decode jdk_33_method_48_code 79 = .ok (.ireturn, 1) := by decide +kernel
theorem own_d31_12 : decode jdk_33_method_48_code 12 = .ok (.iload_n 0, 1) := by decide +kernel
theorem own_d31_13 : decode jdk_33_method_48_code 13 = .ok (.bipush 32, 2) := by decide +kernel
theorem own_d31_15 : decode jdk_33_method_48_code 15 = .ok (.iand, 1) := by decide +kernel
theorem own_d31_16 : decode jdk_33_method_48_code 16 = .ok (.ireturn, 1) := by decide +kernel
theorem own_pn30 : plainFor (⟨"java/lang/Long", "numberOfTrailingZeros", "(J)I"⟩ : MethodName) = true := plainFor_of_name (by first | (simp [plainName, overriddenIn]; done) | decide +kernel)
theorem own_ef30_J (m : MethodId) (x0 : Int64) : entryFrame m #[(.long x0)] 3 = mkF m 0 #[.val (.long x0), .second, .unset] [] := by first | (simp [entryFrame, mkF, argsToLocals, Value.category]; done) | rfl
theorem own_d30_0 : decode jdk_35_method_49_code 0 = .ok (.lload_n 0, 1) := by decide +kernel
theorem own_d30_1 : decode jdk_35_method_49_code 1 = .ok (.l2i, 1) := by decide +kernel
theorem own_d30_2 : decode jdk_35_method_49_code 2 = .ok (.istore_n 2, 1) := by decide +kernel
theorem own_d30_3 : decode jdk_35_method_49_code 3 = .ok (.iload_n 2, 1) := by decide +kernel
theorem own_d30_4 : decode jdk_35_method_49_code 4 = .ok (.ifCond .ne 17, 3) := by decide +kernel
theorem own_d30_7 : decode jdk_35_method_49_code 7 = .ok (.bipush 32, 2) := by decide +kernel
theorem own_d30_9 : decode jdk_35_method_49_code 9 = .ok (.lload_n 0, 1) := by decide +kernel
theorem own_d30_10 : decode jdk_35_method_49_code 10 = .ok (.bipush 32, 2) := by decide +kernel
theorem own_d30_12 : decode jdk_35_method_49_code 12 = .ok (.lushr, 1) := by decide +kernel
theorem own_d30_13 : decode jdk_35_method_49_code 13 = .ok (.l2i, 1) := by decide +kernel
theorem own_d30_14 : decode jdk_35_method_49_code 14 = .ok (.invokestatic 311, 3) := by decide +kernel
theorem own_pd16 : parseMethodDescriptor "(I)I" = some ⟨[.int], some .int⟩ := by decide +kernel
theorem own_d30_17 : decode jdk_35_method_49_code 17 = .ok (.iadd, 1) := by decide +kernel
theorem own_d30_18 : decode jdk_35_method_49_code 18 = .ok (.goto 7, 3) := by decide +kernel
theorem own_d30_25 : decode jdk_35_method_49_code 25 = .ok (.ireturn, 1) := by decide +kernel
theorem own_d30_21 : decode jdk_35_method_49_code 21 = .ok (.iload_n 2, 1) := by decide +kernel
theorem own_d30_22 : decode jdk_35_method_49_code 22 = .ok (.invokestatic 311, 3) := by decide +kernel
theorem own_pn29 : plainFor (⟨"com/example/epicycle/epicycle/SlotRing", "firstOccupied", "()I"⟩ : MethodName) = true := plainFor_of_name (by first | (simp [plainName, overriddenIn]; done) | decide +kernel)
theorem own_ef29_R (m : MethodId) (x0 : Addr) : entryFrame m #[(.ref x0)] 1 = mkF m 0 #[.val (.ref x0)] [] := by first | (simp [entryFrame, mkF, argsToLocals, Value.category]; done) | rfl
theorem own_d29_0 : decode prog_7_method_4_code 0 = .ok (.aload_n 0, 1) := by decide +kernel
theorem own_d29_1 : decode prog_7_method_4_code 1 = .ok (.getfield 23, 3) := by decide +kernel
theorem own_d29_4 : decode prog_7_method_4_code 4 = .ok (.lconst 0, 1) := by decide +kernel
theorem own_d29_5 : decode prog_7_method_4_code 5 = .ok (.lcmp, 1) := by decide +kernel
theorem own_d29_6 : decode prog_7_method_4_code 6 = .ok (.ifCond .ne 7, 3) := by decide +kernel
theorem own_d29_9 : decode prog_7_method_4_code 9 = .ok (.iconst (-1), 1) := by decide +kernel
theorem own_d29_10 : decode prog_7_method_4_code 10 = .ok (.goto 10, 3) := by decide +kernel
theorem own_d29_20 : decode prog_7_method_4_code 20 = .ok (.ireturn, 1) := by decide +kernel
theorem own_d29_13 : decode prog_7_method_4_code 13 = .ok (.aload_n 0, 1) := by decide +kernel
theorem own_d29_14 : decode prog_7_method_4_code 14 = .ok (.getfield 23, 3) := by decide +kernel
theorem own_d29_17 : decode prog_7_method_4_code 17 = .ok (.invokestatic 27, 3) := by decide +kernel
theorem own_pd17 : parseMethodDescriptor "(J)I" = some ⟨[.long], some .int⟩ := by decide +kernel
theorem own_pn0 : plainFor (⟨"com/example/epicycle/epicycle/SlotRingTakePinLaw", "law", "(IJJ)Z"⟩ : MethodName) = true := plainFor_of_name (by first | (simp [plainName, overriddenIn]; done) | decide +kernel)
theorem own_ef0_IJJ (m : MethodId) (x0 : Int32) (x1 : Int64) (x2 : Int64) : entryFrame m #[(.int x0), (.long x1), (.long x2)] maxLocals = mkF m 0 #[.val (.int x0), .val (.long x1), .second, .val (.long x2), .second, .unset, .unset, .unset, .unset, .unset, .unset, .unset, .unset, .unset, .unset, .unset, .unset, .unset, .unset, .unset] [] := by first | (simp [entryFrame, mkF, argsToLocals, Value.category, maxLocals]; done) | rfl
theorem own_pd18 : parseMethodDescriptor "(ILcom/example/epicycle/epicycle/TimeoutTable;)V" = some ⟨[.int, (.object "com/example/epicycle/epicycle/TimeoutTable")], none⟩ := by decide +kernel
theorem own_pd19 : parseMethodDescriptor "(Lcom/example/epicycle/epicycle/Timeout$Holder;Ljava/lang/Runnable;J)V" = some ⟨[(.object "com/example/epicycle/epicycle/Timeout$Holder"), (.object "java/lang/Runnable"), .long], none⟩ := by decide +kernel
theorem own_pd20 : parseMethodDescriptor "(I)Lcom/example/epicycle/epicycle/TimeoutList;" = some ⟨[.int], some (.object "com/example/epicycle/epicycle/TimeoutList")⟩ := by decide +kernel
theorem own_pd21 : parseMethodDescriptor "()Lcom/example/epicycle/epicycle/Timeout;" = some ⟨[], some (.object "com/example/epicycle/epicycle/Timeout")⟩ := by decide +kernel
def OTT (Z : State) (h : Heap) (tt cl : Addr) : Prop :=
  Exa Z h tt "com/example/epicycle/epicycle/TimeoutTable" ∧ Fld Z h tt "com/example/epicycle/epicycle/TimeoutTable" "timeouts" "Lcom/example/epicycle/epicycle/ChunkedList;" (.ref cl) ∧ Fld Z h tt "com/example/epicycle/epicycle/TimeoutTable" "capacity" "I" (.int (64 : Int32)) ∧ Fld Z h tt "com/example/epicycle/epicycle/TimeoutTable" "freeCount" "I" (.int (0 : Int32))
theorem OTT.keep {Z : State} {h h' : Heap} {ws : List Addr} {tt cl : Addr} (F : OTT Z h tt cl) (K : Keep h h' ws) (n0 : tt ∉ ws) : OTT Z h' tt cl :=
  ⟨F.1.keep K, F.2.1.keep K n0, F.2.2.1.keep K n0, F.2.2.2.keep K n0⟩
def OCL0 (Z : State) (h : Heap) (cl ck : Addr) : Prop :=
  Exa Z h cl "com/example/epicycle/epicycle/ChunkedList" ∧ Fld Z h cl "com/example/epicycle/epicycle/ChunkedList" "size" "I" (.int (0 : Int32)) ∧ Fld Z h cl "com/example/epicycle/epicycle/ChunkedList" "chunks" "[[Ljava/lang/Object;" (.ref ck) ∧ Fld Z h cl "java/util/AbstractList" "modCount" "I" (.int (0 : Int32)) ∧ ORef Z h ck (.array (.object "java/lang/Object")) "[Ljava/lang/Object;" 1 (fun _ => .null)
theorem OCL0.keep {Z : State} {h h' : Heap} {ws : List Addr} {cl ck : Addr} (F : OCL0 Z h cl ck) (K : Keep h h' ws) (n0 : cl ∉ ws) (n1 : ck ∉ ws) : OCL0 Z h' cl ck :=
  ⟨F.1.keep K, F.2.1.keep K n0, F.2.2.1.keep K n0, F.2.2.2.1.keep K n0, F.2.2.2.2.keep K n1⟩
def OCL1 (Z : State) (h : Heap) (cl ck c0 : Addr) (n : Int32) (f g : Nat → Value) : Prop :=
  Exa Z h cl "com/example/epicycle/epicycle/ChunkedList" ∧ Fld Z h cl "com/example/epicycle/epicycle/ChunkedList" "size" "I" (.int n) ∧ Fld Z h cl "com/example/epicycle/epicycle/ChunkedList" "chunks" "[[Ljava/lang/Object;" (.ref ck) ∧ Fld Z h cl "java/util/AbstractList" "modCount" "I" (.int n) ∧ ORef Z h ck (.array (.object "java/lang/Object")) "[Ljava/lang/Object;" 1 f ∧ ORef Z h c0 (.object "java/lang/Object") "java/lang/Object" 1024 g
theorem OCL1.keep {Z : State} {h h' : Heap} {ws : List Addr} {cl ck c0 : Addr} {n : Int32} {f g : Nat → Value} (F : OCL1 Z h cl ck c0 n f g) (K : Keep h h' ws) (n0 : cl ∉ ws) (n1 : ck ∉ ws) (n2 : c0 ∉ ws) : OCL1 Z h' cl ck c0 n f g :=
  ⟨F.1.keep K, F.2.1.keep K n0, F.2.2.1.keep K n0, F.2.2.2.1.keep K n0, F.2.2.2.2.1.keep K n1, F.2.2.2.2.2.keep K n2⟩
def OSL (Z : State) (h : Heap) (sl tt : Addr) (hd tl ct : Int32) (ea : Int64) : Prop :=
  Exa Z h sl "com/example/epicycle/epicycle/SlotRing$Slot" ∧ Fld Z h sl "com/example/epicycle/epicycle/TimeoutList" "head" "I" (.int hd) ∧ Fld Z h sl "com/example/epicycle/epicycle/TimeoutList" "tail" "I" (.int tl) ∧ Fld Z h sl "com/example/epicycle/epicycle/TimeoutList" "table" "Lcom/example/epicycle/epicycle/TimeoutTable;" (.ref tt) ∧ Fld Z h sl "com/example/epicycle/epicycle/SlotRing$Slot" "count" "I" (.int ct) ∧ Fld Z h sl "com/example/epicycle/epicycle/SlotRing$Slot" "earliest" "J" (.long ea) ∧ Fld Z h sl "com/example/epicycle/epicycle/SlotRing$Slot" "nested" "Lcom/example/epicycle/epicycle/SlotRing;" .null
theorem OSL.keep {Z : State} {h h' : Heap} {ws : List Addr} {sl tt : Addr} {hd tl ct : Int32} {ea : Int64} (F : OSL Z h sl tt hd tl ct ea) (K : Keep h h' ws) (n0 : sl ∉ ws) : OSL Z h' sl tt hd tl ct ea :=
  ⟨F.1.keep K, F.2.1.keep K n0, F.2.2.1.keep K n0, F.2.2.2.1.keep K n0, F.2.2.2.2.1.keep K n0, F.2.2.2.2.2.1.keep K n0, F.2.2.2.2.2.2.keep K n0⟩
def OSR (Z : State) (h : Heap) (rg sa tt : Addr) (lv : Int32) (oc : Int64) (f : Nat → Value) : Prop :=
  Exa Z h rg "com/example/epicycle/epicycle/SlotRing" ∧ Fld Z h rg "com/example/epicycle/epicycle/SlotRing" "slots" "[Lcom/example/epicycle/epicycle/SlotRing$Slot;" (.ref sa) ∧ Fld Z h rg "com/example/epicycle/epicycle/SlotRing" "level" "I" (.int lv) ∧ Fld Z h rg "com/example/epicycle/epicycle/SlotRing" "table" "Lcom/example/epicycle/epicycle/TimeoutTable;" (.ref tt) ∧ Fld Z h rg "com/example/epicycle/epicycle/SlotRing" "occupied" "J" (.long oc) ∧ ORef Z h sa (.object "com/example/epicycle/epicycle/SlotRing$Slot") "com/example/epicycle/epicycle/SlotRing$Slot" 64 f
theorem OSR.keep {Z : State} {h h' : Heap} {ws : List Addr} {rg sa tt : Addr} {lv : Int32} {oc : Int64} {f : Nat → Value} (F : OSR Z h rg sa tt lv oc f) (K : Keep h h' ws) (n0 : rg ∉ ws) (n1 : sa ∉ ws) : OSR Z h' rg sa tt lv oc f :=
  ⟨F.1.keep K, F.2.1.keep K n0, F.2.2.1.keep K n0, F.2.2.2.1.keep K n0, F.2.2.2.2.1.keep K n0, F.2.2.2.2.2.keep K n1⟩
def OTO (Z : State) (h : Heap) (x : Addr) (ft : Int64) (pv nx : Int32) : Prop :=
  Exa Z h x "com/example/epicycle/epicycle/Timeout" ∧ Fld Z h x "com/example/epicycle/epicycle/Timeout" "fireTick" "J" (.long ft) ∧ Fld Z h x "com/example/epicycle/epicycle/Timeout" "prev" "I" (.int pv) ∧ Fld Z h x "com/example/epicycle/epicycle/Timeout" "next" "I" (.int nx)
theorem OTO.keep {Z : State} {h h' : Heap} {ws : List Addr} {x : Addr} {ft : Int64} {pv nx : Int32} (F : OTO Z h x ft pv nx) (K : Keep h h' ws) (n0 : x ∉ ws) : OTO Z h' x ft pv nx :=
  ⟨F.1.keep K, F.2.1.keep K n0, F.2.2.1.keep K n0, F.2.2.2.keep K n0⟩
def OCLn (Z : State) (h : Heap) (cl : Addr) : Prop :=
  Exa Z h cl "com/example/epicycle/epicycle/ChunkedList" ∧ Fld Z h cl "com/example/epicycle/epicycle/ChunkedList" "size" "I" (.int (0 : Int32)) ∧ Fld Z h cl "com/example/epicycle/epicycle/ChunkedList" "chunks" "[[Ljava/lang/Object;" .null ∧ Fld Z h cl "java/util/AbstractList" "modCount" "I" (.int (0 : Int32))
theorem OCLn.keep {Z : State} {h h' : Heap} {ws : List Addr} {cl : Addr} (F : OCLn Z h cl) (K : Keep h h' ws) (n0 : cl ∉ ws) : OCLn Z h' cl :=
  ⟨F.1.keep K, F.2.1.keep K n0, F.2.2.1.keep K n0, F.2.2.2.keep K n0⟩
set_option maxRecDepth 65536 in
set_option maxHeartbeats 40000000 in
theorem rmAC (l : Launch) (Z : State) (a0 : Array Value) (hw : ∀ d ∈ tables_1, d.before a0 Z = true) (a : Addr) (h0 : Heap)  :
    OMet l Z (⟨"java/util/AbstractCollection", "<init>", "()V"⟩ : MethodName) jdk_22_method_1_code 1 none (⟨1, 0, 0, 12⟩ : Room) #[(.ref a)] h0 (fun v h L => v = none ∧ h = h0 ∧ L = []) := by
  refine own_enter own_pn5 ?_
  intro p e s m below meth c T0 X0 hC e0
  obtain ⟨hx, hZ, hby, hml, hown, hret, hlk, hnm⟩ := hC
  have hown : s.vm.findClass "java/util/AbstractCollection" = some m.cls := hown
  refine own_at (own_ef5_R m a) ?_
  show OFin p e below s _ _ _ (T0.setTop (mkF m 0 #[.val (.ref a)] []))
  refine own_st (fun _ kS => XS.aloadN X0.here hx rfl (hb hby own_d5_0) rfl rfl kS) ?_
  show OFin p e below s _ _ _ (T0.setTop (mkF m 1 #[.val (.ref a)] [(.ref a)]))
  obtain ⟨T1, X1, e1, st1⟩ := initO X0 hx hZ hown (own_w hw 26 rfl) (own_w hw 7 rfl) (own_w hw 8 rfl) e0 (g := (mkF m 1 #[.val (.ref a)] [(.ref a)])) rfl (by rw [hml]; rfl) rfl (hb hby own_d5_1) (by decide) (W := 0) (by show 2 * 0 + _ ≤ _; exact Nat.le_of_eq rfl) (by decide)
  refine own_st (st1) ?_
  clear st1 X0 e0
  show OFin p e below s _ _ _ (T1.setTop (mkF m 4 #[.val (.ref a)] []))
  exact own_retV X1 hx hret hlk (hb hby own_d5_4) (by decide) (by decide) ⟨rfl, e1, rfl⟩
set_option maxRecDepth 65536 in
set_option maxHeartbeats 40000000 in
theorem rmAL (l : Launch) (Z : State) (a0 : Array Value) (hw : ∀ d ∈ tables_1, d.before a0 Z = true) (a : Addr) (h0 : Heap) (n0 : Nat) (Z0 : n0 ≤ h0.size)  (B_OCLn0 : OCLn Z h0 a) (g_a : n0 ≤ a)   :
    OMet l Z (⟨"java/util/AbstractList", "<init>", "()V"⟩ : MethodName) jdk_39_method_1_code 1 none (⟨2, 0, 0, 24⟩ : Room) #[(.ref a)] h0 (fun v h L => v = none ∧ Fr n0 L ∧ Keep h0 h [a] ∧ OCLn Z h a) := by
  refine own_enter own_pn4 ?_
  intro p e s m below meth c T0 X0 hC e0
  obtain ⟨hx, hZ, hby, hml, hown, hret, hlk, hnm⟩ := hC
  have hown : s.vm.findClass "java/util/AbstractList" = some m.cls := hown
  refine own_at (own_ef4_R m a) ?_
  show OFin p e below s _ _ _ (T0.setTop (mkF m 0 #[.val (.ref a)] []))
  have N0 := Fr.nil n0
  have kp0 := Keep.refl h0 [a]
  obtain ⟨u2, u3, u4, u5⟩ := B_OCLn0
  refine own_st (fun _ kS => XS.aloadN X0.here hx rfl (hb hby own_d4_0) rfl rfl kS) ?_
  show OFin p e below s _ _ _ (T0.setTop (mkF m 1 #[.val (.ref a)] [(.ref a)]))
  obtain ⟨v6, T6, L6, X6, hQ6, st6⟩ := own_init X0 hx hZ (y := (⟨"java/util/AbstractCollection", "<init>", "()V"⟩ : MethodName)) (rm := ⟨1, 0, 0, 12⟩) (W := 0) (a := a) (argsL := []) (rest := []) rfl hown (own_w hw 20 rfl) (own_w hw 21 rfl) (own_w hw 24 rfl) (own_w hw 25 rfl) (rmAC l Z a0 hw a h0) e0 (g := (mkF m 1 #[.val (.ref a)] [(.ref a)])) rfl (by rw [hml]; rfl) (lenOf own_pd0 rfl) rfl (by show 2 * 0 + _ ≤ _; exact Nat.le_of_eq rfl) (hb hby own_d4_1) (by decide) (by decide) (by decide) (by decide)
  obtain ⟨rfl, e6, rfl⟩ := hQ6
  rw [List.append_nil] at X6
  refine own_st (st6) ?_
  clear st6 X0 e0
  show OFin p e below s _ _ _ (T6.setTop (mkF m 4 #[.val (.ref a)] []))
  refine own_st (fun _ kS => XS.aloadN X6.here hx rfl (hb hby own_d4_4) rfl rfl kS) ?_
  show OFin p e below s _ _ _ (T6.setTop (mkF m 5 #[.val (.ref a)] [(.ref a)]))
  refine own_st (fun _ kS => XS.iconst X6.here hx rfl (hb hby own_d4_5) kS) ?_
  show OFin p e below s _ _ _ (T6.setTop (mkF m 6 #[.val (.ref a)] [(.int (0 : Int32)), (.ref a)]))
  obtain ⟨T7, h7, X7, e7, W7, st7⟩ := putF X6 hx hZ hown (host := "") (Or.inl (own_w hw 27 rfl)) Via.refl e6 u5 u2 (Or.inl (own_w hw 28 rfl)) (own_w hw 10 rfl) (ty := .int) (by decide) rfl rfl (g := (mkF m 6 #[.val (.ref a)] [(.int (0 : Int32)), (.ref a)])) rfl rfl (hb hby own_d4_6)
  have f8 := u5.same W7
  have f9 := u2.wr W7
  clear u2
  have f10 := u3.other W7 (Or.inr (slot_ne (Or.inl (own_w hw 142 rfl)) (Or.inl (own_w hw 28 rfl)) (by decide) (t := .int) (t' := .int) (by decide) (by decide)))
  clear u3
  have f11 := u4.other W7 (Or.inr (slot_ne (Or.inl (own_w hw 32 rfl)) (Or.inl (own_w hw 28 rfl)) (by decide) (t := (.array (.array (.object "java/lang/Object")))) (t' := .int) (by decide) (by decide)))
  clear u4
  have sz7 : n0 ≤ h7.size := by rw [W7.size]; exact Z0
  have fr7 := Fr.snoc X7 N0 g_a
  clear N0
  have kp7 := kp0.wr W7 (Or.inl (List.mem_of_getElem? (i := 0) rfl))
  clear kp0
  refine own_st (st7) ?_
  clear st7 X6 e6 W7 u5
  show OFin p e below s _ _ _ (T7.setTop (mkF m 9 #[.val (.ref a)] []))
  exact own_retV X7 hx hret hlk (hb hby own_d4_9) (by decide) (by decide) (by show _ ∧ _ ∧ Keep h0 T7.heap [a] ∧ _; rw [e7]; exact ⟨rfl, fr7, kp7, ⟨f9, f10, f11, f8⟩⟩)
set_option maxRecDepth 65536 in
set_option maxHeartbeats 40000000 in
theorem rmCL (l : Launch) (Z : State) (a0 : Array Value) (hw : ∀ d ∈ tables_1, d.before a0 Z = true) (a : Addr) (h0 : Heap) (n0 : Nat) (Z0 : n0 ≤ h0.size)  (B_OCLn0 : OCLn Z h0 a) (g_a : n0 ≤ a)   :
    OMet l Z (⟨"com/example/epicycle/epicycle/ChunkedList", "<init>", "()V"⟩ : MethodName) prog_2_method_1_code 1 none (⟨3, 1, 1, 36⟩ : Room) #[(.ref a)] h0 (fun v h L => v = none ∧ Fr n0 L ∧ Keep h0 h [a] ∧ ∃ ck, h0.size ≤ ck ∧ OCL0 Z h a ck) := by
  refine own_enter own_pn3 ?_
  intro p e s m below meth c T0 X0 hC e0
  obtain ⟨hx, hZ, hby, hml, hown, hret, hlk, hnm⟩ := hC
  have hown : s.vm.findClass "com/example/epicycle/epicycle/ChunkedList" = some m.cls := hown
  refine own_at (own_ef3_R m a) ?_
  show OFin p e below s _ _ _ (T0.setTop (mkF m 0 #[.val (.ref a)] []))
  have N0 := Fr.nil n0
  have kp0 := Keep.refl h0 [a]
  obtain ⟨u13, u14, u15, u16⟩ := B_OCLn0
  refine own_st (fun _ kS => XS.aloadN X0.here hx rfl (hb hby own_d3_0) rfl rfl kS) ?_
  show OFin p e below s _ _ _ (T0.setTop (mkF m 1 #[.val (.ref a)] [(.ref a)]))
  obtain ⟨v17, T17, L17, X17, hQ17, st17⟩ := own_init X0 hx hZ (y := (⟨"java/util/AbstractList", "<init>", "()V"⟩ : MethodName)) (rm := ⟨2, 0, 0, 24⟩) (W := 0) (a := a) (argsL := []) (rest := []) rfl hown (own_w hw 15 rfl) (own_w hw 16 rfl) (own_w hw 18 rfl) (own_w hw 19 rfl) (rmAL l Z a0 hw a h0 n0 Z0 ⟨u13, u14, u15, u16⟩ g_a) e0 (g := (mkF m 1 #[.val (.ref a)] [(.ref a)])) rfl (by rw [hml]; rfl) (lenOf own_pd0 rfl) rfl (by show 2 * 0 + _ ≤ _; exact Nat.le_of_eq rfl) (hb hby own_d3_1) (by decide) (by decide) (by decide) (by decide)
  obtain ⟨rfl, N17, K17, B17_0⟩ := hQ17
  have fr17 := Fr.app N0 N17
  clear N0 N17
  have kp17 := kp0.trans K17 (allS (Or.inl (List.mem_of_getElem? (i := 0) rfl)) all0)
  clear kp0
  have f18 := u13.keep K17
  clear u13
  clear u14
  clear u15
  clear u16
  have sz17 : n0 ≤ T17.heap.size := Nat.le_trans Z0 K17.1
  clear K17
  obtain ⟨u22, u23, u24, u25⟩ := B17_0
  refine own_st (st17) ?_
  clear st17 X0 e0
  show OFin p e below s _ _ _ (T17.setTop (mkF m 4 #[.val (.ref a)] []))
  refine own_st (fun _ kS => XS.aloadN X17.here hx rfl (hb hby own_d3_4) rfl rfl kS) ?_
  show OFin p e below s _ _ _ (T17.setTop (mkF m 5 #[.val (.ref a)] [(.ref a)]))
  refine own_st (fun _ kS => XS.iconst X17.here hx rfl (hb hby own_d3_5) kS) ?_
  show OFin p e below s _ _ _ (T17.setTop (mkF m 6 #[.val (.ref a)] [(.int (1 : Int32)), (.ref a)]))
  obtain ⟨T26, h26, k26, X26, e26, E26, A26, Ex26, O26, st26⟩ := newRA X17 hx hZ hown rfl (own_w hw 29 rfl) (own_w hw 30 rfl) rfl (g := (mkF m 6 #[.val (.ref a)] [(.int (1 : Int32)), (.ref a)])) rfl (hb hby own_d3_6) rfl (by decide) (cap := 1) (by decide) (by decide) (by decide) (by decide) rfl
  obtain ⟨ck, g26⟩ : ∃ z, z = T17.heap.size := ⟨_, rfl⟩
  rw [← g26] at A26 st26 Ex26
  have ne_a_ck : a ≠ ck := Nat.ne_of_lt (Nat.lt_of_lt_of_le u22.lt (Nat.le_of_eq g26.symm))
  have g_ck : n0 ≤ ck := Nat.le_trans sz17 (Nat.le_of_eq g26.symm)
  have f27 := u22.ext E26
  clear u22
  have f28 := u23.ext E26
  clear u23
  have f29 := u24.ext E26
  clear u24
  have f30 := u25.ext E26
  clear u25
  have f31 : ORef Z h26 ck (.array (.object "java/lang/Object")) "[Ljava/lang/Object;" 1 (fun _ => .null) := ORef.newA A26 O26 rfl
  have sz26 : n0 ≤ h26.size := Nat.le_trans sz17 E26.1
  clear sz17
  have kp26 := kp17.ext E26
  have kz_ck := Nat.le_trans kp17.1 (Nat.le_of_eq g26.symm)
  clear kp17
  refine own_st (st26) ?_
  clear st26 X17 E26 g26
  show OFin p e below s _ _ _ (T26.setTop (mkF m 9 #[.val (.ref a)] [(.ref ck), (.ref a)]))
  obtain ⟨T32, h32, X32, e32, W32, st32⟩ := putF X26 hx hZ hown (host := "") (Or.inl (own_w hw 31 rfl)) Via.refl e26 f29 f27 (Or.inl (own_w hw 32 rfl)) (own_w hw 10 rfl) (ty := (.array (.array (.object "java/lang/Object")))) (by decide) rfl rfl (g := (mkF m 9 #[.val (.ref a)] [(.ref ck), (.ref a)])) rfl rfl (hb hby own_d3_9)
  have f33 := f29.same W32
  have f34 := f27.wr W32
  clear f27
  have f35 := f28.other W32 (Or.inr (slot_ne (Or.inl (own_w hw 142 rfl)) (Or.inl (own_w hw 32 rfl)) (by decide) (t := .int) (t' := (.array (.array (.object "java/lang/Object")))) (by decide) (by decide)))
  clear f28
  have f37 := f30.other W32 (Or.inr (slot_ne (Or.inl (own_w hw 28 rfl)) (Or.inl (own_w hw 32 rfl)) (by decide) (t := .int) (t' := (.array (.array (.object "java/lang/Object")))) (by decide) (by decide)))
  clear f30
  have f38 := f31.other W32 (Ne.symm ne_a_ck)
  clear f31
  have f39 := Ex26.wr W32
  clear Ex26
  have sz32 : n0 ≤ h32.size := by rw [W32.size]; exact sz26
  clear sz26
  have fr32 := Fr.snoc X32 fr17 g_a
  clear fr17
  have kp32 := kp26.wr W32 (Or.inl (List.mem_of_getElem? (i := 0) rfl))
  clear kp26
  refine own_st (st32) ?_
  clear st32 X26 e26 W32 f29
  show OFin p e below s _ _ _ (T32.setTop (mkF m 12 #[.val (.ref a)] []))
  exact own_retV X32 hx hret hlk (hb hby own_d3_12) (by decide) (by decide) (by show _ ∧ _ ∧ Keep h0 T32.heap [a] ∧ _; rw [e32]; exact ⟨rfl, fr32, kp32, ck, kz_ck, ⟨f34, f35, f33, f37, f38⟩⟩)
def own_words (q : Int64) : Int64 := (((q + 64) - 1).toUInt64 >>> ((6 : Int32) &&& 0x3f).toInt64.toUInt64).toInt64
set_option maxRecDepth 65536 in
set_option maxHeartbeats 40000000 in
theorem rmWF (l : Launch) (Z : State) (a0 : Array Value) (hw : ∀ d ∈ tables_1, d.before a0 Z = true) (q1 : Int64) (h0 : Heap)    :
    OMet l Z (⟨"com/example/epicycle/epicycle/TimeoutTable", "wordsFor", "(J)J"⟩ : MethodName) prog_20_method_8_code 2 (some .long) (⟨0, 0, 0, 0⟩ : Room) #[(.long q1)] h0 (fun v h L => v = some (.long (own_words q1)) ∧ h = h0 ∧ L = []) := by
  refine own_enter own_pn7 ?_
  intro p e s m below meth c T0 X0 hC e0
  obtain ⟨hx, hZ, hby, hml, hown, hret, hlk, hnm⟩ := hC
  have hown : s.vm.findClass "com/example/epicycle/epicycle/TimeoutTable" = some m.cls := hown
  refine own_at (own_ef7_J m q1) ?_
  show OFin p e below s _ _ _ (T0.setTop (mkF m 0 #[.val (.long q1), .second] []))
  refine own_st (fun _ kS => XS.lloadN X0.here hx rfl (hb hby own_d7_0) rfl kS) ?_
  show OFin p e below s _ _ _ (T0.setTop (mkF m 1 #[.val (.long q1), .second] [(.long q1)]))
  refine own_st (X0.ldc2Long hx hown (mvT hZ (own_w hw 38 rfl)) (g := (mkF m 1 #[.val (.long q1), .second] [(.long q1)])) rfl (hb hby own_d7_1)) ?_
  show OFin p e below s _ _ _ (T0.setTop (mkF m 4 #[.val (.long q1), .second] [(.long (64 : Int64)), (.long q1)]))
  refine own_st (fun _ kS => XS.ladd X0.here hx rfl (hb hby own_d7_4) rfl kS) ?_
  show OFin p e below s _ _ _ (T0.setTop (mkF m 5 #[.val (.long q1), .second] [(.long (q1 + (64 : Int64)))]))
  refine own_st (fun _ kS => XS.lconst X0.here hx rfl (hb hby own_d7_5) kS) ?_
  show OFin p e below s _ _ _ (T0.setTop (mkF m 6 #[.val (.long q1), .second] [(.long (1 : Int64)), (.long (q1 + (64 : Int64)))]))
  refine own_st (fun _ kS => XS.lsub X0.here hx rfl (hb hby own_d7_6) rfl kS) ?_
  show OFin p e below s _ _ _ (T0.setTop (mkF m 7 #[.val (.long q1), .second] [(.long ((q1 + (64 : Int64)) - (1 : Int64)))]))
  refine own_st (fun _ kS => XS.bipush X0.here hx rfl (hb hby own_d7_7) kS) ?_
  show OFin p e below s _ _ _ (T0.setTop (mkF m 9 #[.val (.long q1), .second] [(.int (6 : Int32)), (.long ((q1 + (64 : Int64)) - (1 : Int64)))]))
  refine own_st (fun _ kS => XS.lushr X0.here hx rfl (hb hby own_d7_9) rfl kS) ?_
  show OFin p e below s _ _ _ (T0.setTop (mkF m 10 #[.val (.long q1), .second] [(.long ((((q1 + (64 : Int64)) - (1 : Int64)).toUInt64 >>> ((6 : Int32) &&& 0x3f).toInt64.toUInt64).toInt64))]))
  exact own_ret X0 hx (t := .long) hret hlk rfl (Or.inr (Or.inl ⟨rfl, rfl, _, rfl⟩)) (hb hby own_d7_10) (by decide) (by decide) ⟨rfl, e0, rfl⟩
set_option maxRecDepth 65536 in
set_option maxHeartbeats 40000000 in
theorem rmLF (l : Launch) (Z : State) (a0 : Array Value) (hw : ∀ d ∈ tables_1, d.before a0 Z = true) (p1 : Int32) (h0 : Heap) (n0 : Nat) (Z0 : n0 ≤ h0.size)     (hp : p1 = 64) :
    OMet l Z (⟨"com/example/epicycle/epicycle/TimeoutTable", "levelsFor", "(I)[[J"⟩ : MethodName) prog_20_method_7_code 6 (some (.array (.array .long))) (⟨1, 2, 2, 15⟩ : Room) #[(.int p1)] h0 (fun v h L => (∃ fr, v = some (.ref fr) ∧ h0.size ≤ fr) ∧ Fr n0 L ∧ Keep h0 h [] ∧ True) := by
  refine own_enter own_pn6 ?_
  intro p e s m below meth c T0 X0 hC e0
  obtain ⟨hx, hZ, hby, hml, hown, hret, hlk, hnm⟩ := hC
  have hown : s.vm.findClass "com/example/epicycle/epicycle/TimeoutTable" = some m.cls := hown
  refine own_at (own_ef6_I m p1) ?_
  show OFin p e below s _ _ _ (T0.setTop (mkF m 0 #[.val (.int p1), .unset, .unset, .unset, .unset, .unset] []))
  have N0 := Fr.nil n0
  have kp0 := Keep.refl h0 []
  subst hp
  show OFin p e below s _ _ _ (T0.setTop (mkF m 0 #[.val (.int (64 : Int32)), .unset, .unset, .unset, .unset, .unset] []))
  refine own_st (fun _ kS => XS.iconst X0.here hx rfl (hb hby own_d6_0) kS) ?_
  show OFin p e below s _ _ _ (T0.setTop (mkF m 1 #[.val (.int (64 : Int32)), .unset, .unset, .unset, .unset, .unset] [(.int (1 : Int32))]))
  refine own_st (fun _ kS => XS.istoreN X0.here hx rfl (hb hby own_d6_1) rfl (l' := #[.val (.int (64 : Int32)), .val (.int (1 : Int32)), .unset, .unset, .unset, .unset]) rfl kS) ?_
  show OFin p e below s _ _ _ (T0.setTop (mkF m 2 #[.val (.int (64 : Int32)), .val (.int (1 : Int32)), .unset, .unset, .unset, .unset] []))
  refine own_st (fun _ kS => XS.iloadN X0.here hx rfl (hb hby own_d6_2) rfl kS) ?_
  show OFin p e below s _ _ _ (T0.setTop (mkF m 3 #[.val (.int (64 : Int32)), .val (.int (1 : Int32)), .unset, .unset, .unset, .unset] [(.int (64 : Int32))]))
  refine own_st (fun _ kS => XS.i2l X0.here hx rfl (hb hby own_d6_3) rfl kS) ?_
  show OFin p e below s _ _ _ (T0.setTop (mkF m 4 #[.val (.int (64 : Int32)), .val (.int (1 : Int32)), .unset, .unset, .unset, .unset] [(.long ((64 : Int32).toInt64))]))
  refine own_st (fun _ kS => XS.lstoreN X0.here hx rfl (hb hby own_d6_4) rfl (l' := #[.val (.int (64 : Int32)), .val (.int (1 : Int32)), .val (.long ((64 : Int32).toInt64)), .second, .unset, .unset]) rfl kS) ?_
  show OFin p e below s _ _ _ (T0.setTop (mkF m 5 #[.val (.int (64 : Int32)), .val (.int (1 : Int32)), .val (.long ((64 : Int32).toInt64)), .second, .unset, .unset] []))
  refine own_st (fun _ kS => XS.lloadN X0.here hx rfl (hb hby own_d6_5) rfl kS) ?_
  show OFin p e below s _ _ _ (T0.setTop (mkF m 6 #[.val (.int (64 : Int32)), .val (.int (1 : Int32)), .val (.long ((64 : Int32).toInt64)), .second, .unset, .unset] [(.long ((64 : Int32).toInt64))]))
  refine own_st (X0.ldc2Long hx hown (mvT hZ (own_w hw 38 rfl)) (g := (mkF m 6 #[.val (.int (64 : Int32)), .val (.int (1 : Int32)), .val (.long ((64 : Int32).toInt64)), .second, .unset, .unset] [(.long ((64 : Int32).toInt64))])) rfl (hb hby own_d6_6)) ?_
  show OFin p e below s _ _ _ (T0.setTop (mkF m 9 #[.val (.int (64 : Int32)), .val (.int (1 : Int32)), .val (.long ((64 : Int32).toInt64)), .second, .unset, .unset] [(.long (64 : Int64)), (.long ((64 : Int32).toInt64))]))
  refine own_st (fun _ kS => XS.lcmp X0.here hx rfl (hb hby own_d6_9) rfl kS) ?_
  show OFin p e below s _ _ _ (T0.setTop (mkF m 10 #[.val (.int (64 : Int32)), .val (.int (1 : Int32)), .val (.long ((64 : Int32).toInt64)), .second, .unset, .unset] [(.int (lcmpW ((64 : Int32).toInt64) (64 : Int64)))]))
  refine own_st (fun _ kS => XS.ifYes X0.here hx rfl (pc0 := 10) (pc' := 24) rfl (hb hby own_d6_10) rfl ((if0 _ _).trans (flt (by decide)).2.2.2) (by decide) (by decide) kS) ?_
  show OFin p e below s _ _ _ (T0.setTop (mkF m 24 #[.val (.int (64 : Int32)), .val (.int (1 : Int32)), .val (.long ((64 : Int32).toInt64)), .second, .unset, .unset] []))
  refine own_st (fun _ kS => XS.iloadN X0.here hx rfl (hb hby own_d6_24) rfl kS) ?_
  show OFin p e below s _ _ _ (T0.setTop (mkF m 25 #[.val (.int (64 : Int32)), .val (.int (1 : Int32)), .val (.long ((64 : Int32).toInt64)), .second, .unset, .unset] [(.int (1 : Int32))]))
  obtain ⟨T40, h40, k40, X40, e40, E40, A40, Ex40, O40, st40⟩ := newRA X0 hx hZ hown rfl (own_w hw 39 rfl) (own_w hw 40 rfl) e0 (g := (mkF m 25 #[.val (.int (64 : Int32)), .val (.int (1 : Int32)), .val (.long ((64 : Int32).toInt64)), .second, .unset, .unset] [(.int (1 : Int32))])) rfl (hb hby own_d6_25) rfl (by decide) (cap := 1) (by decide) (by decide) (by decide) (by decide) rfl
  obtain ⟨fr, g40⟩ : ∃ z, z = h0.size := ⟨_, rfl⟩
  rw [← g40] at A40 st40 Ex40
  have g_fr : n0 ≤ fr := Nat.le_trans Z0 (Nat.le_of_eq g40.symm)
  have f41 : ORef Z h40 fr (.array .long) "[J" 1 (fun _ => .null) := ORef.newA A40 O40 rfl
  have sz40 : n0 ≤ h40.size := Nat.le_trans Z0 E40.1
  have kp40 := kp0.ext E40
  have kz_fr := Nat.le_trans kp0.1 (Nat.le_of_eq g40.symm)
  clear kp0
  refine own_st (st40) ?_
  clear st40 X0 e0 E40 g40
  show OFin p e below s _ _ _ (T40.setTop (mkF m 28 #[.val (.int (64 : Int32)), .val (.int (1 : Int32)), .val (.long ((64 : Int32).toInt64)), .second, .unset, .unset] [(.ref fr)]))
  refine own_st (fun _ kS => XS.astoreN X40.here hx rfl (hb hby own_d6_28) rfl rfl (l' := #[.val (.int (64 : Int32)), .val (.int (1 : Int32)), .val (.ref fr), .unset, .unset, .unset]) rfl kS) ?_
  show OFin p e below s _ _ _ (T40.setTop (mkF m 29 #[.val (.int (64 : Int32)), .val (.int (1 : Int32)), .val (.ref fr), .unset, .unset, .unset] []))
  refine own_st (fun _ kS => XS.iloadN X40.here hx rfl (hb hby own_d6_29) rfl kS) ?_
  show OFin p e below s _ _ _ (T40.setTop (mkF m 30 #[.val (.int (64 : Int32)), .val (.int (1 : Int32)), .val (.ref fr), .unset, .unset, .unset] [(.int (64 : Int32))]))
  refine own_st (fun _ kS => XS.i2l X40.here hx rfl (hb hby own_d6_30) rfl kS) ?_
  show OFin p e below s _ _ _ (T40.setTop (mkF m 31 #[.val (.int (64 : Int32)), .val (.int (1 : Int32)), .val (.ref fr), .unset, .unset, .unset] [(.long ((64 : Int32).toInt64))]))
  refine own_st (fun _ kS => XS.lstoreN X40.here hx rfl (hb hby own_d6_31) rfl (l' := #[.val (.int (64 : Int32)), .val (.int (1 : Int32)), .val (.ref fr), .val (.long ((64 : Int32).toInt64)), .second, .unset]) rfl kS) ?_
  show OFin p e below s _ _ _ (T40.setTop (mkF m 32 #[.val (.int (64 : Int32)), .val (.int (1 : Int32)), .val (.ref fr), .val (.long ((64 : Int32).toInt64)), .second, .unset] []))
  refine own_st (fun _ kS => XS.iconst X40.here hx rfl (hb hby own_d6_32) kS) ?_
  show OFin p e below s _ _ _ (T40.setTop (mkF m 33 #[.val (.int (64 : Int32)), .val (.int (1 : Int32)), .val (.ref fr), .val (.long ((64 : Int32).toInt64)), .second, .unset] [(.int (0 : Int32))]))
  refine own_st (fun _ kS => XS.istore X40.here hx rfl (hb hby own_d6_33) rfl (l' := #[.val (.int (64 : Int32)), .val (.int (1 : Int32)), .val (.ref fr), .val (.long ((64 : Int32).toInt64)), .second, .val (.int (0 : Int32))]) rfl kS) ?_
  show OFin p e below s _ _ _ (T40.setTop (mkF m 35 #[.val (.int (64 : Int32)), .val (.int (1 : Int32)), .val (.ref fr), .val (.long ((64 : Int32).toInt64)), .second, .val (.int (0 : Int32))] []))
  refine own_st (fun _ kS => XS.iload X40.here hx rfl (hb hby own_d6_35) rfl kS) ?_
  show OFin p e below s _ _ _ (T40.setTop (mkF m 37 #[.val (.int (64 : Int32)), .val (.int (1 : Int32)), .val (.ref fr), .val (.long ((64 : Int32).toInt64)), .second, .val (.int (0 : Int32))] [(.int (0 : Int32))]))
  refine own_st (fun _ kS => XS.iloadN X40.here hx rfl (hb hby own_d6_37) rfl kS) ?_
  show OFin p e below s _ _ _ (T40.setTop (mkF m 38 #[.val (.int (64 : Int32)), .val (.int (1 : Int32)), .val (.ref fr), .val (.long ((64 : Int32).toInt64)), .second, .val (.int (0 : Int32))] [(.int (1 : Int32)), (.int (0 : Int32))]))
  refine own_st (fun _ kS => XS.icmpNo X40.here hx rfl (hb hby own_d6_38) rfl (tlt (by decide)).2.1 kS) ?_
  show OFin p e below s _ _ _ (T40.setTop (mkF m 41 #[.val (.int (64 : Int32)), .val (.int (1 : Int32)), .val (.ref fr), .val (.long ((64 : Int32).toInt64)), .second, .val (.int (0 : Int32))] []))
  refine own_st (fun _ kS => XS.aloadN X40.here hx rfl (hb hby own_d6_41) rfl rfl kS) ?_
  show OFin p e below s _ _ _ (T40.setTop (mkF m 42 #[.val (.int (64 : Int32)), .val (.int (1 : Int32)), .val (.ref fr), .val (.long ((64 : Int32).toInt64)), .second, .val (.int (0 : Int32))] [(.ref fr)]))
  refine own_st (fun _ kS => XS.iload X40.here hx rfl (hb hby own_d6_42) rfl kS) ?_
  show OFin p e below s _ _ _ (T40.setTop (mkF m 44 #[.val (.int (64 : Int32)), .val (.int (1 : Int32)), .val (.ref fr), .val (.long ((64 : Int32).toInt64)), .second, .val (.int (0 : Int32))] [(.int (0 : Int32)), (.ref fr)]))
  refine own_st (fun _ kS => XS.lloadN X40.here hx rfl (hb hby own_d6_44) rfl kS) ?_
  show OFin p e below s _ _ _ (T40.setTop (mkF m 45 #[.val (.int (64 : Int32)), .val (.int (1 : Int32)), .val (.ref fr), .val (.long ((64 : Int32).toInt64)), .second, .val (.int (0 : Int32))] [(.long ((64 : Int32).toInt64)), (.int (0 : Int32)), (.ref fr)]))
  obtain ⟨v42, T42, L42, X42, hQ42, st42⟩ := own_static X40 hx hZ (y := (⟨"com/example/epicycle/epicycle/TimeoutTable", "wordsFor", "(J)J"⟩ : MethodName)) (rm := ⟨0, 0, 0, 0⟩) (W := 2) (argsL := [(.long ((64 : Int32).toInt64))]) (rest := [(.int (0 : Int32)), (.ref fr)]) hown (own_w hw 41 rfl) (own_w hw 42 rfl) (own_w hw 2 rfl) (own_w hw 43 rfl) (rmWF l Z a0 hw _ h40) e40 (g := (mkF m 45 #[.val (.int (64 : Int32)), .val (.int (1 : Int32)), .val (.ref fr), .val (.long ((64 : Int32).toInt64)), .second, .val (.int (0 : Int32))] [(.long ((64 : Int32).toInt64)), (.int (0 : Int32)), (.ref fr)])) rfl (by rw [hml]; rfl) (lenOf own_pd1 rfl) rfl (by show 2 * 0 + _ ≤ _; exact Nat.le_of_eq rfl) (hb hby own_d6_45) (by decide) (by decide) (by decide) (by decide)
  obtain ⟨rfl, e42, rfl⟩ := hQ42
  rw [List.append_nil] at X42
  refine own_st (st42) ?_
  clear st42 X40 e40
  show OFin p e below s _ _ _ (T42.setTop (mkF m 48 #[.val (.int (64 : Int32)), .val (.int (1 : Int32)), .val (.ref fr), .val (.long ((64 : Int32).toInt64)), .second, .val (.int (0 : Int32))] [(.long (own_words ((64 : Int32).toInt64))), (.int (0 : Int32)), (.ref fr)]))
  rw [show ((own_words ((64 : Int32).toInt64))) = (1 : Int64) from by decide]
  show OFin p e below s _ _ _ (T42.setTop (mkF m 48 #[.val (.int (64 : Int32)), .val (.int (1 : Int32)), .val (.ref fr), .val (.long ((64 : Int32).toInt64)), .second, .val (.int (0 : Int32))] [(.long (1 : Int64)), (.int (0 : Int32)), (.ref fr)]))
  refine own_st (fun _ kS => XS.l2i X42.here hx rfl (hb hby own_d6_48) rfl kS) ?_
  show OFin p e below s _ _ _ (T42.setTop (mkF m 49 #[.val (.int (64 : Int32)), .val (.int (1 : Int32)), .val (.ref fr), .val (.long ((64 : Int32).toInt64)), .second, .val (.int (0 : Int32))] [(.int ((1 : Int64).toInt32)), (.int (0 : Int32)), (.ref fr)]))
  rw [show (((1 : Int64).toInt32)) = (1 : Int32) from by decide]
  show OFin p e below s _ _ _ (T42.setTop (mkF m 49 #[.val (.int (64 : Int32)), .val (.int (1 : Int32)), .val (.ref fr), .val (.long ((64 : Int32).toInt64)), .second, .val (.int (0 : Int32))] [(.int (1 : Int32)), (.int (0 : Int32)), (.ref fr)]))
  obtain ⟨T43, h43, k43, X43, e43, E43, A43, Ex43, st43⟩ := newPE X42 hx hZ (own_w hw 44 rfl) e42 (g := (mkF m 49 #[.val (.int (64 : Int32)), .val (.int (1 : Int32)), .val (.ref fr), .val (.long ((64 : Int32).toInt64)), .second, .val (.int (0 : Int32))] [(.int (1 : Int32)), (.int (0 : Int32)), (.ref fr)])) rfl (hb hby own_d6_49) rfl (by decide) (cap := 1) (by decide) (by decide) (by decide) (by decide) rfl
  obtain ⟨fl, g43⟩ : ∃ z, z = h40.size := ⟨_, rfl⟩
  rw [← g43] at A43 st43 Ex43
  have ne_fr_fl : fr ≠ fl := Nat.ne_of_lt (Nat.lt_of_lt_of_le f41.lt (Nat.le_of_eq g43.symm))
  have g_fl : n0 ≤ fl := Nat.le_trans sz40 (Nat.le_of_eq g43.symm)
  have f44 := f41.ext E43
  clear f41
  have f45 := Ex40.ext E43
  clear Ex40
  have f46 : Arv Z h43 fl k43 .long (1 : Int32) [(.long (0 : Int64))] (.long (0 : Int64)) := (Arv.new A43 (by decide)).pad (pad_rep [] (.long (0 : Int64)) 1)
  have sz43 : n0 ≤ h43.size := Nat.le_trans sz40 E43.1
  clear sz40
  have kp43 := kp40.ext E43
  have kz_fl := Nat.le_trans kp40.1 (Nat.le_of_eq g43.symm)
  clear kp40
  refine own_st (st43) ?_
  clear st43 X42 e42 E43 g43
  show OFin p e below s _ _ _ (T43.setTop (mkF m 51 #[.val (.int (64 : Int32)), .val (.int (1 : Int32)), .val (.ref fr), .val (.long ((64 : Int32).toInt64)), .second, .val (.int (0 : Int32))] [(.ref fl), (.int (0 : Int32)), (.ref fr)]))
  obtain ⟨cl47, Ar47, S47, B47, H47, O47⟩ := id f44
  obtain ⟨T47, h47, X47, e47, W47, st47⟩ := stR X43 hx hZ e43 Ar47 (j := (0 : Int32)) (own_inb S47 (by decide) rfl (by decide)) rfl (own_sto Ar47 O47 (Ins.self Ex43)) (g := (mkF m 51 #[.val (.int (64 : Int32)), .val (.int (1 : Int32)), .val (.ref fr), .val (.long ((64 : Int32).toInt64)), .second, .val (.int (0 : Int32))] [(.ref fl), (.int (0 : Int32)), (.ref fr)])) rfl rfl (hb hby own_d6_51)
  have V47 := own_wrj W47 rfl
  have f48 := (f44).set V47
  have f50 := f45.wr W47
  clear f45
  have f51 := Ex43.wr W47
  clear Ex43
  have f52 := f46.other W47 (Ne.symm ne_fr_fl)
  clear f46
  have sz47 : n0 ≤ h47.size := by rw [W47.size]; exact sz43
  clear sz43
  have fr47 := Fr.snoc X47 N0 g_fr
  clear N0
  have kp47 := kp43.wr W47 (Or.inr kz_fr)
  clear kp43
  refine own_st (st47) ?_
  clear st47 X43 e43 W47 V47 Ar47 S47 B47 H47 O47 f44
  show OFin p e below s _ _ _ (T47.setTop (mkF m 52 #[.val (.int (64 : Int32)), .val (.int (1 : Int32)), .val (.ref fr), .val (.long ((64 : Int32).toInt64)), .second, .val (.int (0 : Int32))] []))
  refine own_st (fun _ kS => XS.aloadN X47.here hx rfl (hb hby own_d6_52) rfl rfl kS) ?_
  show OFin p e below s _ _ _ (T47.setTop (mkF m 53 #[.val (.int (64 : Int32)), .val (.int (1 : Int32)), .val (.ref fr), .val (.long ((64 : Int32).toInt64)), .second, .val (.int (0 : Int32))] [(.ref fr)]))
  refine own_st (fun _ kS => XS.iload X47.here hx rfl (hb hby own_d6_53) rfl kS) ?_
  show OFin p e below s _ _ _ (T47.setTop (mkF m 55 #[.val (.int (64 : Int32)), .val (.int (1 : Int32)), .val (.ref fr), .val (.long ((64 : Int32).toInt64)), .second, .val (.int (0 : Int32))] [(.int (0 : Int32)), (.ref fr)]))
  obtain ⟨cl53, Ar53, S53, B53, H53, O53⟩ := id f48
  refine own_st (X47.aaload hx (j := (0 : Int32)) (v := (.ref fl)) (by rw [e47]; exact Ar53.1) (State.isArrayOf_alike hZ.alike Ar53.2.1) rfl Ar53.2.2 (own_inb S53 (by decide) rfl (by decide)) ((own_hv H53 rfl (by decide)).trans (congrArg some (rfl))) (g := (mkF m 55 #[.val (.int (64 : Int32)), .val (.int (1 : Int32)), .val (.ref fr), .val (.long ((64 : Int32).toInt64)), .second, .val (.int (0 : Int32))] [(.int (0 : Int32)), (.ref fr)])) rfl rfl (hb hby own_d6_55)) ?_
  clear Ar53 S53 B53 H53 O53
  show OFin p e below s _ _ _ (T47.setTop (mkF m 56 #[.val (.int (64 : Int32)), .val (.int (1 : Int32)), .val (.ref fr), .val (.long ((64 : Int32).toInt64)), .second, .val (.int (0 : Int32))] [(.ref fl)]))
  obtain ⟨cl54, Ar54, -, S54, B54, H54, -⟩ := id f52
  have hl54 := len_of S54 B54
  refine own_st (X47.arraylength hx (by rw [e47]; exact Ar54.1) (State.isArrayOf_alike hZ.alike Ar54.2.1) (g := (mkF m 56 #[.val (.int (64 : Int32)), .val (.int (1 : Int32)), .val (.ref fr), .val (.long ((64 : Int32).toInt64)), .second, .val (.int (0 : Int32))] [(.ref fl)])) rfl rfl (hb hby own_d6_56)) ?_
  rw [hl54]
  clear hl54 Ar54 S54 B54
  show OFin p e below s _ _ _ (T47.setTop (mkF m 57 #[.val (.int (64 : Int32)), .val (.int (1 : Int32)), .val (.ref fr), .val (.long ((64 : Int32).toInt64)), .second, .val (.int (0 : Int32))] [(.int (1 : Int32))]))
  refine own_st (fun _ kS => XS.i2l X47.here hx rfl (hb hby own_d6_57) rfl kS) ?_
  show OFin p e below s _ _ _ (T47.setTop (mkF m 58 #[.val (.int (64 : Int32)), .val (.int (1 : Int32)), .val (.ref fr), .val (.long ((64 : Int32).toInt64)), .second, .val (.int (0 : Int32))] [(.long ((1 : Int32).toInt64))]))
  refine own_st (fun _ kS => XS.lstoreN X47.here hx rfl (hb hby own_d6_58) rfl (l' := #[.val (.int (64 : Int32)), .val (.int (1 : Int32)), .val (.ref fr), .val (.long ((1 : Int32).toInt64)), .second, .val (.int (0 : Int32))]) rfl kS) ?_
  show OFin p e below s _ _ _ (T47.setTop (mkF m 59 #[.val (.int (64 : Int32)), .val (.int (1 : Int32)), .val (.ref fr), .val (.long ((1 : Int32).toInt64)), .second, .val (.int (0 : Int32))] []))
  refine own_st (fun _ kS => XS.iinc X47.here hx rfl (hb hby own_d6_59) rfl (l' := #[.val (.int (64 : Int32)), .val (.int (1 : Int32)), .val (.ref fr), .val (.long ((1 : Int32).toInt64)), .second, .val (.int ((0 : Int32) + (1 : Int32)))]) rfl kS) ?_
  show OFin p e below s _ _ _ (T47.setTop (mkF m 62 #[.val (.int (64 : Int32)), .val (.int (1 : Int32)), .val (.ref fr), .val (.long ((1 : Int32).toInt64)), .second, .val (.int ((0 : Int32) + (1 : Int32)))] []))
  refine own_st (fun _ kS => XS.goto X47.here hx rfl (pc0 := 62) (pc' := 35) rfl (hb hby own_d6_62) (by decide) (by decide) kS) ?_
  show OFin p e below s _ _ _ (T47.setTop (mkF m 35 #[.val (.int (64 : Int32)), .val (.int (1 : Int32)), .val (.ref fr), .val (.long ((1 : Int32).toInt64)), .second, .val (.int ((0 : Int32) + (1 : Int32)))] []))
  refine own_st (fun _ kS => XS.iload X47.here hx rfl (hb hby own_d6_35) rfl kS) ?_
  show OFin p e below s _ _ _ (T47.setTop (mkF m 37 #[.val (.int (64 : Int32)), .val (.int (1 : Int32)), .val (.ref fr), .val (.long ((1 : Int32).toInt64)), .second, .val (.int ((0 : Int32) + (1 : Int32)))] [(.int ((0 : Int32) + (1 : Int32)))]))
  refine own_st (fun _ kS => XS.iloadN X47.here hx rfl (hb hby own_d6_37) rfl kS) ?_
  show OFin p e below s _ _ _ (T47.setTop (mkF m 38 #[.val (.int (64 : Int32)), .val (.int (1 : Int32)), .val (.ref fr), .val (.long ((1 : Int32).toInt64)), .second, .val (.int ((0 : Int32) + (1 : Int32)))] [(.int (1 : Int32)), (.int ((0 : Int32) + (1 : Int32)))]))
  refine own_st (fun _ kS => XS.icmpYes X47.here hx rfl (pc0 := 38) (pc' := 65) rfl (hb hby own_d6_38) rfl (flt (by decide)).2.1 (by decide) (by decide) kS) ?_
  show OFin p e below s _ _ _ (T47.setTop (mkF m 65 #[.val (.int (64 : Int32)), .val (.int (1 : Int32)), .val (.ref fr), .val (.long ((1 : Int32).toInt64)), .second, .val (.int ((0 : Int32) + (1 : Int32)))] []))
  refine own_st (fun _ kS => XS.aloadN X47.here hx rfl (hb hby own_d6_65) rfl rfl kS) ?_
  show OFin p e below s _ _ _ (T47.setTop (mkF m 66 #[.val (.int (64 : Int32)), .val (.int (1 : Int32)), .val (.ref fr), .val (.long ((1 : Int32).toInt64)), .second, .val (.int ((0 : Int32) + (1 : Int32)))] [(.ref fr)]))
  exact own_ret X47 hx (t := (.array (.array .long))) hret hlk rfl (Or.inr (Or.inr (Or.inr (Or.inr ⟨rfl, rfl, rfl⟩)))) (hb hby own_d6_66) (by decide) (by decide) (by show _ ∧ _ ∧ Keep h0 T47.heap [] ∧ _; rw [e47]; exact ⟨⟨fr, rfl, kz_fr⟩, fr47, kp47, trivial⟩)
def OTTn (Z : State) (h : Heap) (tt : Addr) : Prop :=
  Exa Z h tt "com/example/epicycle/epicycle/TimeoutTable" ∧ Fld Z h tt "com/example/epicycle/epicycle/TimeoutTable" "timeouts" "Lcom/example/epicycle/epicycle/ChunkedList;" .null ∧ Fld Z h tt "com/example/epicycle/epicycle/TimeoutTable" "free" "[[J" .null ∧ Fld Z h tt "com/example/epicycle/epicycle/TimeoutTable" "capacity" "I" (.int (0 : Int32)) ∧ Fld Z h tt "com/example/epicycle/epicycle/TimeoutTable" "freeCount" "I" (.int (0 : Int32))
theorem OTTn.keep {Z : State} {h h' : Heap} {ws : List Addr} {tt : Addr} (F : OTTn Z h tt) (K : Keep h h' ws) (n0 : tt ∉ ws) : OTTn Z h' tt :=
  ⟨F.1.keep K, F.2.1.keep K n0, F.2.2.1.keep K n0, F.2.2.2.1.keep K n0, F.2.2.2.2.keep K n0⟩
set_option maxRecDepth 65536 in
set_option maxHeartbeats 40000000 in
theorem rmTT (l : Launch) (Z : State) (a0 : Array Value) (hw : ∀ d ∈ tables_1, d.before a0 Z = true) (a : Addr) (h0 : Heap) (n0 : Nat) (Z0 : n0 ≤ h0.size)  (B_OTTn0 : OTTn Z h0 a) (g_a : n0 ≤ a)   :
    OMet l Z (⟨"com/example/epicycle/epicycle/TimeoutTable", "<init>", "()V"⟩ : MethodName) prog_20_method_1_code 1 none (⟨4, 4, 6, 50⟩ : Room) #[(.ref a)] h0 (fun v h L => v = none ∧ Fr n0 L ∧ Keep h0 h [a] ∧ ∃ cl, h0.size ≤ cl ∧ ∃ ck, h0.size ≤ ck ∧ cl ≠ ck ∧ OTT Z h a cl ∧ OCL0 Z h cl ck) := by
  refine own_enter own_pn1 ?_
  intro p e s m below meth c T0 X0 hC e0
  obtain ⟨hx, hZ, hby, hml, hown, hret, hlk, hnm⟩ := hC
  have hown : s.vm.findClass "com/example/epicycle/epicycle/TimeoutTable" = some m.cls := hown
  refine own_at (own_ef1_R m a) ?_
  show OFin p e below s _ _ _ (T0.setTop (mkF m 0 #[.val (.ref a)] []))
  have N0 := Fr.nil n0
  have kp0 := Keep.refl h0 [a]
  obtain ⟨u55, u56, u57, u58, u59⟩ := B_OTTn0
  refine own_st (fun _ kS => XS.aloadN X0.here hx rfl (hb hby own_d1_0) rfl rfl kS) ?_
  show OFin p e below s _ _ _ (T0.setTop (mkF m 1 #[.val (.ref a)] [(.ref a)]))
  obtain ⟨T60, X60, e60, st60⟩ := initO X0 hx hZ hown (own_w hw 6 rfl) (own_w hw 7 rfl) (own_w hw 8 rfl) e0 (g := (mkF m 1 #[.val (.ref a)] [(.ref a)])) rfl (by rw [hml]; rfl) rfl (hb hby own_d1_1) (by decide) (W := 0) (by show 2 * 0 + _ ≤ _; exact Nat.le_of_eq rfl) (by decide)
  refine own_st (st60) ?_
  clear st60 X0 e0
  show OFin p e below s _ _ _ (T60.setTop (mkF m 4 #[.val (.ref a)] []))
  refine own_st (fun _ kS => XS.aloadN X60.here hx rfl (hb hby own_d1_4) rfl rfl kS) ?_
  show OFin p e below s _ _ _ (T60.setTop (mkF m 5 #[.val (.ref a)] [(.ref a)]))
  obtain ⟨T61, h61, X61, e61, E61, A61, D61, -, st61⟩ := newO X60 hx hZ hown (own_w hw 9 rfl) (own_w hw 10 rfl) (own_w hw 11 rfl) e60 (g := (mkF m 5 #[.val (.ref a)] [(.ref a)])) rfl (hb hby own_d1_5) (by decide) (by decide)
  obtain ⟨cl, g61⟩ : ∃ z, z = h0.size := ⟨_, rfl⟩
  rw [← g61] at A61 D61 st61
  have ne_a_cl : a ≠ cl := Nat.ne_of_lt (Nat.lt_of_lt_of_le u55.lt (Nat.le_of_eq g61.symm))
  have g_cl : n0 ≤ cl := Nat.le_trans Z0 (Nat.le_of_eq g61.symm)
  have f62 := u55.ext E61
  clear u55
  have f63 := u56.ext E61
  clear u56
  have f64 := u57.ext E61
  clear u57
  have f65 := u58.ext E61
  clear u58
  have f66 := u59.ext E61
  clear u59
  have f67 : Fld Z h61 cl "java/util/AbstractList" "modCount" "I" (.int (0 : Int32)) := D61 (Or.inl (own_w hw 28 rfl)) (ty := .int) (by decide)
  have f68 : Fld Z h61 cl "com/example/epicycle/epicycle/ChunkedList" "chunks" "[[Ljava/lang/Object;" .null := D61 (Or.inl (own_w hw 32 rfl)) (ty := (.array (.array (.object "java/lang/Object")))) (by decide)
  have f69 : Fld Z h61 cl "com/example/epicycle/epicycle/ChunkedList" "size" "I" (.int (0 : Int32)) := D61 (Or.inl (own_w hw 142 rfl)) (ty := .int) (by decide)
  have sz61 : n0 ≤ h61.size := Nat.le_trans Z0 E61.1
  have kp61 := kp0.ext E61
  have kz_cl := Nat.le_trans kp0.1 (Nat.le_of_eq g61.symm)
  clear kp0
  refine own_st (st61) ?_
  clear st61 X60 e60 E61 D61 g61
  show OFin p e below s _ _ _ (T61.setTop (mkF m 8 #[.val (.ref a)] [(.ref cl), (.ref a)]))
  refine own_st (fun _ kS => XS.dup X61.here hx rfl (hb hby own_d1_8) rfl rfl kS) ?_
  show OFin p e below s _ _ _ (T61.setTop (mkF m 9 #[.val (.ref a)] [(.ref cl), (.ref cl), (.ref a)]))
  obtain ⟨v70, T70, L70, X70, hQ70, st70⟩ := own_init X61 hx hZ (y := (⟨"com/example/epicycle/epicycle/ChunkedList", "<init>", "()V"⟩ : MethodName)) (rm := ⟨3, 1, 1, 36⟩) (W := 2) (a := cl) (argsL := []) (rest := [(.ref cl), (.ref a)]) rfl hown (own_w hw 12 rfl) (own_w hw 13 rfl) (own_w hw 11 rfl) (own_w hw 14 rfl) (rmCL l Z a0 hw cl h61 n0 sz61 ⟨A61, f69, f68, f67⟩ g_cl) e61 (g := (mkF m 9 #[.val (.ref a)] [(.ref cl), (.ref cl), (.ref a)])) rfl (by rw [hml]; rfl) (lenOf own_pd0 rfl) rfl (by show 2 * 0 + _ ≤ _; exact Nat.le_of_eq rfl) (hb hby own_d1_9) (by decide) (by decide) (by decide) (by decide)
  obtain ⟨rfl, N70, K70, ck, ge_ck, B70_0⟩ := hQ70
  have ne_a_ck : a ≠ ck := Nat.ne_of_lt (Nat.lt_of_lt_of_le f62.lt ge_ck)
  have ne_cl_ck : cl ≠ ck := Nat.ne_of_lt (Nat.lt_of_lt_of_le A61.lt ge_ck)
  have g_ck : n0 ≤ ck := Nat.le_trans sz61 ge_ck
  have kz_ck := Nat.le_trans kp61.1 ge_ck
  have fr70 := Fr.app N0 N70
  clear N0 N70
  have kp70 := kp61.trans K70 (allS (Or.inr kz_cl) all0)
  clear kp61
  have f71 := f62.keep K70
  clear f62
  have f72 := f63.keep K70 (ninS ne_a_cl nin0)
  clear f63
  have f73 := f64.keep K70 (ninS ne_a_cl nin0)
  clear f64
  have f74 := f65.keep K70 (ninS ne_a_cl nin0)
  clear f65
  have f75 := f66.keep K70 (ninS ne_a_cl nin0)
  clear f66
  have f76 := A61.keep K70
  clear f67
  clear f68
  clear f69
  have sz70 : n0 ≤ T70.heap.size := Nat.le_trans sz61 K70.1
  clear sz61
  clear K70
  obtain ⟨u80, u81, u82, u83, u84⟩ := B70_0
  refine own_st (st70) ?_
  clear st70 X61 e61
  show OFin p e below s _ _ _ (T70.setTop (mkF m 12 #[.val (.ref a)] [(.ref cl), (.ref a)]))
  obtain ⟨T85, h85, X85, e85, W85, st85⟩ := putF X70 hx hZ hown (host := "") (Or.inl (own_w hw 33 rfl)) Via.refl rfl f72 f71 (Or.inr ⟨(own_w hw 34 rfl), rfl, hnm⟩) (own_w hw 1 rfl) (ty := (.object "com/example/epicycle/epicycle/ChunkedList")) (by decide) rfl rfl (g := (mkF m 12 #[.val (.ref a)] [(.ref cl), (.ref a)])) rfl rfl (hb hby own_d1_12)
  have f86 := f72.same W85
  have f87 := f71.wr W85
  clear f71
  have f89 := f73.other W85 (Or.inr (slot_ne (Or.inl (own_w hw 47 rfl)) (Or.inr (own_w hw 34 rfl)) (by decide) (t := (.array (.array .long))) (t' := (.object "com/example/epicycle/epicycle/ChunkedList")) (by decide) (by decide)))
  clear f73
  have f90 := f74.other W85 (Or.inr (slot_ne (Or.inl (own_w hw 49 rfl)) (Or.inr (own_w hw 34 rfl)) (by decide) (t := .int) (t' := (.object "com/example/epicycle/epicycle/ChunkedList")) (by decide) (by decide)))
  clear f74
  have f91 := f75.other W85 (Or.inr (slot_ne (Or.inl (own_w hw 135 rfl)) (Or.inr (own_w hw 34 rfl)) (by decide) (t := .int) (t' := (.object "com/example/epicycle/epicycle/ChunkedList")) (by decide) (by decide)))
  clear f75
  have f92 := u80.wr W85
  clear u80
  have f93 := u81.other W85 (Or.inl (Ne.symm ne_a_cl))
  clear u81
  have f94 := u82.other W85 (Or.inl (Ne.symm ne_a_cl))
  clear u82
  have f95 := u83.other W85 (Or.inl (Ne.symm ne_a_cl))
  clear u83
  have f96 := u84.other W85 (Ne.symm ne_a_ck)
  clear u84
  have sz85 : n0 ≤ h85.size := by rw [W85.size]; exact sz70
  clear sz70
  have fr85 := Fr.snoc X85 fr70 g_a
  clear fr70
  have kp85 := kp70.wr W85 (Or.inl (List.mem_of_getElem? (i := 0) rfl))
  clear kp70
  refine own_st (st85) ?_
  clear st85 X70 W85 f72
  show OFin p e below s _ _ _ (T85.setTop (mkF m 15 #[.val (.ref a)] []))
  refine own_st (fun _ kS => XS.aloadN X85.here hx rfl (hb hby own_d1_15) rfl rfl kS) ?_
  show OFin p e below s _ _ _ (T85.setTop (mkF m 16 #[.val (.ref a)] [(.ref a)]))
  refine own_st (fun _ kS => XS.bipush X85.here hx rfl (hb hby own_d1_16) kS) ?_
  show OFin p e below s _ _ _ (T85.setTop (mkF m 18 #[.val (.ref a)] [(.int (64 : Int32)), (.ref a)]))
  obtain ⟨v97, T97, L97, X97, hQ97, st97⟩ := own_static X85 hx hZ (y := (⟨"com/example/epicycle/epicycle/TimeoutTable", "levelsFor", "(I)[[J"⟩ : MethodName)) (rm := ⟨1, 2, 2, 15⟩) (W := 1) (argsL := [(.int (64 : Int32))]) (rest := [(.ref a)]) hown (own_w hw 35 rfl) (own_w hw 36 rfl) (own_w hw 2 rfl) (own_w hw 37 rfl) (rmLF l Z a0 hw _ h85 n0 sz85 rfl) e85 (g := (mkF m 18 #[.val (.ref a)] [(.int (64 : Int32)), (.ref a)])) rfl (by rw [hml]; rfl) (lenOf own_pd2 rfl) rfl (by show 2 * 0 + _ ≤ _; exact Nat.le_of_eq rfl) (hb hby own_d1_18) (by decide) (by decide) (by decide) (by decide)
  obtain ⟨⟨fr, rfl, ge_fr⟩, N97, K97, -⟩ := hQ97
  have ne_a_fr : a ≠ fr := Nat.ne_of_lt (Nat.lt_of_lt_of_le f87.lt ge_fr)
  have ne_ck_fr : ck ≠ fr := Nat.ne_of_lt (Nat.lt_of_lt_of_le f96.lt ge_fr)
  have ne_cl_fr : cl ≠ fr := Nat.ne_of_lt (Nat.lt_of_lt_of_le f92.lt ge_fr)
  have g_fr : n0 ≤ fr := Nat.le_trans sz85 ge_fr
  have kz_fr := Nat.le_trans kp85.1 ge_fr
  have fr97 := Fr.app fr85 N97
  have kp97 := kp85.trans K97 all0
  have f98 := f87.keep K97
  clear f87
  have f99 := f86.keep K97 nin0
  clear f86
  have f100 := f89.keep K97 nin0
  clear f89
  have f101 := f90.keep K97 nin0
  clear f90
  have f102 := f91.keep K97 nin0
  clear f91
  have f103 := f92.keep K97
  clear f92
  have f104 := f93.keep K97 nin0
  clear f93
  have f105 := f94.keep K97 nin0
  clear f94
  have f106 := f95.keep K97 nin0
  clear f95
  have f107 := f96.keep K97 nin0
  clear f96
  have sz97 : n0 ≤ T97.heap.size := Nat.le_trans sz85 K97.1
  clear sz85
  refine own_st (st97) ?_
  clear st97 X85 e85
  show OFin p e below s _ _ _ (T97.setTop (mkF m 21 #[.val (.ref a)] [(.ref fr), (.ref a)]))
  obtain ⟨T108, h108, X108, e108, W108, st108⟩ := putF X97 hx hZ hown (host := "") (Or.inl (own_w hw 46 rfl)) Via.refl rfl f100 f98 (Or.inl (own_w hw 47 rfl)) (own_w hw 1 rfl) (ty := (.array (.array .long))) (by decide) rfl rfl (g := (mkF m 21 #[.val (.ref a)] [(.ref fr), (.ref a)])) rfl rfl (hb hby own_d1_21)
  have f109 := f100.same W108
  have f110 := f98.wr W108
  clear f98
  have f111 := f99.other W108 (Or.inr (slot_ne (Or.inr (own_w hw 34 rfl)) (Or.inl (own_w hw 47 rfl)) (by decide) (t := (.object "com/example/epicycle/epicycle/ChunkedList")) (t' := (.array (.array .long))) (by decide) (by decide)))
  clear f99
  have f113 := f101.other W108 (Or.inr (slot_ne (Or.inl (own_w hw 49 rfl)) (Or.inl (own_w hw 47 rfl)) (by decide) (t := .int) (t' := (.array (.array .long))) (by decide) (by decide)))
  clear f101
  have f114 := f102.other W108 (Or.inr (slot_ne (Or.inl (own_w hw 135 rfl)) (Or.inl (own_w hw 47 rfl)) (by decide) (t := .int) (t' := (.array (.array .long))) (by decide) (by decide)))
  clear f102
  have f115 := f103.wr W108
  clear f103
  have f116 := f104.other W108 (Or.inl (Ne.symm ne_a_cl))
  clear f104
  have f117 := f105.other W108 (Or.inl (Ne.symm ne_a_cl))
  clear f105
  have f118 := f106.other W108 (Or.inl (Ne.symm ne_a_cl))
  clear f106
  have f119 := f107.other W108 (Ne.symm ne_a_ck)
  clear f107
  have sz108 : n0 ≤ h108.size := by rw [W108.size]; exact sz97
  clear sz97
  have fr108 := Fr.snoc X108 fr97 g_a
  clear fr97
  have kp108 := kp97.wr W108 (Or.inl (List.mem_of_getElem? (i := 0) rfl))
  clear kp97
  refine own_st (st108) ?_
  clear st108 X97 W108 f100
  show OFin p e below s _ _ _ (T108.setTop (mkF m 24 #[.val (.ref a)] []))
  refine own_st (fun _ kS => XS.aloadN X108.here hx rfl (hb hby own_d1_24) rfl rfl kS) ?_
  show OFin p e below s _ _ _ (T108.setTop (mkF m 25 #[.val (.ref a)] [(.ref a)]))
  refine own_st (fun _ kS => XS.bipush X108.here hx rfl (hb hby own_d1_25) kS) ?_
  show OFin p e below s _ _ _ (T108.setTop (mkF m 27 #[.val (.ref a)] [(.int (64 : Int32)), (.ref a)]))
  obtain ⟨T120, h120, X120, e120, W120, st120⟩ := putF X108 hx hZ hown (host := "") (Or.inl (own_w hw 48 rfl)) Via.refl e108 f113 f110 (Or.inl (own_w hw 49 rfl)) (own_w hw 1 rfl) (ty := .int) (by decide) rfl rfl (g := (mkF m 27 #[.val (.ref a)] [(.int (64 : Int32)), (.ref a)])) rfl rfl (hb hby own_d1_27)
  have f121 := f113.same W120
  have f122 := f110.wr W120
  clear f110
  have f123 := f111.other W120 (Or.inr (slot_ne (Or.inr (own_w hw 34 rfl)) (Or.inl (own_w hw 49 rfl)) (by decide) (t := (.object "com/example/epicycle/epicycle/ChunkedList")) (t' := .int) (by decide) (by decide)))
  clear f111
  have f124 := f109.other W120 (Or.inr (slot_ne (Or.inl (own_w hw 47 rfl)) (Or.inl (own_w hw 49 rfl)) (by decide) (t := (.array (.array .long))) (t' := .int) (by decide) (by decide)))
  clear f109
  have f126 := f114.other W120 (Or.inr (slot_ne (Or.inl (own_w hw 135 rfl)) (Or.inl (own_w hw 49 rfl)) (by decide) (t := .int) (t' := .int) (by decide) (by decide)))
  clear f114
  have f127 := f115.wr W120
  clear f115
  have f128 := f116.other W120 (Or.inl (Ne.symm ne_a_cl))
  clear f116
  have f129 := f117.other W120 (Or.inl (Ne.symm ne_a_cl))
  clear f117
  have f130 := f118.other W120 (Or.inl (Ne.symm ne_a_cl))
  clear f118
  have f131 := f119.other W120 (Ne.symm ne_a_ck)
  clear f119
  have sz120 : n0 ≤ h120.size := by rw [W120.size]; exact sz108
  clear sz108
  have fr120 := Fr.snoc X120 fr108 g_a
  clear fr108
  have kp120 := kp108.wr W120 (Or.inl (List.mem_of_getElem? (i := 0) rfl))
  clear kp108
  refine own_st (st120) ?_
  clear st120 X108 e108 W120 f113
  show OFin p e below s _ _ _ (T120.setTop (mkF m 30 #[.val (.ref a)] []))
  exact own_retV X120 hx hret hlk (hb hby own_d1_30) (by decide) (by decide) (by show _ ∧ _ ∧ Keep h0 T120.heap [a] ∧ _; rw [e120]; exact ⟨rfl, fr120, kp120, cl, kz_cl, ck, kz_ck, ne_cl_ck, ⟨f122, f123, f121, f126⟩, ⟨f127, f128, f129, f130, f131⟩⟩)
def OSRn (Z : State) (h : Heap) (rg : Addr) : Prop :=
  Exa Z h rg "com/example/epicycle/epicycle/SlotRing" ∧ Fld Z h rg "com/example/epicycle/epicycle/SlotRing" "slots" "[Lcom/example/epicycle/epicycle/SlotRing$Slot;" .null ∧ Fld Z h rg "com/example/epicycle/epicycle/SlotRing" "level" "I" (.int (0 : Int32)) ∧ Fld Z h rg "com/example/epicycle/epicycle/SlotRing" "table" "Lcom/example/epicycle/epicycle/TimeoutTable;" .null ∧ Fld Z h rg "com/example/epicycle/epicycle/SlotRing" "occupied" "J" (.long (0 : Int64))
theorem OSRn.keep {Z : State} {h h' : Heap} {ws : List Addr} {rg : Addr} (F : OSRn Z h rg) (K : Keep h h' ws) (n0 : rg ∉ ws) : OSRn Z h' rg :=
  ⟨F.1.keep K, F.2.1.keep K n0, F.2.2.1.keep K n0, F.2.2.2.1.keep K n0, F.2.2.2.2.keep K n0⟩
set_option maxRecDepth 65536 in
set_option maxHeartbeats 40000000 in
theorem rmSR (l : Launch) (Z : State) (a0 : Array Value) (hw : ∀ d ∈ tables_1, d.before a0 Z = true) (a : Addr) (lv : Int32) (tt : Addr) (h0 : Heap) (n0 : Nat) (Z0 : n0 ≤ h0.size)  (B_OSRn0 : OSRn Z h0 a) (g_a : n0 ≤ a)   :
    OMet l Z (⟨"com/example/epicycle/epicycle/SlotRing", "<init>", "(ILcom/example/epicycle/epicycle/TimeoutTable;)V"⟩ : MethodName) prog_7_method_1_code 3 none (⟨1, 1, 64, 12⟩ : Room) #[(.ref a), (.int lv), (.ref tt)] h0 (fun v h L => v = none ∧ Fr n0 L ∧ Keep h0 h [a] ∧ ∃ sa, h0.size ≤ sa ∧ OSR Z h a sa tt lv 0 (fun _ => .null)) := by
  refine own_enter own_pn8 ?_
  intro p e s m below meth c T0 X0 hC e0
  obtain ⟨hx, hZ, hby, hml, hown, hret, hlk, hnm⟩ := hC
  have hown : s.vm.findClass "com/example/epicycle/epicycle/SlotRing" = some m.cls := hown
  refine own_at (own_ef8_RIR m a lv tt) ?_
  show OFin p e below s _ _ _ (T0.setTop (mkF m 0 #[.val (.ref a), .val (.int lv), .val (.ref tt)] []))
  have N0 := Fr.nil n0
  have kp0 := Keep.refl h0 [a]
  obtain ⟨u132, u133, u134, u135, u136⟩ := B_OSRn0
  refine own_st (fun _ kS => XS.aloadN X0.here hx rfl (hb hby own_d8_0) rfl rfl kS) ?_
  show OFin p e below s _ _ _ (T0.setTop (mkF m 1 #[.val (.ref a), .val (.int lv), .val (.ref tt)] [(.ref a)]))
  obtain ⟨T137, X137, e137, st137⟩ := initO X0 hx hZ hown (own_w hw 56 rfl) (own_w hw 7 rfl) (own_w hw 8 rfl) e0 (g := (mkF m 1 #[.val (.ref a), .val (.int lv), .val (.ref tt)] [(.ref a)])) rfl (by rw [hml]; rfl) rfl (hb hby own_d8_1) (by decide) (W := 0) (by show 2 * 0 + _ ≤ _; exact Nat.le_of_eq rfl) (by decide)
  refine own_st (st137) ?_
  clear st137 X0 e0
  show OFin p e below s _ _ _ (T137.setTop (mkF m 4 #[.val (.ref a), .val (.int lv), .val (.ref tt)] []))
  refine own_st (fun _ kS => XS.aloadN X137.here hx rfl (hb hby own_d8_4) rfl rfl kS) ?_
  show OFin p e below s _ _ _ (T137.setTop (mkF m 5 #[.val (.ref a), .val (.int lv), .val (.ref tt)] [(.ref a)]))
  refine own_st (fun _ kS => XS.bipush X137.here hx rfl (hb hby own_d8_5) kS) ?_
  show OFin p e below s _ _ _ (T137.setTop (mkF m 7 #[.val (.ref a), .val (.int lv), .val (.ref tt)] [(.int (64 : Int32)), (.ref a)]))
  obtain ⟨T138, h138, k138, X138, e138, E138, A138, Ex138, O138, st138⟩ := newRE X137 hx hZ hown (own_w hw 57 rfl) (own_w hw 58 rfl) e137 (g := (mkF m 7 #[.val (.ref a), .val (.int lv), .val (.ref tt)] [(.int (64 : Int32)), (.ref a)])) rfl (hb hby own_d8_7) rfl (by decide) (cap := 64) (by decide) (by decide) (by decide) (by decide) rfl
  obtain ⟨sa, g138⟩ : ∃ z, z = h0.size := ⟨_, rfl⟩
  rw [← g138] at A138 st138 Ex138
  have ne_a_sa : a ≠ sa := Nat.ne_of_lt (Nat.lt_of_lt_of_le u132.lt (Nat.le_of_eq g138.symm))
  have g_sa : n0 ≤ sa := Nat.le_trans Z0 (Nat.le_of_eq g138.symm)
  have f139 := u132.ext E138
  clear u132
  have f140 := u133.ext E138
  clear u133
  have f141 := u134.ext E138
  clear u134
  have f142 := u135.ext E138
  clear u135
  have f143 := u136.ext E138
  clear u136
  have f144 : ORef Z h138 sa (.object "com/example/epicycle/epicycle/SlotRing$Slot") "com/example/epicycle/epicycle/SlotRing$Slot" 64 (fun _ => .null) := ORef.new A138 O138 rfl
  have sz138 : n0 ≤ h138.size := Nat.le_trans Z0 E138.1
  have kp138 := kp0.ext E138
  have kz_sa := Nat.le_trans kp0.1 (Nat.le_of_eq g138.symm)
  clear kp0
  refine own_st (st138) ?_
  clear st138 X137 e137 E138 g138
  show OFin p e below s _ _ _ (T138.setTop (mkF m 10 #[.val (.ref a), .val (.int lv), .val (.ref tt)] [(.ref sa), (.ref a)]))
  obtain ⟨T145, h145, X145, e145, W145, st145⟩ := putF X138 hx hZ hown (host := "") (Or.inl (own_w hw 59 rfl)) Via.refl e138 f140 f139 (Or.inr ⟨(own_w hw 60 rfl), rfl, hnm⟩) (own_w hw 51 rfl) (ty := (.array (.object "com/example/epicycle/epicycle/SlotRing$Slot"))) (by decide) rfl rfl (g := (mkF m 10 #[.val (.ref a), .val (.int lv), .val (.ref tt)] [(.ref sa), (.ref a)])) rfl rfl (hb hby own_d8_10)
  have f146 := f140.same W145
  have f147 := f139.wr W145
  clear f139
  have f149 := f141.other W145 (Or.inr (slot_ne (Or.inr (own_w hw 62 rfl)) (Or.inr (own_w hw 60 rfl)) (by decide) (t := .int) (t' := (.array (.object "com/example/epicycle/epicycle/SlotRing$Slot"))) (by decide) (by decide)))
  clear f141
  have f150 := f142.other W145 (Or.inr (slot_ne (Or.inr (own_w hw 64 rfl)) (Or.inr (own_w hw 60 rfl)) (by decide) (t := (.object "com/example/epicycle/epicycle/TimeoutTable")) (t' := (.array (.object "com/example/epicycle/epicycle/SlotRing$Slot"))) (by decide) (by decide)))
  clear f142
  have f151 := f143.other W145 (Or.inr (slot_ne (Or.inl (own_w hw 112 rfl)) (Or.inr (own_w hw 60 rfl)) (by decide) (t := .long) (t' := (.array (.object "com/example/epicycle/epicycle/SlotRing$Slot"))) (by decide) (by decide)))
  clear f143
  have f152 := f144.other W145 (Ne.symm ne_a_sa)
  clear f144
  have f153 := Ex138.wr W145
  clear Ex138
  have sz145 : n0 ≤ h145.size := by rw [W145.size]; exact sz138
  clear sz138
  have fr145 := Fr.snoc X145 N0 g_a
  clear N0
  have kp145 := kp138.wr W145 (Or.inl (List.mem_of_getElem? (i := 0) rfl))
  clear kp138
  refine own_st (st145) ?_
  clear st145 X138 e138 W145 f140
  show OFin p e below s _ _ _ (T145.setTop (mkF m 13 #[.val (.ref a), .val (.int lv), .val (.ref tt)] []))
  refine own_st (fun _ kS => XS.aloadN X145.here hx rfl (hb hby own_d8_13) rfl rfl kS) ?_
  show OFin p e below s _ _ _ (T145.setTop (mkF m 14 #[.val (.ref a), .val (.int lv), .val (.ref tt)] [(.ref a)]))
  refine own_st (fun _ kS => XS.iloadN X145.here hx rfl (hb hby own_d8_14) rfl kS) ?_
  show OFin p e below s _ _ _ (T145.setTop (mkF m 15 #[.val (.ref a), .val (.int lv), .val (.ref tt)] [(.int lv), (.ref a)]))
  obtain ⟨T154, h154, X154, e154, W154, st154⟩ := putF X145 hx hZ hown (host := "") (Or.inl (own_w hw 61 rfl)) Via.refl e145 f149 f147 (Or.inr ⟨(own_w hw 62 rfl), rfl, hnm⟩) (own_w hw 51 rfl) (ty := .int) (by decide) rfl rfl (g := (mkF m 15 #[.val (.ref a), .val (.int lv), .val (.ref tt)] [(.int lv), (.ref a)])) rfl rfl (hb hby own_d8_15)
  have f155 := f149.same W154
  have f156 := f147.wr W154
  clear f147
  have f157 := f146.other W154 (Or.inr (slot_ne (Or.inr (own_w hw 60 rfl)) (Or.inr (own_w hw 62 rfl)) (by decide) (t := (.array (.object "com/example/epicycle/epicycle/SlotRing$Slot"))) (t' := .int) (by decide) (by decide)))
  clear f146
  have f159 := f150.other W154 (Or.inr (slot_ne (Or.inr (own_w hw 64 rfl)) (Or.inr (own_w hw 62 rfl)) (by decide) (t := (.object "com/example/epicycle/epicycle/TimeoutTable")) (t' := .int) (by decide) (by decide)))
  clear f150
  have f160 := f151.other W154 (Or.inr (slot_ne (Or.inl (own_w hw 112 rfl)) (Or.inr (own_w hw 62 rfl)) (by decide) (t := .long) (t' := .int) (by decide) (by decide)))
  clear f151
  have f161 := f152.other W154 (Ne.symm ne_a_sa)
  clear f152
  have f162 := f153.wr W154
  clear f153
  have sz154 : n0 ≤ h154.size := by rw [W154.size]; exact sz145
  clear sz145
  have fr154 := Fr.snoc X154 fr145 g_a
  clear fr145
  have kp154 := kp145.wr W154 (Or.inl (List.mem_of_getElem? (i := 0) rfl))
  clear kp145
  refine own_st (st154) ?_
  clear st154 X145 e145 W154 f149
  show OFin p e below s _ _ _ (T154.setTop (mkF m 18 #[.val (.ref a), .val (.int lv), .val (.ref tt)] []))
  refine own_st (fun _ kS => XS.aloadN X154.here hx rfl (hb hby own_d8_18) rfl rfl kS) ?_
  show OFin p e below s _ _ _ (T154.setTop (mkF m 19 #[.val (.ref a), .val (.int lv), .val (.ref tt)] [(.ref a)]))
  refine own_st (fun _ kS => XS.aloadN X154.here hx rfl (hb hby own_d8_19) rfl rfl kS) ?_
  show OFin p e below s _ _ _ (T154.setTop (mkF m 20 #[.val (.ref a), .val (.int lv), .val (.ref tt)] [(.ref tt), (.ref a)]))
  obtain ⟨T163, h163, X163, e163, W163, st163⟩ := putF X154 hx hZ hown (host := "") (Or.inl (own_w hw 63 rfl)) Via.refl e154 f159 f156 (Or.inr ⟨(own_w hw 64 rfl), rfl, hnm⟩) (own_w hw 51 rfl) (ty := (.object "com/example/epicycle/epicycle/TimeoutTable")) (by decide) rfl rfl (g := (mkF m 20 #[.val (.ref a), .val (.int lv), .val (.ref tt)] [(.ref tt), (.ref a)])) rfl rfl (hb hby own_d8_20)
  have f164 := f159.same W163
  have f165 := f156.wr W163
  clear f156
  have f166 := f157.other W163 (Or.inr (slot_ne (Or.inr (own_w hw 60 rfl)) (Or.inr (own_w hw 64 rfl)) (by decide) (t := (.array (.object "com/example/epicycle/epicycle/SlotRing$Slot"))) (t' := (.object "com/example/epicycle/epicycle/TimeoutTable")) (by decide) (by decide)))
  clear f157
  have f167 := f155.other W163 (Or.inr (slot_ne (Or.inr (own_w hw 62 rfl)) (Or.inr (own_w hw 64 rfl)) (by decide) (t := .int) (t' := (.object "com/example/epicycle/epicycle/TimeoutTable")) (by decide) (by decide)))
  clear f155
  have f169 := f160.other W163 (Or.inr (slot_ne (Or.inl (own_w hw 112 rfl)) (Or.inr (own_w hw 64 rfl)) (by decide) (t := .long) (t' := (.object "com/example/epicycle/epicycle/TimeoutTable")) (by decide) (by decide)))
  clear f160
  have f170 := f161.other W163 (Ne.symm ne_a_sa)
  clear f161
  have f171 := f162.wr W163
  clear f162
  have sz163 : n0 ≤ h163.size := by rw [W163.size]; exact sz154
  clear sz154
  have fr163 := Fr.snoc X163 fr154 g_a
  clear fr154
  have kp163 := kp154.wr W163 (Or.inl (List.mem_of_getElem? (i := 0) rfl))
  clear kp154
  refine own_st (st163) ?_
  clear st163 X154 e154 W163 f159
  show OFin p e below s _ _ _ (T163.setTop (mkF m 23 #[.val (.ref a), .val (.int lv), .val (.ref tt)] []))
  exact own_retV X163 hx hret hlk (hb hby own_d8_23) (by decide) (by decide) (by show _ ∧ _ ∧ Keep h0 T163.heap [a] ∧ _; rw [e163]; exact ⟨rfl, fr163, kp163, sa, kz_sa, ⟨f165, f166, f167, f164, f169, f170⟩⟩)
def OTOn (Z : State) (h : Heap) (x : Addr) : Prop :=
  Exa Z h x "com/example/epicycle/epicycle/Timeout" ∧ Fld Z h x "com/example/epicycle/epicycle/Timeout" "holder" "Lcom/example/epicycle/epicycle/Timeout$Holder;" .null ∧ Fld Z h x "com/example/epicycle/epicycle/Timeout" "task" "Ljava/lang/Runnable;" .null ∧ Fld Z h x "com/example/epicycle/epicycle/Timeout" "fireTick" "J" (.long (0 : Int64)) ∧ Fld Z h x "com/example/epicycle/epicycle/Timeout" "prev" "I" (.int (0 : Int32)) ∧ Fld Z h x "com/example/epicycle/epicycle/Timeout" "next" "I" (.int (0 : Int32))
theorem OTOn.keep {Z : State} {h h' : Heap} {ws : List Addr} {x : Addr} (F : OTOn Z h x) (K : Keep h h' ws) (n0 : x ∉ ws) : OTOn Z h' x :=
  ⟨F.1.keep K, F.2.1.keep K n0, F.2.2.1.keep K n0, F.2.2.2.1.keep K n0, F.2.2.2.2.1.keep K n0, F.2.2.2.2.2.keep K n0⟩
set_option maxRecDepth 65536 in
set_option maxHeartbeats 40000000 in
theorem rmTO (l : Launch) (Z : State) (a0 : Array Value) (hw : ∀ d ∈ tables_1, d.before a0 Z = true) (a : Addr) (q : Int64) (h0 : Heap) (n0 : Nat) (Z0 : n0 ≤ h0.size)  (B_OTOn0 : OTOn Z h0 a) (g_a : n0 ≤ a)   :
    OMet l Z (⟨"com/example/epicycle/epicycle/Timeout", "<init>", "(Lcom/example/epicycle/epicycle/Timeout$Holder;Ljava/lang/Runnable;J)V"⟩ : MethodName) prog_11_method_1_code 5 none (⟨1, 0, 0, 12⟩ : Room) #[(.ref a), .null, .null, (.long q)] h0 (fun v h L => v = none ∧ Fr n0 L ∧ Keep h0 h [a] ∧ OTO Z h a q 0 0) := by
  refine own_enter own_pn9 ?_
  intro p e s m below meth c T0 X0 hC e0
  obtain ⟨hx, hZ, hby, hml, hown, hret, hlk, hnm⟩ := hC
  have hown : s.vm.findClass "com/example/epicycle/epicycle/Timeout" = some m.cls := hown
  refine own_at (own_ef9_RNNJ m a q) ?_
  show OFin p e below s _ _ _ (T0.setTop (mkF m 0 #[.val (.ref a), .val .null, .val .null, .val (.long q), .second] []))
  have N0 := Fr.nil n0
  have kp0 := Keep.refl h0 [a]
  obtain ⟨u172, u173, u174, u175, u176, u177⟩ := B_OTOn0
  refine own_st (fun _ kS => XS.aloadN X0.here hx rfl (hb hby own_d9_0) rfl rfl kS) ?_
  show OFin p e below s _ _ _ (T0.setTop (mkF m 1 #[.val (.ref a), .val .null, .val .null, .val (.long q), .second] [(.ref a)]))
  obtain ⟨T178, X178, e178, st178⟩ := initO X0 hx hZ hown (own_w hw 71 rfl) (own_w hw 7 rfl) (own_w hw 8 rfl) e0 (g := (mkF m 1 #[.val (.ref a), .val .null, .val .null, .val (.long q), .second] [(.ref a)])) rfl (by rw [hml]; rfl) rfl (hb hby own_d9_1) (by decide) (W := 0) (by show 2 * 0 + _ ≤ _; exact Nat.le_of_eq rfl) (by decide)
  refine own_st (st178) ?_
  clear st178 X0 e0
  show OFin p e below s _ _ _ (T178.setTop (mkF m 4 #[.val (.ref a), .val .null, .val .null, .val (.long q), .second] []))
  refine own_st (fun _ kS => XS.aloadN X178.here hx rfl (hb hby own_d9_4) rfl rfl kS) ?_
  show OFin p e below s _ _ _ (T178.setTop (mkF m 5 #[.val (.ref a), .val .null, .val .null, .val (.long q), .second] [(.ref a)]))
  refine own_st (fun _ kS => XS.aloadN X178.here hx rfl (hb hby own_d9_5) rfl rfl kS) ?_
  show OFin p e below s _ _ _ (T178.setTop (mkF m 6 #[.val (.ref a), .val .null, .val .null, .val (.long q), .second] [.null, (.ref a)]))
  obtain ⟨T179, h179, X179, e179, W179, st179⟩ := putF X178 hx hZ hown (host := "") (Or.inl (own_w hw 72 rfl)) Via.refl e178 u173 u172 (Or.inr ⟨(own_w hw 73 rfl), rfl, hnm⟩) (own_w hw 66 rfl) (ty := (.object "com/example/epicycle/epicycle/Timeout$Holder")) (by decide) rfl rfl (g := (mkF m 6 #[.val (.ref a), .val .null, .val .null, .val (.long q), .second] [.null, (.ref a)])) rfl rfl (hb hby own_d9_6)
  have f180 := u173.same W179
  have f181 := u172.wr W179
  clear u172
  have f183 := u174.other W179 (Or.inr (slot_ne (Or.inr (own_w hw 75 rfl)) (Or.inr (own_w hw 73 rfl)) (by decide) (t := (.object "java/lang/Runnable")) (t' := (.object "com/example/epicycle/epicycle/Timeout$Holder")) (by decide) (by decide)))
  clear u174
  have f184 := u175.other W179 (Or.inr (slot_ne (Or.inr (own_w hw 77 rfl)) (Or.inr (own_w hw 73 rfl)) (by decide) (t := .long) (t' := (.object "com/example/epicycle/epicycle/Timeout$Holder")) (by decide) (by decide)))
  clear u175
  have f185 := u176.other W179 (Or.inr (slot_ne (Or.inl (own_w hw 156 rfl)) (Or.inr (own_w hw 73 rfl)) (by decide) (t := .int) (t' := (.object "com/example/epicycle/epicycle/Timeout$Holder")) (by decide) (by decide)))
  clear u176
  have f186 := u177.other W179 (Or.inr (slot_ne (Or.inl (own_w hw 222 rfl)) (Or.inr (own_w hw 73 rfl)) (by decide) (t := .int) (t' := (.object "com/example/epicycle/epicycle/Timeout$Holder")) (by decide) (by decide)))
  clear u177
  have sz179 : n0 ≤ h179.size := by rw [W179.size]; exact Z0
  have fr179 := Fr.snoc X179 N0 g_a
  clear N0
  have kp179 := kp0.wr W179 (Or.inl (List.mem_of_getElem? (i := 0) rfl))
  clear kp0
  refine own_st (st179) ?_
  clear st179 X178 e178 W179 u173
  show OFin p e below s _ _ _ (T179.setTop (mkF m 9 #[.val (.ref a), .val .null, .val .null, .val (.long q), .second] []))
  refine own_st (fun _ kS => XS.aloadN X179.here hx rfl (hb hby own_d9_9) rfl rfl kS) ?_
  show OFin p e below s _ _ _ (T179.setTop (mkF m 10 #[.val (.ref a), .val .null, .val .null, .val (.long q), .second] [(.ref a)]))
  refine own_st (fun _ kS => XS.aloadN X179.here hx rfl (hb hby own_d9_10) rfl rfl kS) ?_
  show OFin p e below s _ _ _ (T179.setTop (mkF m 11 #[.val (.ref a), .val .null, .val .null, .val (.long q), .second] [.null, (.ref a)]))
  obtain ⟨T187, h187, X187, e187, W187, st187⟩ := putF X179 hx hZ hown (host := "") (Or.inl (own_w hw 74 rfl)) Via.refl e179 f183 f181 (Or.inr ⟨(own_w hw 75 rfl), rfl, hnm⟩) (own_w hw 66 rfl) (ty := (.object "java/lang/Runnable")) (by decide) rfl rfl (g := (mkF m 11 #[.val (.ref a), .val .null, .val .null, .val (.long q), .second] [.null, (.ref a)])) rfl rfl (hb hby own_d9_11)
  have f188 := f183.same W187
  have f189 := f181.wr W187
  clear f181
  have f190 := f180.other W187 (Or.inr (slot_ne (Or.inr (own_w hw 73 rfl)) (Or.inr (own_w hw 75 rfl)) (by decide) (t := (.object "com/example/epicycle/epicycle/Timeout$Holder")) (t' := (.object "java/lang/Runnable")) (by decide) (by decide)))
  clear f180
  have f192 := f184.other W187 (Or.inr (slot_ne (Or.inr (own_w hw 77 rfl)) (Or.inr (own_w hw 75 rfl)) (by decide) (t := .long) (t' := (.object "java/lang/Runnable")) (by decide) (by decide)))
  clear f184
  have f193 := f185.other W187 (Or.inr (slot_ne (Or.inl (own_w hw 156 rfl)) (Or.inr (own_w hw 75 rfl)) (by decide) (t := .int) (t' := (.object "java/lang/Runnable")) (by decide) (by decide)))
  clear f185
  have f194 := f186.other W187 (Or.inr (slot_ne (Or.inl (own_w hw 222 rfl)) (Or.inr (own_w hw 75 rfl)) (by decide) (t := .int) (t' := (.object "java/lang/Runnable")) (by decide) (by decide)))
  clear f186
  have sz187 : n0 ≤ h187.size := by rw [W187.size]; exact sz179
  clear sz179
  have fr187 := Fr.snoc X187 fr179 g_a
  clear fr179
  have kp187 := kp179.wr W187 (Or.inl (List.mem_of_getElem? (i := 0) rfl))
  clear kp179
  refine own_st (st187) ?_
  clear st187 X179 e179 W187 f183
  show OFin p e below s _ _ _ (T187.setTop (mkF m 14 #[.val (.ref a), .val .null, .val .null, .val (.long q), .second] []))
  refine own_st (fun _ kS => XS.aloadN X187.here hx rfl (hb hby own_d9_14) rfl rfl kS) ?_
  show OFin p e below s _ _ _ (T187.setTop (mkF m 15 #[.val (.ref a), .val .null, .val .null, .val (.long q), .second] [(.ref a)]))
  refine own_st (fun _ kS => XS.lloadN X187.here hx rfl (hb hby own_d9_15) rfl kS) ?_
  show OFin p e below s _ _ _ (T187.setTop (mkF m 16 #[.val (.ref a), .val .null, .val .null, .val (.long q), .second] [(.long q), (.ref a)]))
  obtain ⟨T195, h195, X195, e195, W195, st195⟩ := putF X187 hx hZ hown (host := "") (Or.inl (own_w hw 76 rfl)) Via.refl e187 f192 f189 (Or.inr ⟨(own_w hw 77 rfl), rfl, hnm⟩) (own_w hw 66 rfl) (ty := .long) (by decide) rfl rfl (g := (mkF m 16 #[.val (.ref a), .val .null, .val .null, .val (.long q), .second] [(.long q), (.ref a)])) rfl rfl (hb hby own_d9_16)
  have f196 := f192.same W195
  have f197 := f189.wr W195
  clear f189
  have f198 := f190.other W195 (Or.inr (slot_ne (Or.inr (own_w hw 73 rfl)) (Or.inr (own_w hw 77 rfl)) (by decide) (t := (.object "com/example/epicycle/epicycle/Timeout$Holder")) (t' := .long) (by decide) (by decide)))
  clear f190
  have f199 := f188.other W195 (Or.inr (slot_ne (Or.inr (own_w hw 75 rfl)) (Or.inr (own_w hw 77 rfl)) (by decide) (t := (.object "java/lang/Runnable")) (t' := .long) (by decide) (by decide)))
  clear f188
  have f201 := f193.other W195 (Or.inr (slot_ne (Or.inl (own_w hw 156 rfl)) (Or.inr (own_w hw 77 rfl)) (by decide) (t := .int) (t' := .long) (by decide) (by decide)))
  clear f193
  have f202 := f194.other W195 (Or.inr (slot_ne (Or.inl (own_w hw 222 rfl)) (Or.inr (own_w hw 77 rfl)) (by decide) (t := .int) (t' := .long) (by decide) (by decide)))
  clear f194
  have sz195 : n0 ≤ h195.size := by rw [W195.size]; exact sz187
  clear sz187
  have fr195 := Fr.snoc X195 fr187 g_a
  clear fr187
  have kp195 := kp187.wr W195 (Or.inl (List.mem_of_getElem? (i := 0) rfl))
  clear kp187
  refine own_st (st195) ?_
  clear st195 X187 e187 W195 f192
  show OFin p e below s _ _ _ (T195.setTop (mkF m 19 #[.val (.ref a), .val .null, .val .null, .val (.long q), .second] []))
  exact own_retV X195 hx hret hlk (hb hby own_d9_19) (by decide) (by decide) (by show _ ∧ _ ∧ Keep h0 T195.heap [a] ∧ _; rw [e195]; exact ⟨rfl, fr195, kp195, ⟨f197, f196, f201, f202⟩⟩)
set_option maxRecDepth 65536 in
set_option maxHeartbeats 40000000 in
theorem rmFT (l : Launch) (Z : State) (a0 : Array Value) (hw : ∀ d ∈ tables_1, d.before a0 Z = true) (a : Addr) (h0 : Heap) (q : Int64) (pv nx : Int32) (B_OTO0 : OTO Z h0 a q pv nx)  :
    OMet l Z (⟨"com/example/epicycle/epicycle/Timeout", "fireTick", "()J"⟩ : MethodName) prog_11_method_6_code 1 (some .long) (⟨0, 0, 0, 0⟩ : Room) #[(.ref a)] h0 (fun v h L => v = some (.long q) ∧ h = h0 ∧ L = []) := by
  refine own_enter own_pn11 ?_
  intro p e s m below meth c T0 X0 hC e0
  obtain ⟨hx, hZ, hby, hml, hown, hret, hlk, hnm⟩ := hC
  have hown : s.vm.findClass "com/example/epicycle/epicycle/Timeout" = some m.cls := hown
  refine own_at (own_ef11_R m a) ?_
  show OFin p e below s _ _ _ (T0.setTop (mkF m 0 #[.val (.ref a)] []))
  obtain ⟨u203, u204, u205, u206⟩ := B_OTO0
  refine own_st (fun _ kS => XS.aloadN X0.here hx rfl (hb hby own_d11_0) rfl rfl kS) ?_
  show OFin p e below s _ _ _ (T0.setTop (mkF m 1 #[.val (.ref a)] [(.ref a)]))
  obtain ⟨T207, X207, e207, st207⟩ := getF X0 hx hZ hown (host := "") (Or.inl (own_w hw 76 rfl)) Via.refl e0 u204 (g := (mkF m 1 #[.val (.ref a)] [(.ref a)])) rfl rfl (hb hby own_d11_1)
  refine own_st (st207) ?_
  clear st207 X0 e0
  show OFin p e below s _ _ _ (T207.setTop (mkF m 4 #[.val (.ref a)] [(.long q)]))
  exact own_ret X207 hx (t := .long) hret hlk rfl (Or.inr (Or.inl ⟨rfl, rfl, _, rfl⟩)) (hb hby own_d11_4) (by decide) (by decide) ⟨rfl, e207, rfl⟩
def own_dig (q : Int64) (p : Int32) : Int32 := ((q.toUInt64 >>> ((p * 6) &&& 0x3f).toInt64.toUInt64).toInt64).toInt32 &&& 63
def own_dgl (q : Int64) (p : Int32) : Int32 := (((q.toUInt64 >>> ((p * 6) &&& 0x3f).toInt64.toUInt64).toInt64) &&& 63).toInt32
set_option maxRecDepth 65536 in
set_option maxHeartbeats 40000000 in
theorem rmDG (l : Launch) (Z : State) (a0 : Array Value) (hw : ∀ d ∈ tables_1, d.before a0 Z = true) (q : Int64) (p9 : Int32) (h0 : Heap)    :
    OMet l Z (⟨"com/example/epicycle/epicycle/SlotRing", "digit", "(JI)I"⟩ : MethodName) prog_7_method_2_code 3 (some .int) (⟨0, 0, 0, 0⟩ : Room) #[(.long q), (.int p9)] h0 (fun v h L => v = some (.int (own_dig q p9)) ∧ h = h0 ∧ L = []) := by
  refine own_enter own_pn12 ?_
  intro p e s m below meth c T0 X0 hC e0
  obtain ⟨hx, hZ, hby, hml, hown, hret, hlk, hnm⟩ := hC
  have hown : s.vm.findClass "com/example/epicycle/epicycle/SlotRing" = some m.cls := hown
  refine own_at (own_ef12_JI m q p9) ?_
  show OFin p e below s _ _ _ (T0.setTop (mkF m 0 #[.val (.long q), .second, .val (.int p9)] []))
  refine own_st (fun _ kS => XS.lloadN X0.here hx rfl (hb hby own_d12_0) rfl kS) ?_
  show OFin p e below s _ _ _ (T0.setTop (mkF m 1 #[.val (.long q), .second, .val (.int p9)] [(.long q)]))
  refine own_st (fun _ kS => XS.iloadN X0.here hx rfl (hb hby own_d12_1) rfl kS) ?_
  show OFin p e below s _ _ _ (T0.setTop (mkF m 2 #[.val (.long q), .second, .val (.int p9)] [(.int p9), (.long q)]))
  refine own_st (fun _ kS => XS.bipush X0.here hx rfl (hb hby own_d12_2) kS) ?_
  show OFin p e below s _ _ _ (T0.setTop (mkF m 4 #[.val (.long q), .second, .val (.int p9)] [(.int (6 : Int32)), (.int p9), (.long q)]))
  refine own_st (fun _ kS => XS.imul X0.here hx rfl (hb hby own_d12_4) rfl kS) ?_
  show OFin p e below s _ _ _ (T0.setTop (mkF m 5 #[.val (.long q), .second, .val (.int p9)] [(.int (p9 * (6 : Int32))), (.long q)]))
  refine own_st (fun _ kS => XS.lushr X0.here hx rfl (hb hby own_d12_5) rfl kS) ?_
  show OFin p e below s _ _ _ (T0.setTop (mkF m 6 #[.val (.long q), .second, .val (.int p9)] [(.long ((q.toUInt64 >>> ((p9 * (6 : Int32)) &&& 0x3f).toInt64.toUInt64).toInt64))]))
  refine own_st (fun _ kS => XS.l2i X0.here hx rfl (hb hby own_d12_6) rfl kS) ?_
  show OFin p e below s _ _ _ (T0.setTop (mkF m 7 #[.val (.long q), .second, .val (.int p9)] [(.int (((q.toUInt64 >>> ((p9 * (6 : Int32)) &&& 0x3f).toInt64.toUInt64).toInt64).toInt32))]))
  refine own_st (fun _ kS => XS.bipush X0.here hx rfl (hb hby own_d12_7) kS) ?_
  show OFin p e below s _ _ _ (T0.setTop (mkF m 9 #[.val (.long q), .second, .val (.int p9)] [(.int (63 : Int32)), (.int (((q.toUInt64 >>> ((p9 * (6 : Int32)) &&& 0x3f).toInt64.toUInt64).toInt64).toInt32))]))
  refine own_st (fun _ kS => XS.iand X0.here hx rfl (hb hby own_d12_9) rfl kS) ?_
  show OFin p e below s _ _ _ (T0.setTop (mkF m 10 #[.val (.long q), .second, .val (.int p9)] [(.int ((((q.toUInt64 >>> ((p9 * (6 : Int32)) &&& 0x3f).toInt64.toUInt64).toInt64).toInt32) &&& (63 : Int32)))]))
  exact own_ret X0 hx (t := .int) hret hlk rfl (Or.inl ⟨rfl, by simp, _, rfl⟩) (hb hby own_d12_10) (by decide) (by decide) ⟨rfl, e0, rfl⟩
set_option maxRecDepth 65536 in
set_option maxHeartbeats 40000000 in
theorem rmLG (l : Launch) (Z : State) (a0 : Array Value) (hw : ∀ d ∈ tables_1, d.before a0 Z = true) (q : Int64) (p9 : Int32) (h0 : Heap)    :
    OMet l Z (⟨"com/example/epicycle/epicycle/SlotRingTakePinLaw", "dig", "(JI)I"⟩ : MethodName) method_2_code 5 (some .int) (⟨0, 0, 0, 0⟩ : Room) #[(.long q), (.int p9)] h0 (fun v h L => v = some (.int (own_dgl q p9)) ∧ h = h0 ∧ L = []) := by
  refine own_enter own_pn20 ?_
  intro p e s m below meth c T0 X0 hC e0
  obtain ⟨hx, hZ, hby, hml, hown, hret, hlk, hnm⟩ := hC
  have hown : s.vm.findClass "com/example/epicycle/epicycle/SlotRingTakePinLaw" = some m.cls := hown
  refine own_at (own_ef20_JI m q p9) ?_
  show OFin p e below s _ _ _ (T0.setTop (mkF m 0 #[.val (.long q), .second, .val (.int p9), .unset, .unset] []))
  refine own_st (fun _ kS => XS.lloadN X0.here hx rfl (hb hby own_d20_0) rfl kS) ?_
  show OFin p e below s _ _ _ (T0.setTop (mkF m 1 #[.val (.long q), .second, .val (.int p9), .unset, .unset] [(.long q)]))
  refine own_st (fun _ kS => XS.iloadN X0.here hx rfl (hb hby own_d20_1) rfl kS) ?_
  show OFin p e below s _ _ _ (T0.setTop (mkF m 2 #[.val (.long q), .second, .val (.int p9), .unset, .unset] [(.int p9), (.long q)]))
  refine own_st (fun _ kS => XS.bipush X0.here hx rfl (hb hby own_d20_2) kS) ?_
  show OFin p e below s _ _ _ (T0.setTop (mkF m 4 #[.val (.long q), .second, .val (.int p9), .unset, .unset] [(.int (6 : Int32)), (.int p9), (.long q)]))
  refine own_st (fun _ kS => XS.imul X0.here hx rfl (hb hby own_d20_4) rfl kS) ?_
  show OFin p e below s _ _ _ (T0.setTop (mkF m 5 #[.val (.long q), .second, .val (.int p9), .unset, .unset] [(.int (p9 * (6 : Int32))), (.long q)]))
  refine own_st (fun _ kS => XS.lushr X0.here hx rfl (hb hby own_d20_5) rfl kS) ?_
  show OFin p e below s _ _ _ (T0.setTop (mkF m 6 #[.val (.long q), .second, .val (.int p9), .unset, .unset] [(.long ((q.toUInt64 >>> ((p9 * (6 : Int32)) &&& 0x3f).toInt64.toUInt64).toInt64))]))
  refine own_st (fun _ kS => XS.lstoreN X0.here hx rfl (hb hby own_d20_6) rfl (l' := #[.val (.long q), .second, .val (.int p9), .val (.long ((q.toUInt64 >>> ((p9 * (6 : Int32)) &&& 0x3f).toInt64.toUInt64).toInt64)), .second]) rfl kS) ?_
  show OFin p e below s _ _ _ (T0.setTop (mkF m 7 #[.val (.long q), .second, .val (.int p9), .val (.long ((q.toUInt64 >>> ((p9 * (6 : Int32)) &&& 0x3f).toInt64.toUInt64).toInt64)), .second] []))
  refine own_st (fun _ kS => XS.lloadN X0.here hx rfl (hb hby own_d20_7) rfl kS) ?_
  show OFin p e below s _ _ _ (T0.setTop (mkF m 8 #[.val (.long q), .second, .val (.int p9), .val (.long ((q.toUInt64 >>> ((p9 * (6 : Int32)) &&& 0x3f).toInt64.toUInt64).toInt64)), .second] [(.long ((q.toUInt64 >>> ((p9 * (6 : Int32)) &&& 0x3f).toInt64.toUInt64).toInt64))]))
  refine own_st (X0.ldc2Long hx hown (mvT hZ (own_w hw 161 rfl)) (g := (mkF m 8 #[.val (.long q), .second, .val (.int p9), .val (.long ((q.toUInt64 >>> ((p9 * (6 : Int32)) &&& 0x3f).toInt64.toUInt64).toInt64)), .second] [(.long ((q.toUInt64 >>> ((p9 * (6 : Int32)) &&& 0x3f).toInt64.toUInt64).toInt64))])) rfl (hb hby own_d20_8)) ?_
  show OFin p e below s _ _ _ (T0.setTop (mkF m 11 #[.val (.long q), .second, .val (.int p9), .val (.long ((q.toUInt64 >>> ((p9 * (6 : Int32)) &&& 0x3f).toInt64.toUInt64).toInt64)), .second] [(.long (63 : Int64)), (.long ((q.toUInt64 >>> ((p9 * (6 : Int32)) &&& 0x3f).toInt64.toUInt64).toInt64))]))
  refine own_st (fun _ kS => XS.land X0.here hx rfl (hb hby own_d20_11) rfl kS) ?_
  show OFin p e below s _ _ _ (T0.setTop (mkF m 12 #[.val (.long q), .second, .val (.int p9), .val (.long ((q.toUInt64 >>> ((p9 * (6 : Int32)) &&& 0x3f).toInt64.toUInt64).toInt64)), .second] [(.long (((q.toUInt64 >>> ((p9 * (6 : Int32)) &&& 0x3f).toInt64.toUInt64).toInt64) &&& (63 : Int64)))]))
  refine own_st (fun _ kS => XS.l2i X0.here hx rfl (hb hby own_d20_12) rfl kS) ?_
  show OFin p e below s _ _ _ (T0.setTop (mkF m 13 #[.val (.long q), .second, .val (.int p9), .val (.long ((q.toUInt64 >>> ((p9 * (6 : Int32)) &&& 0x3f).toInt64.toUInt64).toInt64)), .second] [(.int ((((q.toUInt64 >>> ((p9 * (6 : Int32)) &&& 0x3f).toInt64.toUInt64).toInt64) &&& (63 : Int64)).toInt32))]))
  exact own_ret X0 hx (t := .int) hret hlk rfl (Or.inl ⟨rfl, by simp, _, rfl⟩) (hb hby own_d20_13) (by decide) (by decide) ⟨rfl, e0, rfl⟩
def OSLn (Z : State) (h : Heap) (sl : Addr) : Prop :=
  Exa Z h sl "com/example/epicycle/epicycle/SlotRing$Slot" ∧ Fld Z h sl "com/example/epicycle/epicycle/TimeoutList" "head" "I" (.int (0 : Int32)) ∧ Fld Z h sl "com/example/epicycle/epicycle/TimeoutList" "tail" "I" (.int (0 : Int32)) ∧ Fld Z h sl "com/example/epicycle/epicycle/TimeoutList" "table" "Lcom/example/epicycle/epicycle/TimeoutTable;" .null ∧ Fld Z h sl "com/example/epicycle/epicycle/SlotRing$Slot" "count" "I" (.int (0 : Int32)) ∧ Fld Z h sl "com/example/epicycle/epicycle/SlotRing$Slot" "earliest" "J" (.long (0 : Int64)) ∧ Fld Z h sl "com/example/epicycle/epicycle/SlotRing$Slot" "nested" "Lcom/example/epicycle/epicycle/SlotRing;" .null
theorem OSLn.keep {Z : State} {h h' : Heap} {ws : List Addr} {sl : Addr} (F : OSLn Z h sl) (K : Keep h h' ws) (n0 : sl ∉ ws) : OSLn Z h' sl :=
  ⟨F.1.keep K, F.2.1.keep K n0, F.2.2.1.keep K n0, F.2.2.2.1.keep K n0, F.2.2.2.2.1.keep K n0, F.2.2.2.2.2.1.keep K n0, F.2.2.2.2.2.2.keep K n0⟩
set_option maxRecDepth 65536 in
set_option maxHeartbeats 40000000 in
theorem rmTL (l : Launch) (Z : State) (a0 : Array Value) (hw : ∀ d ∈ tables_1, d.before a0 Z = true) (a : Addr) (tt : Addr) (h0 : Heap) (n0 : Nat) (Z0 : n0 ≤ h0.size)  (B_OSLn0 : OSLn Z h0 a) (g_a : n0 ≤ a)   :
    OMet l Z (⟨"com/example/epicycle/epicycle/TimeoutList", "<init>", "(Lcom/example/epicycle/epicycle/TimeoutTable;)V"⟩ : MethodName) prog_13_method_1_code 2 none (⟨1, 0, 0, 12⟩ : Room) #[(.ref a), (.ref tt)] h0 (fun v h L => v = none ∧ Fr n0 L ∧ Keep h0 h [a] ∧ OSL Z h a tt 0 0 0 0) := by
  refine own_enter own_pn14 ?_
  intro p e s m below meth c T0 X0 hC e0
  obtain ⟨hx, hZ, hby, hml, hown, hret, hlk, hnm⟩ := hC
  have hown : s.vm.findClass "com/example/epicycle/epicycle/TimeoutList" = some m.cls := hown
  refine own_at (own_ef14_RR m a tt) ?_
  show OFin p e below s _ _ _ (T0.setTop (mkF m 0 #[.val (.ref a), .val (.ref tt)] []))
  have N0 := Fr.nil n0
  have kp0 := Keep.refl h0 [a]
  obtain ⟨u208, u209, u210, u211, u212, u213, u214⟩ := B_OSLn0
  refine own_st (fun _ kS => XS.aloadN X0.here hx rfl (hb hby own_d14_0) rfl rfl kS) ?_
  show OFin p e below s _ _ _ (T0.setTop (mkF m 1 #[.val (.ref a), .val (.ref tt)] [(.ref a)]))
  obtain ⟨T215, X215, e215, st215⟩ := initO X0 hx hZ hown (own_w hw 101 rfl) (own_w hw 7 rfl) (own_w hw 8 rfl) e0 (g := (mkF m 1 #[.val (.ref a), .val (.ref tt)] [(.ref a)])) rfl (by rw [hml]; rfl) rfl (hb hby own_d14_1) (by decide) (W := 0) (by show 2 * 0 + _ ≤ _; exact Nat.le_of_eq rfl) (by decide)
  refine own_st (st215) ?_
  clear st215 X0 e0
  show OFin p e below s _ _ _ (T215.setTop (mkF m 4 #[.val (.ref a), .val (.ref tt)] []))
  refine own_st (fun _ kS => XS.aloadN X215.here hx rfl (hb hby own_d14_4) rfl rfl kS) ?_
  show OFin p e below s _ _ _ (T215.setTop (mkF m 5 #[.val (.ref a), .val (.ref tt)] [(.ref a)]))
  refine own_st (fun _ kS => XS.iconst X215.here hx rfl (hb hby own_d14_5) kS) ?_
  show OFin p e below s _ _ _ (T215.setTop (mkF m 6 #[.val (.ref a), .val (.ref tt)] [(.int (0 : Int32)), (.ref a)]))
  obtain ⟨T216, h216, X216, e216, W216, st216⟩ := putF X215 hx hZ hown (host := "") (Or.inl (own_w hw 102 rfl)) Via.refl e215 u209 u208 (Or.inl (own_w hw 103 rfl)) (own_w hw 91 rfl) (ty := .int) (by decide) rfl rfl (g := (mkF m 6 #[.val (.ref a), .val (.ref tt)] [(.int (0 : Int32)), (.ref a)])) rfl rfl (hb hby own_d14_6)
  have f217 := u209.same W216
  have f218 := u208.wr W216
  clear u208
  have f220 := u210.other W216 (Or.inr (slot_ne (Or.inl (own_w hw 105 rfl)) (Or.inl (own_w hw 103 rfl)) (by decide) (t := .int) (t' := .int) (by decide) (by decide)))
  clear u210
  have f221 := u211.other W216 (Or.inr (slot_ne (Or.inr (own_w hw 107 rfl)) (Or.inl (own_w hw 103 rfl)) (by decide) (t := (.object "com/example/epicycle/epicycle/TimeoutTable")) (t' := .int) (by decide) (by decide)))
  clear u211
  have f222 := u212.other W216 (Or.inr (slot_ne (Or.inl (own_w hw 110 rfl)) (Or.inl (own_w hw 103 rfl)) (by decide) (t := .int) (t' := .int) (by decide) (by decide)))
  clear u212
  have f223 := u213.other W216 (Or.inr (slot_ne (Or.inl (own_w hw 122 rfl)) (Or.inl (own_w hw 103 rfl)) (by decide) (t := .long) (t' := .int) (by decide) (by decide)))
  clear u213
  have f224 := u214.other W216 (Or.inr (slot_ne (Or.inl (own_w hw 114 rfl)) (Or.inl (own_w hw 103 rfl)) (by decide) (t := (.object "com/example/epicycle/epicycle/SlotRing")) (t' := .int) (by decide) (by decide)))
  clear u214
  have sz216 : n0 ≤ h216.size := by rw [W216.size]; exact Z0
  have fr216 := Fr.snoc X216 N0 g_a
  clear N0
  have kp216 := kp0.wr W216 (Or.inl (List.mem_of_getElem? (i := 0) rfl))
  clear kp0
  refine own_st (st216) ?_
  clear st216 X215 e215 W216 u209
  show OFin p e below s _ _ _ (T216.setTop (mkF m 9 #[.val (.ref a), .val (.ref tt)] []))
  refine own_st (fun _ kS => XS.aloadN X216.here hx rfl (hb hby own_d14_9) rfl rfl kS) ?_
  show OFin p e below s _ _ _ (T216.setTop (mkF m 10 #[.val (.ref a), .val (.ref tt)] [(.ref a)]))
  refine own_st (fun _ kS => XS.iconst X216.here hx rfl (hb hby own_d14_10) kS) ?_
  show OFin p e below s _ _ _ (T216.setTop (mkF m 11 #[.val (.ref a), .val (.ref tt)] [(.int (0 : Int32)), (.ref a)]))
  obtain ⟨T225, h225, X225, e225, W225, st225⟩ := putF X216 hx hZ hown (host := "") (Or.inl (own_w hw 104 rfl)) Via.refl e216 f220 f218 (Or.inl (own_w hw 105 rfl)) (own_w hw 91 rfl) (ty := .int) (by decide) rfl rfl (g := (mkF m 11 #[.val (.ref a), .val (.ref tt)] [(.int (0 : Int32)), (.ref a)])) rfl rfl (hb hby own_d14_11)
  have f226 := f220.same W225
  have f227 := f218.wr W225
  clear f218
  have f228 := f217.other W225 (Or.inr (slot_ne (Or.inl (own_w hw 103 rfl)) (Or.inl (own_w hw 105 rfl)) (by decide) (t := .int) (t' := .int) (by decide) (by decide)))
  clear f217
  have f230 := f221.other W225 (Or.inr (slot_ne (Or.inr (own_w hw 107 rfl)) (Or.inl (own_w hw 105 rfl)) (by decide) (t := (.object "com/example/epicycle/epicycle/TimeoutTable")) (t' := .int) (by decide) (by decide)))
  clear f221
  have f231 := f222.other W225 (Or.inr (slot_ne (Or.inl (own_w hw 110 rfl)) (Or.inl (own_w hw 105 rfl)) (by decide) (t := .int) (t' := .int) (by decide) (by decide)))
  clear f222
  have f232 := f223.other W225 (Or.inr (slot_ne (Or.inl (own_w hw 122 rfl)) (Or.inl (own_w hw 105 rfl)) (by decide) (t := .long) (t' := .int) (by decide) (by decide)))
  clear f223
  have f233 := f224.other W225 (Or.inr (slot_ne (Or.inl (own_w hw 114 rfl)) (Or.inl (own_w hw 105 rfl)) (by decide) (t := (.object "com/example/epicycle/epicycle/SlotRing")) (t' := .int) (by decide) (by decide)))
  clear f224
  have sz225 : n0 ≤ h225.size := by rw [W225.size]; exact sz216
  clear sz216
  have fr225 := Fr.snoc X225 fr216 g_a
  clear fr216
  have kp225 := kp216.wr W225 (Or.inl (List.mem_of_getElem? (i := 0) rfl))
  clear kp216
  refine own_st (st225) ?_
  clear st225 X216 e216 W225 f220
  show OFin p e below s _ _ _ (T225.setTop (mkF m 14 #[.val (.ref a), .val (.ref tt)] []))
  refine own_st (fun _ kS => XS.aloadN X225.here hx rfl (hb hby own_d14_14) rfl rfl kS) ?_
  show OFin p e below s _ _ _ (T225.setTop (mkF m 15 #[.val (.ref a), .val (.ref tt)] [(.ref a)]))
  refine own_st (fun _ kS => XS.aloadN X225.here hx rfl (hb hby own_d14_15) rfl rfl kS) ?_
  show OFin p e below s _ _ _ (T225.setTop (mkF m 16 #[.val (.ref a), .val (.ref tt)] [(.ref tt), (.ref a)]))
  obtain ⟨T234, h234, X234, e234, W234, st234⟩ := putF X225 hx hZ hown (host := "") (Or.inl (own_w hw 106 rfl)) Via.refl e225 f230 f227 (Or.inr ⟨(own_w hw 107 rfl), rfl, hnm⟩) (own_w hw 91 rfl) (ty := (.object "com/example/epicycle/epicycle/TimeoutTable")) (by decide) rfl rfl (g := (mkF m 16 #[.val (.ref a), .val (.ref tt)] [(.ref tt), (.ref a)])) rfl rfl (hb hby own_d14_16)
  have f235 := f230.same W234
  have f236 := f227.wr W234
  clear f227
  have f237 := f228.other W234 (Or.inr (slot_ne (Or.inl (own_w hw 103 rfl)) (Or.inr (own_w hw 107 rfl)) (by decide) (t := .int) (t' := (.object "com/example/epicycle/epicycle/TimeoutTable")) (by decide) (by decide)))
  clear f228
  have f238 := f226.other W234 (Or.inr (slot_ne (Or.inl (own_w hw 105 rfl)) (Or.inr (own_w hw 107 rfl)) (by decide) (t := .int) (t' := (.object "com/example/epicycle/epicycle/TimeoutTable")) (by decide) (by decide)))
  clear f226
  have f240 := f231.other W234 (Or.inr (slot_ne (Or.inl (own_w hw 110 rfl)) (Or.inr (own_w hw 107 rfl)) (by decide) (t := .int) (t' := (.object "com/example/epicycle/epicycle/TimeoutTable")) (by decide) (by decide)))
  clear f231
  have f241 := f232.other W234 (Or.inr (slot_ne (Or.inl (own_w hw 122 rfl)) (Or.inr (own_w hw 107 rfl)) (by decide) (t := .long) (t' := (.object "com/example/epicycle/epicycle/TimeoutTable")) (by decide) (by decide)))
  clear f232
  have f242 := f233.other W234 (Or.inr (slot_ne (Or.inl (own_w hw 114 rfl)) (Or.inr (own_w hw 107 rfl)) (by decide) (t := (.object "com/example/epicycle/epicycle/SlotRing")) (t' := (.object "com/example/epicycle/epicycle/TimeoutTable")) (by decide) (by decide)))
  clear f233
  have sz234 : n0 ≤ h234.size := by rw [W234.size]; exact sz225
  clear sz225
  have fr234 := Fr.snoc X234 fr225 g_a
  clear fr225
  have kp234 := kp225.wr W234 (Or.inl (List.mem_of_getElem? (i := 0) rfl))
  clear kp225
  refine own_st (st234) ?_
  clear st234 X225 e225 W234 f230
  show OFin p e below s _ _ _ (T234.setTop (mkF m 19 #[.val (.ref a), .val (.ref tt)] []))
  exact own_retV X234 hx hret hlk (hb hby own_d14_19) (by decide) (by decide) (by show _ ∧ _ ∧ Keep h0 T234.heap [a] ∧ _; rw [e234]; exact ⟨rfl, fr234, kp234, ⟨f236, f237, f238, f235, f240, f241, f242⟩⟩)
set_option maxRecDepth 65536 in
set_option maxHeartbeats 40000000 in
theorem rmSL (l : Launch) (Z : State) (a0 : Array Value) (hw : ∀ d ∈ tables_1, d.before a0 Z = true) (a : Addr) (tt : Addr) (h0 : Heap) (n0 : Nat) (Z0 : n0 ≤ h0.size)  (B_OSLn0 : OSLn Z h0 a) (g_a : n0 ≤ a)   :
    OMet l Z (⟨"com/example/epicycle/epicycle/SlotRing$Slot", "<init>", "(Lcom/example/epicycle/epicycle/TimeoutTable;)V"⟩ : MethodName) prog_8_method_1_code 2 none (⟨2, 0, 0, 25⟩ : Room) #[(.ref a), (.ref tt)] h0 (fun v h L => v = none ∧ Fr n0 L ∧ Keep h0 h [a] ∧ OSL Z h a tt 0 0 0 0) := by
  refine own_enter own_pn13 ?_
  intro p e s m below meth c T0 X0 hC e0
  obtain ⟨hx, hZ, hby, hml, hown, hret, hlk, hnm⟩ := hC
  have hown : s.vm.findClass "com/example/epicycle/epicycle/SlotRing$Slot" = some m.cls := hown
  refine own_at (own_ef13_RR m a tt) ?_
  show OFin p e below s _ _ _ (T0.setTop (mkF m 0 #[.val (.ref a), .val (.ref tt)] []))
  have N0 := Fr.nil n0
  have kp0 := Keep.refl h0 [a]
  obtain ⟨u243, u244, u245, u246, u247, u248, u249⟩ := B_OSLn0
  refine own_st (fun _ kS => XS.aloadN X0.here hx rfl (hb hby own_d13_0) rfl rfl kS) ?_
  show OFin p e below s _ _ _ (T0.setTop (mkF m 1 #[.val (.ref a), .val (.ref tt)] [(.ref a)]))
  refine own_st (fun _ kS => XS.aloadN X0.here hx rfl (hb hby own_d13_1) rfl rfl kS) ?_
  show OFin p e below s _ _ _ (T0.setTop (mkF m 2 #[.val (.ref a), .val (.ref tt)] [(.ref tt), (.ref a)]))
  obtain ⟨v250, T250, L250, X250, hQ250, st250⟩ := own_init X0 hx hZ (y := (⟨"com/example/epicycle/epicycle/TimeoutList", "<init>", "(Lcom/example/epicycle/epicycle/TimeoutTable;)V"⟩ : MethodName)) (rm := ⟨1, 0, 0, 12⟩) (W := 0) (a := a) (argsL := [(.ref tt)]) (rest := []) rfl hown (own_w hw 96 rfl) (own_w hw 97 rfl) (own_w hw 99 rfl) (own_w hw 100 rfl) (rmTL l Z a0 hw a tt h0 n0 Z0 ⟨u243, u244, u245, u246, u247, u248, u249⟩ g_a) e0 (g := (mkF m 2 #[.val (.ref a), .val (.ref tt)] [(.ref tt), (.ref a)])) rfl (by rw [hml]; rfl) (lenOf own_pd3 rfl) rfl (by show 2 * 0 + _ ≤ _; exact Nat.le_of_eq rfl) (hb hby own_d13_2) (by decide) (by decide) (by decide) (by decide)
  obtain ⟨rfl, N250, K250, B250_0⟩ := hQ250
  have fr250 := Fr.app N0 N250
  clear N0 N250
  have kp250 := kp0.trans K250 (allS (Or.inl (List.mem_of_getElem? (i := 0) rfl)) all0)
  clear kp0
  have f251 := u243.keep K250
  clear u243
  clear u244
  clear u245
  clear u246
  clear u247
  clear u248
  clear u249
  have sz250 : n0 ≤ T250.heap.size := Nat.le_trans Z0 K250.1
  clear K250
  obtain ⟨u258, u259, u260, u261, u262, u263, u264⟩ := B250_0
  refine own_st (st250) ?_
  clear st250 X0 e0
  show OFin p e below s _ _ _ (T250.setTop (mkF m 5 #[.val (.ref a), .val (.ref tt)] []))
  exact own_retV X250 hx hret hlk (hb hby own_d13_5) (by decide) (by decide) (by show _ ∧ _ ∧ Keep h0 T250.heap [a] ∧ _; exact ⟨rfl, fr250, kp250, ⟨u258, u259, u260, u261, u262, u263, u264⟩⟩)
set_option maxRecDepth 65536 in
set_option maxHeartbeats 40000000 in
theorem rmIE1 (l : Launch) (Z : State) (a0 : Array Value) (hw : ∀ d ∈ tables_1, d.before a0 Z = true) (a : Addr) (h0 : Heap) (tt : Addr) (hd tl ct : Int32) (ea : Int64) (B_OSL0 : OSL Z h0 a tt hd tl ct ea) (hh : hd = 0) :
    OMet l Z (⟨"com/example/epicycle/epicycle/TimeoutList", "isEmpty", "()Z"⟩ : MethodName) prog_13_method_2_code 1 (some .boolean) (⟨0, 0, 0, 0⟩ : Room) #[(.ref a)] h0 (fun v h L => v = some (.int (1 : Int32)) ∧ h = h0 ∧ L = []) := by
  refine own_enter own_pn15 ?_
  intro p e s m below meth c T0 X0 hC e0
  obtain ⟨hx, hZ, hby, hml, hown, hret, hlk, hnm⟩ := hC
  have hown : s.vm.findClass "com/example/epicycle/epicycle/TimeoutList" = some m.cls := hown
  refine own_at (own_ef15_R m a) ?_
  show OFin p e below s _ _ _ (T0.setTop (mkF m 0 #[.val (.ref a)] []))
  obtain ⟨u265, u266, u267, u268, u269, u270, u271⟩ := B_OSL0
  refine own_st (fun _ kS => XS.aloadN X0.here hx rfl (hb hby own_d15_0) rfl rfl kS) ?_
  show OFin p e below s _ _ _ (T0.setTop (mkF m 1 #[.val (.ref a)] [(.ref a)]))
  obtain ⟨T272, X272, e272, st272⟩ := getF X0 hx hZ hown (host := "") (Or.inl (own_w hw 102 rfl)) Via.refl e0 u266 (g := (mkF m 1 #[.val (.ref a)] [(.ref a)])) rfl rfl (hb hby own_d15_1)
  refine own_st (st272) ?_
  clear st272 X0 e0
  show OFin p e below s _ _ _ (T272.setTop (mkF m 4 #[.val (.ref a)] [(.int hd)]))
  refine own_st (fun _ kS => XS.ifNo X272.here hx rfl (hb hby own_d15_4) rfl ((if0 _ _).trans (teq hh).2) kS) ?_
  show OFin p e below s _ _ _ (T272.setTop (mkF m 7 #[.val (.ref a)] []))
  refine own_st (fun _ kS => XS.iconst X272.here hx rfl (hb hby own_d15_7) kS) ?_
  show OFin p e below s _ _ _ (T272.setTop (mkF m 8 #[.val (.ref a)] [(.int (1 : Int32))]))
  refine own_st (fun _ kS => XS.goto X272.here hx rfl (pc0 := 8) (pc' := 12) rfl (hb hby own_d15_8) (by decide) (by decide) kS) ?_
  show OFin p e below s _ _ _ (T272.setTop (mkF m 12 #[.val (.ref a)] [(.int (1 : Int32))]))
  exact own_ret X272 hx (t := .boolean) hret hlk rfl (Or.inl ⟨rfl, by simp, _, rfl⟩) (hb hby own_d15_12) (by decide) (by decide) ⟨rfl, e272, rfl⟩
set_option maxRecDepth 65536 in
set_option maxHeartbeats 40000000 in
theorem rmIE0 (l : Launch) (Z : State) (a0 : Array Value) (hw : ∀ d ∈ tables_1, d.before a0 Z = true) (a : Addr) (h0 : Heap) (tt : Addr) (hd tl ct : Int32) (ea : Int64) (B_OSL0 : OSL Z h0 a tt hd tl ct ea) (hh : ¬ hd = 0) :
    OMet l Z (⟨"com/example/epicycle/epicycle/TimeoutList", "isEmpty", "()Z"⟩ : MethodName) prog_13_method_2_code 1 (some .boolean) (⟨0, 0, 0, 0⟩ : Room) #[(.ref a)] h0 (fun v h L => v = some (.int (0 : Int32)) ∧ h = h0 ∧ L = []) := by
  refine own_enter own_pn15 ?_
  intro p e s m below meth c T0 X0 hC e0
  obtain ⟨hx, hZ, hby, hml, hown, hret, hlk, hnm⟩ := hC
  have hown : s.vm.findClass "com/example/epicycle/epicycle/TimeoutList" = some m.cls := hown
  refine own_at (own_ef15_R m a) ?_
  show OFin p e below s _ _ _ (T0.setTop (mkF m 0 #[.val (.ref a)] []))
  obtain ⟨u273, u274, u275, u276, u277, u278, u279⟩ := B_OSL0
  refine own_st (fun _ kS => XS.aloadN X0.here hx rfl (hb hby own_d15_0) rfl rfl kS) ?_
  show OFin p e below s _ _ _ (T0.setTop (mkF m 1 #[.val (.ref a)] [(.ref a)]))
  obtain ⟨T280, X280, e280, st280⟩ := getF X0 hx hZ hown (host := "") (Or.inl (own_w hw 102 rfl)) Via.refl e0 u274 (g := (mkF m 1 #[.val (.ref a)] [(.ref a)])) rfl rfl (hb hby own_d15_1)
  refine own_st (st280) ?_
  clear st280 X0 e0
  show OFin p e below s _ _ _ (T280.setTop (mkF m 4 #[.val (.ref a)] [(.int hd)]))
  refine own_st (fun _ kS => XS.ifYes X280.here hx rfl (pc0 := 4) (pc' := 11) rfl (hb hby own_d15_4) rfl ((if0 _ _).trans (feq hh).2) (by decide) (by decide) kS) ?_
  show OFin p e below s _ _ _ (T280.setTop (mkF m 11 #[.val (.ref a)] []))
  refine own_st (fun _ kS => XS.iconst X280.here hx rfl (hb hby own_d15_11) kS) ?_
  show OFin p e below s _ _ _ (T280.setTop (mkF m 12 #[.val (.ref a)] [(.int (0 : Int32))]))
  exact own_ret X280 hx (t := .boolean) hret hlk rfl (Or.inl ⟨rfl, by simp, _, rfl⟩) (hb hby own_d15_12) (by decide) (by decide) ⟨rfl, e280, rfl⟩
set_option maxRecDepth 65536 in
set_option maxHeartbeats 40000000 in
theorem rmCS (l : Launch) (Z : State) (a0 : Array Value) (hw : ∀ d ∈ tables_1, d.before a0 Z = true) (a : Addr) (h0 : Heap) (ck c0 : Addr) (n : Int32) (f g : Nat → Value) (B_OCL10 : OCL1 Z h0 a ck c0 n f g)  :
    OMet l Z (⟨"com/example/epicycle/epicycle/ChunkedList", "size", "()I"⟩ : MethodName) prog_2_method_5_code 1 (some .int) (⟨0, 0, 0, 0⟩ : Room) #[(.ref a)] h0 (fun v h L => v = some (.int n) ∧ h = h0 ∧ L = []) := by
  refine own_enter own_pn19 ?_
  intro p e s m below meth c T0 X0 hC e0
  obtain ⟨hx, hZ, hby, hml, hown, hret, hlk, hnm⟩ := hC
  have hown : s.vm.findClass "com/example/epicycle/epicycle/ChunkedList" = some m.cls := hown
  refine own_at (own_ef19_R m a) ?_
  show OFin p e below s _ _ _ (T0.setTop (mkF m 0 #[.val (.ref a)] []))
  obtain ⟨u281, u282, u283, u284, u285, u286⟩ := B_OCL10
  refine own_st (fun _ kS => XS.aloadN X0.here hx rfl (hb hby own_d19_0) rfl rfl kS) ?_
  show OFin p e below s _ _ _ (T0.setTop (mkF m 1 #[.val (.ref a)] [(.ref a)]))
  obtain ⟨T287, X287, e287, st287⟩ := getF X0 hx hZ hown (host := "") (Or.inl (own_w hw 141 rfl)) Via.refl e0 u282 (g := (mkF m 1 #[.val (.ref a)] [(.ref a)])) rfl rfl (hb hby own_d19_1)
  refine own_st (st287) ?_
  clear st287 X0 e0
  show OFin p e below s _ _ _ (T287.setTop (mkF m 4 #[.val (.ref a)] [(.int n)]))
  exact own_ret X287 hx (t := .int) hret hlk rfl (Or.inl ⟨rfl, by simp, _, rfl⟩) (hb hby own_d19_4) (by decide) (by decide) ⟨rfl, e287, rfl⟩
set_option maxRecDepth 65536 in
set_option maxHeartbeats 40000000 in
theorem rmCA0 (l : Launch) (Z : State) (a0 : Array Value) (hw : ∀ d ∈ tables_1, d.before a0 Z = true) (a : Addr) (x : Addr) (h0 : Heap) (n0 : Nat) (Z0 : n0 ≤ h0.size) (ck : Addr) (ft : Int64) (pv nx : Int32) (B_OCL00 : OCL0 Z h0 a ck) (B_OTO1 : OTO Z h0 x ft pv nx) (g_a : n0 ≤ a) (g_ck : n0 ≤ ck) (ne_a_ck : a ≠ ck) (ne_a_x : a ≠ x) (ne_ck_x : ck ≠ x)  :
    OMet l Z (⟨"com/example/epicycle/epicycle/ChunkedList", "add", "(Ljava/lang/Object;)Z"⟩ : MethodName) prog_2_method_2_code 3 (some .boolean) (⟨0, 1, 1024, 0⟩ : Room) #[(.ref a), (.ref x)] h0 (fun v h L => v = some (.int (1 : Int32)) ∧ Fr n0 L ∧ Keep h0 h [a, ck] ∧ ∃ c0, h0.size ≤ c0 ∧ OCL1 Z h a ck c0 1 (fun i => if i = 0 then .ref c0 else .null) (fun i => if i = 0 then .ref x else .null)) := by
  refine own_enter own_pn18 ?_
  intro p e s m below meth c T0 X0 hC e0
  obtain ⟨hx, hZ, hby, hml, hown, hret, hlk, hnm⟩ := hC
  have hown : s.vm.findClass "com/example/epicycle/epicycle/ChunkedList" = some m.cls := hown
  refine own_at (own_ef18_RR m a x) ?_
  show OFin p e below s _ _ _ (T0.setTop (mkF m 0 #[.val (.ref a), .val (.ref x), .unset] []))
  have N0 := Fr.nil n0
  have kp0 := Keep.refl h0 [a, ck]
  obtain ⟨u288, u289, u290, u291, u292⟩ := B_OCL00
  obtain ⟨u293, u294, u295, u296⟩ := B_OTO1
  refine own_st (fun _ kS => XS.aloadN X0.here hx rfl (hb hby own_d18_0) rfl rfl kS) ?_
  show OFin p e below s _ _ _ (T0.setTop (mkF m 1 #[.val (.ref a), .val (.ref x), .unset] [(.ref a)]))
  obtain ⟨T297, X297, e297, st297⟩ := getF X0 hx hZ hown (host := "") (Or.inl (own_w hw 141 rfl)) Via.refl e0 u289 (g := (mkF m 1 #[.val (.ref a), .val (.ref x), .unset] [(.ref a)])) rfl rfl (hb hby own_d18_1)
  refine own_st (st297) ?_
  clear st297 X0 e0
  show OFin p e below s _ _ _ (T297.setTop (mkF m 4 #[.val (.ref a), .val (.ref x), .unset] [(.int (0 : Int32))]))
  refine own_st (X297.ldcInt hx hown (mvT hZ (own_w hw 143 rfl)) (g := (mkF m 4 #[.val (.ref a), .val (.ref x), .unset] [(.int (0 : Int32))])) rfl (hb hby own_d18_4)) ?_
  show OFin p e below s _ _ _ (T297.setTop (mkF m 6 #[.val (.ref a), .val (.ref x), .unset] [(.int (2147483647 : Int32)), (.int (0 : Int32))]))
  refine own_st (fun _ kS => XS.icmpYes X297.here hx rfl (pc0 := 6) (pc' := 19) rfl (hb hby own_d18_6) rfl (feq (by decide)).2 (by decide) (by decide) kS) ?_
  show OFin p e below s _ _ _ (T297.setTop (mkF m 19 #[.val (.ref a), .val (.ref x), .unset] []))
  refine own_st (fun _ kS => XS.aloadN X297.here hx rfl (hb hby own_d18_19) rfl rfl kS) ?_
  show OFin p e below s _ _ _ (T297.setTop (mkF m 20 #[.val (.ref a), .val (.ref x), .unset] [(.ref a)]))
  obtain ⟨T298, X298, e298, st298⟩ := getF X297 hx hZ hown (host := "") (Or.inl (own_w hw 141 rfl)) Via.refl e297 u289 (g := (mkF m 20 #[.val (.ref a), .val (.ref x), .unset] [(.ref a)])) rfl rfl (hb hby own_d18_20)
  refine own_st (st298) ?_
  clear st298 X297 e297
  show OFin p e below s _ _ _ (T298.setTop (mkF m 23 #[.val (.ref a), .val (.ref x), .unset] [(.int (0 : Int32))]))
  refine own_st (fun _ kS => XS.bipush X298.here hx rfl (hb hby own_d18_23) kS) ?_
  show OFin p e below s _ _ _ (T298.setTop (mkF m 25 #[.val (.ref a), .val (.ref x), .unset] [(.int (10 : Int32)), (.int (0 : Int32))]))
  refine own_st (fun _ kS => XS.iushr X298.here hx rfl (hb hby own_d18_25) rfl kS) ?_
  show OFin p e below s _ _ _ (T298.setTop (mkF m 26 #[.val (.ref a), .val (.ref x), .unset] [(.int (((0 : Int32).toUInt32 >>> ((10 : Int32) &&& 31).toUInt32).toInt32))]))
  rw [show ((((0 : Int32).toUInt32 >>> ((10 : Int32) &&& 31).toUInt32).toInt32)) = (0 : Int32) from by decide]
  show OFin p e below s _ _ _ (T298.setTop (mkF m 26 #[.val (.ref a), .val (.ref x), .unset] [(.int (0 : Int32))]))
  refine own_st (fun _ kS => XS.istoreN X298.here hx rfl (hb hby own_d18_26) rfl (l' := #[.val (.ref a), .val (.ref x), .val (.int (0 : Int32))]) rfl kS) ?_
  show OFin p e below s _ _ _ (T298.setTop (mkF m 27 #[.val (.ref a), .val (.ref x), .val (.int (0 : Int32))] []))
  refine own_st (fun _ kS => XS.iloadN X298.here hx rfl (hb hby own_d18_27) rfl kS) ?_
  show OFin p e below s _ _ _ (T298.setTop (mkF m 28 #[.val (.ref a), .val (.ref x), .val (.int (0 : Int32))] [(.int (0 : Int32))]))
  refine own_st (fun _ kS => XS.aloadN X298.here hx rfl (hb hby own_d18_28) rfl rfl kS) ?_
  show OFin p e below s _ _ _ (T298.setTop (mkF m 29 #[.val (.ref a), .val (.ref x), .val (.int (0 : Int32))] [(.ref a), (.int (0 : Int32))]))
  obtain ⟨T299, X299, e299, st299⟩ := getF X298 hx hZ hown (host := "") (Or.inl (own_w hw 31 rfl)) Via.refl e298 u290 (g := (mkF m 29 #[.val (.ref a), .val (.ref x), .val (.int (0 : Int32))] [(.ref a), (.int (0 : Int32))])) rfl rfl (hb hby own_d18_29)
  refine own_st (st299) ?_
  clear st299 X298 e298
  show OFin p e below s _ _ _ (T299.setTop (mkF m 32 #[.val (.ref a), .val (.ref x), .val (.int (0 : Int32))] [(.ref ck), (.int (0 : Int32))]))
  obtain ⟨cl300, Ar300, S300, B300, H300⟩ := id u292
  have hl300 := own_len S300 (rfl : _ = (1 : Int32))
  refine own_st (X299.arraylength hx (by rw [e299]; exact Ar300.1) (State.isArrayOf_alike hZ.alike Ar300.2.1) (g := (mkF m 32 #[.val (.ref a), .val (.ref x), .val (.int (0 : Int32))] [(.ref ck), (.int (0 : Int32))])) rfl rfl (hb hby own_d18_32)) ?_
  rw [hl300]
  clear hl300 Ar300 S300 B300
  show OFin p e below s _ _ _ (T299.setTop (mkF m 33 #[.val (.ref a), .val (.ref x), .val (.int (0 : Int32))] [(.int (1 : Int32)), (.int (0 : Int32))]))
  refine own_st (fun _ kS => XS.icmpYes X299.here hx rfl (pc0 := 33) (pc' := 53) rfl (hb hby own_d18_33) rfl (feq (by decide)).2 (by decide) (by decide) kS) ?_
  show OFin p e below s _ _ _ (T299.setTop (mkF m 53 #[.val (.ref a), .val (.ref x), .val (.int (0 : Int32))] []))
  refine own_st (fun _ kS => XS.aloadN X299.here hx rfl (hb hby own_d18_53) rfl rfl kS) ?_
  show OFin p e below s _ _ _ (T299.setTop (mkF m 54 #[.val (.ref a), .val (.ref x), .val (.int (0 : Int32))] [(.ref a)]))
  obtain ⟨T301, X301, e301, st301⟩ := getF X299 hx hZ hown (host := "") (Or.inl (own_w hw 31 rfl)) Via.refl e299 u290 (g := (mkF m 54 #[.val (.ref a), .val (.ref x), .val (.int (0 : Int32))] [(.ref a)])) rfl rfl (hb hby own_d18_54)
  refine own_st (st301) ?_
  clear st301 X299 e299
  show OFin p e below s _ _ _ (T301.setTop (mkF m 57 #[.val (.ref a), .val (.ref x), .val (.int (0 : Int32))] [(.ref ck)]))
  refine own_st (fun _ kS => XS.iloadN X301.here hx rfl (hb hby own_d18_57) rfl kS) ?_
  show OFin p e below s _ _ _ (T301.setTop (mkF m 58 #[.val (.ref a), .val (.ref x), .val (.int (0 : Int32))] [(.int (0 : Int32)), (.ref ck)]))
  obtain ⟨cl302, Ar302, S302, B302, H302, O302⟩ := id u292
  refine own_st (X301.aaload hx (j := (0 : Int32)) (v := .null) (by rw [e301]; exact Ar302.1) (State.isArrayOf_alike hZ.alike Ar302.2.1) rfl Ar302.2.2 (own_inb S302 (by decide) rfl (by decide)) ((own_hv H302 rfl (by decide)).trans (congrArg some (rfl))) (g := (mkF m 58 #[.val (.ref a), .val (.ref x), .val (.int (0 : Int32))] [(.int (0 : Int32)), (.ref ck)])) rfl rfl (hb hby own_d18_58)) ?_
  clear Ar302 S302 B302 H302 O302
  show OFin p e below s _ _ _ (T301.setTop (mkF m 59 #[.val (.ref a), .val (.ref x), .val (.int (0 : Int32))] [.null]))
  refine own_st (fun _ kS => XS.ifnonnullNo X301.here hx rfl (hb hby own_d18_59) rfl kS) ?_
  show OFin p e below s _ _ _ (T301.setTop (mkF m 62 #[.val (.ref a), .val (.ref x), .val (.int (0 : Int32))] []))
  refine own_st (fun _ kS => XS.aloadN X301.here hx rfl (hb hby own_d18_62) rfl rfl kS) ?_
  show OFin p e below s _ _ _ (T301.setTop (mkF m 63 #[.val (.ref a), .val (.ref x), .val (.int (0 : Int32))] [(.ref a)]))
  obtain ⟨T303, X303, e303, st303⟩ := getF X301 hx hZ hown (host := "") (Or.inl (own_w hw 31 rfl)) Via.refl e301 u290 (g := (mkF m 63 #[.val (.ref a), .val (.ref x), .val (.int (0 : Int32))] [(.ref a)])) rfl rfl (hb hby own_d18_63)
  refine own_st (st303) ?_
  clear st303 X301 e301
  show OFin p e below s _ _ _ (T303.setTop (mkF m 66 #[.val (.ref a), .val (.ref x), .val (.int (0 : Int32))] [(.ref ck)]))
  refine own_st (fun _ kS => XS.iloadN X303.here hx rfl (hb hby own_d18_66) rfl kS) ?_
  show OFin p e below s _ _ _ (T303.setTop (mkF m 67 #[.val (.ref a), .val (.ref x), .val (.int (0 : Int32))] [(.int (0 : Int32)), (.ref ck)]))
  refine own_st (fun _ kS => XS.sipush X303.here hx rfl (hb hby own_d18_67) kS) ?_
  show OFin p e below s _ _ _ (T303.setTop (mkF m 70 #[.val (.ref a), .val (.ref x), .val (.int (0 : Int32))] [(.int (1024 : Int32)), (.int (0 : Int32)), (.ref ck)]))
  obtain ⟨T304, h304, k304, X304, e304, E304, A304, Ex304, O304, st304⟩ := newRE X303 hx hZ hown (own_w hw 144 rfl) (own_w hw 145 rfl) e303 (g := (mkF m 70 #[.val (.ref a), .val (.ref x), .val (.int (0 : Int32))] [(.int (1024 : Int32)), (.int (0 : Int32)), (.ref ck)])) rfl (hb hby own_d18_70) rfl (by decide) (cap := 1024) (by decide) (by decide) (by decide) (by decide) rfl
  obtain ⟨c0, g304⟩ : ∃ z, z = h0.size := ⟨_, rfl⟩
  rw [← g304] at A304 st304 Ex304
  have ne_a_c0 : a ≠ c0 := Nat.ne_of_lt (Nat.lt_of_lt_of_le u288.lt (Nat.le_of_eq g304.symm))
  have ne_ck_c0 : ck ≠ c0 := Nat.ne_of_lt (Nat.lt_of_lt_of_le u292.lt (Nat.le_of_eq g304.symm))
  have ne_x_c0 : x ≠ c0 := Nat.ne_of_lt (Nat.lt_of_lt_of_le u293.lt (Nat.le_of_eq g304.symm))
  have g_c0 : n0 ≤ c0 := Nat.le_trans Z0 (Nat.le_of_eq g304.symm)
  have f305 := u288.ext E304
  clear u288
  have f306 := u289.ext E304
  clear u289
  have f307 := u290.ext E304
  clear u290
  have f308 := u291.ext E304
  clear u291
  have f309 := u292.ext E304
  clear u292
  have f310 := u293.ext E304
  clear u293
  have f311 := u294.ext E304
  clear u294
  have f312 := u295.ext E304
  clear u295
  have f313 := u296.ext E304
  clear u296
  have f314 : ORef Z h304 c0 (.object "java/lang/Object") "java/lang/Object" 1024 (fun _ => .null) := ORef.new A304 O304 rfl
  have sz304 : n0 ≤ h304.size := Nat.le_trans Z0 E304.1
  have kp304 := kp0.ext E304
  have kz_c0 := Nat.le_trans kp0.1 (Nat.le_of_eq g304.symm)
  clear kp0
  refine own_st (st304) ?_
  clear st304 X303 e303 E304 g304
  show OFin p e below s _ _ _ (T304.setTop (mkF m 73 #[.val (.ref a), .val (.ref x), .val (.int (0 : Int32))] [(.ref c0), (.int (0 : Int32)), (.ref ck)]))
  obtain ⟨cl315, Ar315, S315, B315, H315, O315⟩ := id f309
  obtain ⟨T315, h315, X315, e315, W315, st315⟩ := stR X304 hx hZ e304 Ar315 (j := (0 : Int32)) (own_inb S315 (by decide) rfl (by decide)) rfl (own_sto Ar315 O315 (Ins.self Ex304)) (g := (mkF m 73 #[.val (.ref a), .val (.ref x), .val (.int (0 : Int32))] [(.ref c0), (.int (0 : Int32)), (.ref ck)])) rfl rfl (hb hby own_d18_73)
  have V315 := own_wrj W315 rfl
  have f316 := (f309).set V315
  have f317 := f305.wr W315
  clear f305
  have f318 := f306.other W315 (Or.inl ne_a_ck)
  clear f306
  have f319 := f307.other W315 (Or.inl ne_a_ck)
  clear f307
  have f320 := f308.other W315 (Or.inl ne_a_ck)
  clear f308
  have f322 := f310.wr W315
  clear f310
  have f323 := f311.other W315 (Or.inl (Ne.symm ne_ck_x))
  clear f311
  have f324 := f312.other W315 (Or.inl (Ne.symm ne_ck_x))
  clear f312
  have f325 := f313.other W315 (Or.inl (Ne.symm ne_ck_x))
  clear f313
  have f326 := f314.other W315 (Ne.symm ne_ck_c0)
  clear f314
  have f327 := Ex304.wr W315
  clear Ex304
  have sz315 : n0 ≤ h315.size := by rw [W315.size]; exact sz304
  clear sz304
  have fr315 := Fr.snoc X315 N0 g_ck
  clear N0
  have kp315 := kp304.wr W315 (Or.inl (List.mem_of_getElem? (i := 1) rfl))
  clear kp304
  refine own_st (st315) ?_
  clear st315 X304 e304 W315 V315 Ar315 S315 B315 H315 O315 f309
  show OFin p e below s _ _ _ (T315.setTop (mkF m 74 #[.val (.ref a), .val (.ref x), .val (.int (0 : Int32))] []))
  refine own_st (fun _ kS => XS.aloadN X315.here hx rfl (hb hby own_d18_74) rfl rfl kS) ?_
  show OFin p e below s _ _ _ (T315.setTop (mkF m 75 #[.val (.ref a), .val (.ref x), .val (.int (0 : Int32))] [(.ref a)]))
  obtain ⟨T328, X328, e328, st328⟩ := getF X315 hx hZ hown (host := "") (Or.inl (own_w hw 31 rfl)) Via.refl e315 f319 (g := (mkF m 75 #[.val (.ref a), .val (.ref x), .val (.int (0 : Int32))] [(.ref a)])) rfl rfl (hb hby own_d18_75)
  refine own_st (st328) ?_
  clear st328 X315 e315
  show OFin p e below s _ _ _ (T328.setTop (mkF m 78 #[.val (.ref a), .val (.ref x), .val (.int (0 : Int32))] [(.ref ck)]))
  refine own_st (fun _ kS => XS.iloadN X328.here hx rfl (hb hby own_d18_78) rfl kS) ?_
  show OFin p e below s _ _ _ (T328.setTop (mkF m 79 #[.val (.ref a), .val (.ref x), .val (.int (0 : Int32))] [(.int (0 : Int32)), (.ref ck)]))
  obtain ⟨cl329, Ar329, S329, B329, H329, O329⟩ := id f316
  refine own_st (X328.aaload hx (j := (0 : Int32)) (v := (.ref c0)) (by rw [e328]; exact Ar329.1) (State.isArrayOf_alike hZ.alike Ar329.2.1) rfl Ar329.2.2 (own_inb S329 (by decide) rfl (by decide)) ((own_hv H329 rfl (by decide)).trans (congrArg some (rfl))) (g := (mkF m 79 #[.val (.ref a), .val (.ref x), .val (.int (0 : Int32))] [(.int (0 : Int32)), (.ref ck)])) rfl rfl (hb hby own_d18_79)) ?_
  clear Ar329 S329 B329 H329 O329
  show OFin p e below s _ _ _ (T328.setTop (mkF m 80 #[.val (.ref a), .val (.ref x), .val (.int (0 : Int32))] [(.ref c0)]))
  refine own_st (fun _ kS => XS.aloadN X328.here hx rfl (hb hby own_d18_80) rfl rfl kS) ?_
  show OFin p e below s _ _ _ (T328.setTop (mkF m 81 #[.val (.ref a), .val (.ref x), .val (.int (0 : Int32))] [(.ref a), (.ref c0)]))
  obtain ⟨T330, X330, e330, st330⟩ := getF X328 hx hZ hown (host := "") (Or.inl (own_w hw 141 rfl)) Via.refl e328 f318 (g := (mkF m 81 #[.val (.ref a), .val (.ref x), .val (.int (0 : Int32))] [(.ref a), (.ref c0)])) rfl rfl (hb hby own_d18_81)
  refine own_st (st330) ?_
  clear st330 X328 e328
  show OFin p e below s _ _ _ (T330.setTop (mkF m 84 #[.val (.ref a), .val (.ref x), .val (.int (0 : Int32))] [(.int (0 : Int32)), (.ref c0)]))
  refine own_st (fun _ kS => XS.sipush X330.here hx rfl (hb hby own_d18_84) kS) ?_
  show OFin p e below s _ _ _ (T330.setTop (mkF m 87 #[.val (.ref a), .val (.ref x), .val (.int (0 : Int32))] [(.int (1023 : Int32)), (.int (0 : Int32)), (.ref c0)]))
  refine own_st (fun _ kS => XS.iand X330.here hx rfl (hb hby own_d18_87) rfl kS) ?_
  show OFin p e below s _ _ _ (T330.setTop (mkF m 88 #[.val (.ref a), .val (.ref x), .val (.int (0 : Int32))] [(.int ((0 : Int32) &&& (1023 : Int32))), (.ref c0)]))
  rw [show (((0 : Int32) &&& (1023 : Int32))) = (0 : Int32) from by decide]
  show OFin p e below s _ _ _ (T330.setTop (mkF m 88 #[.val (.ref a), .val (.ref x), .val (.int (0 : Int32))] [(.int (0 : Int32)), (.ref c0)]))
  refine own_st (fun _ kS => XS.aloadN X330.here hx rfl (hb hby own_d18_88) rfl rfl kS) ?_
  show OFin p e below s _ _ _ (T330.setTop (mkF m 89 #[.val (.ref a), .val (.ref x), .val (.int (0 : Int32))] [(.ref x), (.int (0 : Int32)), (.ref c0)]))
  obtain ⟨cl331, Ar331, S331, B331, H331, O331⟩ := id f326
  obtain ⟨T331, h331, X331, e331, W331, st331⟩ := stR X330 hx hZ e330 Ar331 (j := (0 : Int32)) (own_inb S331 (by decide) rfl (by decide)) rfl (own_sto Ar331 O331 (Ins.of_exa f322 (own_w hw 147 rfl))) (g := (mkF m 89 #[.val (.ref a), .val (.ref x), .val (.int (0 : Int32))] [(.ref x), (.int (0 : Int32)), (.ref c0)])) rfl rfl (hb hby own_d18_89)
  have V331 := own_wrj W331 rfl
  have f332 := (f326).set V331
  have f333 := f317.wr W331
  clear f317
  have f334 := f318.other W331 (Or.inl ne_a_c0)
  clear f318
  have f335 := f319.other W331 (Or.inl ne_a_c0)
  clear f319
  have f336 := f320.other W331 (Or.inl ne_a_c0)
  clear f320
  have f337 := f316.other W331 ne_ck_c0
  clear f316
  have f338 := f322.wr W331
  clear f322
  have f339 := f323.other W331 (Or.inl ne_x_c0)
  clear f323
  have f340 := f324.other W331 (Or.inl ne_x_c0)
  clear f324
  have f341 := f325.other W331 (Or.inl ne_x_c0)
  clear f325
  have f343 := f327.wr W331
  clear f327
  have sz331 : n0 ≤ h331.size := by rw [W331.size]; exact sz315
  clear sz315
  have fr331 := Fr.snoc X331 fr315 g_c0
  clear fr315
  have kp331 := kp315.wr W331 (Or.inr kz_c0)
  clear kp315
  refine own_st (st331) ?_
  clear st331 X330 e330 W331 V331 Ar331 S331 B331 H331 O331 f326
  show OFin p e below s _ _ _ (T331.setTop (mkF m 90 #[.val (.ref a), .val (.ref x), .val (.int (0 : Int32))] []))
  refine own_st (fun _ kS => XS.aloadN X331.here hx rfl (hb hby own_d18_90) rfl rfl kS) ?_
  show OFin p e below s _ _ _ (T331.setTop (mkF m 91 #[.val (.ref a), .val (.ref x), .val (.int (0 : Int32))] [(.ref a)]))
  refine own_st (fun _ kS => XS.dup X331.here hx rfl (hb hby own_d18_91) rfl rfl kS) ?_
  show OFin p e below s _ _ _ (T331.setTop (mkF m 92 #[.val (.ref a), .val (.ref x), .val (.int (0 : Int32))] [(.ref a), (.ref a)]))
  obtain ⟨T344, X344, e344, st344⟩ := getF X331 hx hZ hown (host := "") (Or.inl (own_w hw 141 rfl)) Via.refl e331 f334 (g := (mkF m 92 #[.val (.ref a), .val (.ref x), .val (.int (0 : Int32))] [(.ref a), (.ref a)])) rfl rfl (hb hby own_d18_92)
  refine own_st (st344) ?_
  clear st344 X331 e331
  show OFin p e below s _ _ _ (T344.setTop (mkF m 95 #[.val (.ref a), .val (.ref x), .val (.int (0 : Int32))] [(.int (0 : Int32)), (.ref a)]))
  refine own_st (fun _ kS => XS.iconst X344.here hx rfl (hb hby own_d18_95) kS) ?_
  show OFin p e below s _ _ _ (T344.setTop (mkF m 96 #[.val (.ref a), .val (.ref x), .val (.int (0 : Int32))] [(.int (1 : Int32)), (.int (0 : Int32)), (.ref a)]))
  refine own_st (fun _ kS => XS.iadd X344.here hx rfl (hb hby own_d18_96) rfl kS) ?_
  show OFin p e below s _ _ _ (T344.setTop (mkF m 97 #[.val (.ref a), .val (.ref x), .val (.int (0 : Int32))] [(.int ((0 : Int32) + (1 : Int32))), (.ref a)]))
  rw [show (((0 : Int32) + (1 : Int32))) = (1 : Int32) from by decide]
  show OFin p e below s _ _ _ (T344.setTop (mkF m 97 #[.val (.ref a), .val (.ref x), .val (.int (0 : Int32))] [(.int (1 : Int32)), (.ref a)]))
  obtain ⟨T345, h345, X345, e345, W345, st345⟩ := putF X344 hx hZ hown (host := "") (Or.inl (own_w hw 141 rfl)) Via.refl e344 f334 f333 (Or.inl (own_w hw 142 rfl)) (own_w hw 10 rfl) (ty := .int) (by decide) rfl rfl (g := (mkF m 97 #[.val (.ref a), .val (.ref x), .val (.int (0 : Int32))] [(.int (1 : Int32)), (.ref a)])) rfl rfl (hb hby own_d18_97)
  have f346 := f334.same W345
  have f347 := f333.wr W345
  clear f333
  have f349 := f335.other W345 (Or.inr (slot_ne (Or.inl (own_w hw 32 rfl)) (Or.inl (own_w hw 142 rfl)) (by decide) (t := (.array (.array (.object "java/lang/Object")))) (t' := .int) (by decide) (by decide)))
  clear f335
  have f350 := f336.other W345 (Or.inr (slot_ne (Or.inl (own_w hw 28 rfl)) (Or.inl (own_w hw 142 rfl)) (by decide) (t := .int) (t' := .int) (by decide) (by decide)))
  clear f336
  have f351 := f337.other W345 (Ne.symm ne_a_ck)
  clear f337
  have f352 := f338.wr W345
  clear f338
  have f353 := f339.other W345 (Or.inl (Ne.symm ne_a_x))
  clear f339
  have f354 := f340.other W345 (Or.inl (Ne.symm ne_a_x))
  clear f340
  have f355 := f341.other W345 (Or.inl (Ne.symm ne_a_x))
  clear f341
  have f356 := f332.other W345 (Ne.symm ne_a_c0)
  clear f332
  have f357 := f343.wr W345
  clear f343
  have sz345 : n0 ≤ h345.size := by rw [W345.size]; exact sz331
  clear sz331
  have fr345 := Fr.snoc X345 fr331 g_a
  clear fr331
  have kp345 := kp331.wr W345 (Or.inl (List.mem_of_getElem? (i := 0) rfl))
  clear kp331
  refine own_st (st345) ?_
  clear st345 X344 e344 W345 f334
  show OFin p e below s _ _ _ (T345.setTop (mkF m 100 #[.val (.ref a), .val (.ref x), .val (.int (0 : Int32))] []))
  refine own_st (fun _ kS => XS.aloadN X345.here hx rfl (hb hby own_d18_100) rfl rfl kS) ?_
  show OFin p e below s _ _ _ (T345.setTop (mkF m 101 #[.val (.ref a), .val (.ref x), .val (.int (0 : Int32))] [(.ref a)]))
  refine own_st (fun _ kS => XS.dup X345.here hx rfl (hb hby own_d18_101) rfl rfl kS) ?_
  show OFin p e below s _ _ _ (T345.setTop (mkF m 102 #[.val (.ref a), .val (.ref x), .val (.int (0 : Int32))] [(.ref a), (.ref a)]))
  obtain ⟨T358, X358, e358, st358⟩ := getF X345 hx hZ hown (host := "") (Or.inl (own_w hw 148 rfl)) (Via.of (own_w hw 149 rfl)) e345 f350 (g := (mkF m 102 #[.val (.ref a), .val (.ref x), .val (.int (0 : Int32))] [(.ref a), (.ref a)])) rfl rfl (hb hby own_d18_102)
  refine own_st (st358) ?_
  clear st358 X345 e345
  show OFin p e below s _ _ _ (T358.setTop (mkF m 105 #[.val (.ref a), .val (.ref x), .val (.int (0 : Int32))] [(.int (0 : Int32)), (.ref a)]))
  refine own_st (fun _ kS => XS.iconst X358.here hx rfl (hb hby own_d18_105) kS) ?_
  show OFin p e below s _ _ _ (T358.setTop (mkF m 106 #[.val (.ref a), .val (.ref x), .val (.int (0 : Int32))] [(.int (1 : Int32)), (.int (0 : Int32)), (.ref a)]))
  refine own_st (fun _ kS => XS.iadd X358.here hx rfl (hb hby own_d18_106) rfl kS) ?_
  show OFin p e below s _ _ _ (T358.setTop (mkF m 107 #[.val (.ref a), .val (.ref x), .val (.int (0 : Int32))] [(.int ((0 : Int32) + (1 : Int32))), (.ref a)]))
  rw [show (((0 : Int32) + (1 : Int32))) = (1 : Int32) from by decide]
  show OFin p e below s _ _ _ (T358.setTop (mkF m 107 #[.val (.ref a), .val (.ref x), .val (.int (0 : Int32))] [(.int (1 : Int32)), (.ref a)]))
  obtain ⟨T359, h359, X359, e359, W359, st359⟩ := putF X358 hx hZ hown (host := "") (Or.inl (own_w hw 148 rfl)) (Via.of (own_w hw 149 rfl)) e358 f350 f347 (Or.inl (own_w hw 28 rfl)) (own_w hw 10 rfl) (ty := .int) (by decide) rfl rfl (g := (mkF m 107 #[.val (.ref a), .val (.ref x), .val (.int (0 : Int32))] [(.int (1 : Int32)), (.ref a)])) rfl rfl (hb hby own_d18_107)
  have f360 := f350.same W359
  have f361 := f347.wr W359
  clear f347
  have f362 := f346.other W359 (Or.inr (slot_ne (Or.inl (own_w hw 142 rfl)) (Or.inl (own_w hw 28 rfl)) (by decide) (t := .int) (t' := .int) (by decide) (by decide)))
  clear f346
  have f363 := f349.other W359 (Or.inr (slot_ne (Or.inl (own_w hw 32 rfl)) (Or.inl (own_w hw 28 rfl)) (by decide) (t := (.array (.array (.object "java/lang/Object")))) (t' := .int) (by decide) (by decide)))
  clear f349
  have f365 := f351.other W359 (Ne.symm ne_a_ck)
  clear f351
  have f366 := f352.wr W359
  clear f352
  have f367 := f353.other W359 (Or.inl (Ne.symm ne_a_x))
  clear f353
  have f368 := f354.other W359 (Or.inl (Ne.symm ne_a_x))
  clear f354
  have f369 := f355.other W359 (Or.inl (Ne.symm ne_a_x))
  clear f355
  have f370 := f356.other W359 (Ne.symm ne_a_c0)
  clear f356
  have f371 := f357.wr W359
  clear f357
  have sz359 : n0 ≤ h359.size := by rw [W359.size]; exact sz345
  clear sz345
  have fr359 := Fr.snoc X359 fr345 g_a
  clear fr345
  have kp359 := kp345.wr W359 (Or.inl (List.mem_of_getElem? (i := 0) rfl))
  clear kp345
  refine own_st (st359) ?_
  clear st359 X358 e358 W359 f350
  show OFin p e below s _ _ _ (T359.setTop (mkF m 110 #[.val (.ref a), .val (.ref x), .val (.int (0 : Int32))] []))
  refine own_st (fun _ kS => XS.iconst X359.here hx rfl (hb hby own_d18_110) kS) ?_
  show OFin p e below s _ _ _ (T359.setTop (mkF m 111 #[.val (.ref a), .val (.ref x), .val (.int (0 : Int32))] [(.int (1 : Int32))]))
  exact own_ret X359 hx (t := .boolean) hret hlk rfl (Or.inl ⟨rfl, by simp, _, rfl⟩) (hb hby own_d18_111) (by decide) (by decide) (by show _ ∧ _ ∧ Keep h0 T359.heap [a, ck] ∧ _; rw [e359]; exact ⟨rfl, fr359, kp359, c0, kz_c0, ⟨f361, f362, f363, f360, f365, f370⟩⟩)
set_option maxRecDepth 65536 in
set_option maxHeartbeats 40000000 in
theorem rmCA1 (l : Launch) (Z : State) (a0 : Array Value) (hw : ∀ d ∈ tables_1, d.before a0 Z = true) (a : Addr) (x : Addr) (h0 : Heap) (n0 : Nat) (Z0 : n0 ≤ h0.size) (ck c0 : Addr) (f g : Nat → Value) (ft : Int64) (pv nx : Int32) (B_OCL10 : OCL1 Z h0 a ck c0 (1 : Int32) f g) (B_OTO1 : OTO Z h0 x ft pv nx) (g_a : n0 ≤ a) (g_c0 : n0 ≤ c0) (ne_a_ck : a ≠ ck) (ne_a_c0 : a ≠ c0) (ne_a_x : a ≠ x) (ne_ck_c0 : ck ≠ c0) (ne_ck_x : ck ≠ x) (ne_c0_x : c0 ≠ x) (hf : f 0 = .ref c0) :
    OMet l Z (⟨"com/example/epicycle/epicycle/ChunkedList", "add", "(Ljava/lang/Object;)Z"⟩ : MethodName) prog_2_method_2_code 3 (some .boolean) (⟨0, 0, 0, 0⟩ : Room) #[(.ref a), (.ref x)] h0 (fun v h L => v = some (.int (1 : Int32)) ∧ Fr n0 L ∧ Keep h0 h [a, c0] ∧ OCL1 Z h a ck c0 2 f (fun i => if i = 1 then .ref x else g i)) := by
  refine own_enter own_pn18 ?_
  intro p e s m below meth c T0 X0 hC e0
  obtain ⟨hx, hZ, hby, hml, hown, hret, hlk, hnm⟩ := hC
  have hown : s.vm.findClass "com/example/epicycle/epicycle/ChunkedList" = some m.cls := hown
  refine own_at (own_ef18_RR m a x) ?_
  show OFin p e below s _ _ _ (T0.setTop (mkF m 0 #[.val (.ref a), .val (.ref x), .unset] []))
  have N0 := Fr.nil n0
  have kp0 := Keep.refl h0 [a, c0]
  obtain ⟨u372, u373, u374, u375, u376, u377⟩ := B_OCL10
  obtain ⟨u378, u379, u380, u381⟩ := B_OTO1
  refine own_st (fun _ kS => XS.aloadN X0.here hx rfl (hb hby own_d18_0) rfl rfl kS) ?_
  show OFin p e below s _ _ _ (T0.setTop (mkF m 1 #[.val (.ref a), .val (.ref x), .unset] [(.ref a)]))
  obtain ⟨T382, X382, e382, st382⟩ := getF X0 hx hZ hown (host := "") (Or.inl (own_w hw 141 rfl)) Via.refl e0 u373 (g := (mkF m 1 #[.val (.ref a), .val (.ref x), .unset] [(.ref a)])) rfl rfl (hb hby own_d18_1)
  refine own_st (st382) ?_
  clear st382 X0 e0
  show OFin p e below s _ _ _ (T382.setTop (mkF m 4 #[.val (.ref a), .val (.ref x), .unset] [(.int (1 : Int32))]))
  refine own_st (X382.ldcInt hx hown (mvT hZ (own_w hw 143 rfl)) (g := (mkF m 4 #[.val (.ref a), .val (.ref x), .unset] [(.int (1 : Int32))])) rfl (hb hby own_d18_4)) ?_
  show OFin p e below s _ _ _ (T382.setTop (mkF m 6 #[.val (.ref a), .val (.ref x), .unset] [(.int (2147483647 : Int32)), (.int (1 : Int32))]))
  refine own_st (fun _ kS => XS.icmpYes X382.here hx rfl (pc0 := 6) (pc' := 19) rfl (hb hby own_d18_6) rfl (feq (by decide)).2 (by decide) (by decide) kS) ?_
  show OFin p e below s _ _ _ (T382.setTop (mkF m 19 #[.val (.ref a), .val (.ref x), .unset] []))
  refine own_st (fun _ kS => XS.aloadN X382.here hx rfl (hb hby own_d18_19) rfl rfl kS) ?_
  show OFin p e below s _ _ _ (T382.setTop (mkF m 20 #[.val (.ref a), .val (.ref x), .unset] [(.ref a)]))
  obtain ⟨T383, X383, e383, st383⟩ := getF X382 hx hZ hown (host := "") (Or.inl (own_w hw 141 rfl)) Via.refl e382 u373 (g := (mkF m 20 #[.val (.ref a), .val (.ref x), .unset] [(.ref a)])) rfl rfl (hb hby own_d18_20)
  refine own_st (st383) ?_
  clear st383 X382 e382
  show OFin p e below s _ _ _ (T383.setTop (mkF m 23 #[.val (.ref a), .val (.ref x), .unset] [(.int (1 : Int32))]))
  refine own_st (fun _ kS => XS.bipush X383.here hx rfl (hb hby own_d18_23) kS) ?_
  show OFin p e below s _ _ _ (T383.setTop (mkF m 25 #[.val (.ref a), .val (.ref x), .unset] [(.int (10 : Int32)), (.int (1 : Int32))]))
  refine own_st (fun _ kS => XS.iushr X383.here hx rfl (hb hby own_d18_25) rfl kS) ?_
  show OFin p e below s _ _ _ (T383.setTop (mkF m 26 #[.val (.ref a), .val (.ref x), .unset] [(.int (((1 : Int32).toUInt32 >>> ((10 : Int32) &&& 31).toUInt32).toInt32))]))
  rw [show ((((1 : Int32).toUInt32 >>> ((10 : Int32) &&& 31).toUInt32).toInt32)) = (0 : Int32) from by decide]
  show OFin p e below s _ _ _ (T383.setTop (mkF m 26 #[.val (.ref a), .val (.ref x), .unset] [(.int (0 : Int32))]))
  refine own_st (fun _ kS => XS.istoreN X383.here hx rfl (hb hby own_d18_26) rfl (l' := #[.val (.ref a), .val (.ref x), .val (.int (0 : Int32))]) rfl kS) ?_
  show OFin p e below s _ _ _ (T383.setTop (mkF m 27 #[.val (.ref a), .val (.ref x), .val (.int (0 : Int32))] []))
  refine own_st (fun _ kS => XS.iloadN X383.here hx rfl (hb hby own_d18_27) rfl kS) ?_
  show OFin p e below s _ _ _ (T383.setTop (mkF m 28 #[.val (.ref a), .val (.ref x), .val (.int (0 : Int32))] [(.int (0 : Int32))]))
  refine own_st (fun _ kS => XS.aloadN X383.here hx rfl (hb hby own_d18_28) rfl rfl kS) ?_
  show OFin p e below s _ _ _ (T383.setTop (mkF m 29 #[.val (.ref a), .val (.ref x), .val (.int (0 : Int32))] [(.ref a), (.int (0 : Int32))]))
  obtain ⟨T384, X384, e384, st384⟩ := getF X383 hx hZ hown (host := "") (Or.inl (own_w hw 31 rfl)) Via.refl e383 u374 (g := (mkF m 29 #[.val (.ref a), .val (.ref x), .val (.int (0 : Int32))] [(.ref a), (.int (0 : Int32))])) rfl rfl (hb hby own_d18_29)
  refine own_st (st384) ?_
  clear st384 X383 e383
  show OFin p e below s _ _ _ (T384.setTop (mkF m 32 #[.val (.ref a), .val (.ref x), .val (.int (0 : Int32))] [(.ref ck), (.int (0 : Int32))]))
  obtain ⟨cl385, Ar385, S385, B385, H385⟩ := id u376
  have hl385 := own_len S385 (rfl : _ = (1 : Int32))
  refine own_st (X384.arraylength hx (by rw [e384]; exact Ar385.1) (State.isArrayOf_alike hZ.alike Ar385.2.1) (g := (mkF m 32 #[.val (.ref a), .val (.ref x), .val (.int (0 : Int32))] [(.ref ck), (.int (0 : Int32))])) rfl rfl (hb hby own_d18_32)) ?_
  rw [hl385]
  clear hl385 Ar385 S385 B385
  show OFin p e below s _ _ _ (T384.setTop (mkF m 33 #[.val (.ref a), .val (.ref x), .val (.int (0 : Int32))] [(.int (1 : Int32)), (.int (0 : Int32))]))
  refine own_st (fun _ kS => XS.icmpYes X384.here hx rfl (pc0 := 33) (pc' := 53) rfl (hb hby own_d18_33) rfl (feq (by decide)).2 (by decide) (by decide) kS) ?_
  show OFin p e below s _ _ _ (T384.setTop (mkF m 53 #[.val (.ref a), .val (.ref x), .val (.int (0 : Int32))] []))
  refine own_st (fun _ kS => XS.aloadN X384.here hx rfl (hb hby own_d18_53) rfl rfl kS) ?_
  show OFin p e below s _ _ _ (T384.setTop (mkF m 54 #[.val (.ref a), .val (.ref x), .val (.int (0 : Int32))] [(.ref a)]))
  obtain ⟨T386, X386, e386, st386⟩ := getF X384 hx hZ hown (host := "") (Or.inl (own_w hw 31 rfl)) Via.refl e384 u374 (g := (mkF m 54 #[.val (.ref a), .val (.ref x), .val (.int (0 : Int32))] [(.ref a)])) rfl rfl (hb hby own_d18_54)
  refine own_st (st386) ?_
  clear st386 X384 e384
  show OFin p e below s _ _ _ (T386.setTop (mkF m 57 #[.val (.ref a), .val (.ref x), .val (.int (0 : Int32))] [(.ref ck)]))
  refine own_st (fun _ kS => XS.iloadN X386.here hx rfl (hb hby own_d18_57) rfl kS) ?_
  show OFin p e below s _ _ _ (T386.setTop (mkF m 58 #[.val (.ref a), .val (.ref x), .val (.int (0 : Int32))] [(.int (0 : Int32)), (.ref ck)]))
  obtain ⟨cl387, Ar387, S387, B387, H387, O387⟩ := id u376
  refine own_st (X386.aaload hx (j := (0 : Int32)) (v := (.ref c0)) (by rw [e386]; exact Ar387.1) (State.isArrayOf_alike hZ.alike Ar387.2.1) rfl Ar387.2.2 (own_inb S387 (by decide) rfl (by decide)) ((own_hv H387 rfl (by decide)).trans (congrArg some (hf))) (g := (mkF m 58 #[.val (.ref a), .val (.ref x), .val (.int (0 : Int32))] [(.int (0 : Int32)), (.ref ck)])) rfl rfl (hb hby own_d18_58)) ?_
  clear Ar387 S387 B387 H387 O387
  show OFin p e below s _ _ _ (T386.setTop (mkF m 59 #[.val (.ref a), .val (.ref x), .val (.int (0 : Int32))] [(.ref c0)]))
  refine own_st (fun _ kS => XS.ifnonnullYes X386.here hx rfl (pc0 := 59) (pc' := 74) rfl (hb hby own_d18_59) rfl (by decide) (by decide) kS) ?_
  show OFin p e below s _ _ _ (T386.setTop (mkF m 74 #[.val (.ref a), .val (.ref x), .val (.int (0 : Int32))] []))
  refine own_st (fun _ kS => XS.aloadN X386.here hx rfl (hb hby own_d18_74) rfl rfl kS) ?_
  show OFin p e below s _ _ _ (T386.setTop (mkF m 75 #[.val (.ref a), .val (.ref x), .val (.int (0 : Int32))] [(.ref a)]))
  obtain ⟨T388, X388, e388, st388⟩ := getF X386 hx hZ hown (host := "") (Or.inl (own_w hw 31 rfl)) Via.refl e386 u374 (g := (mkF m 75 #[.val (.ref a), .val (.ref x), .val (.int (0 : Int32))] [(.ref a)])) rfl rfl (hb hby own_d18_75)
  refine own_st (st388) ?_
  clear st388 X386 e386
  show OFin p e below s _ _ _ (T388.setTop (mkF m 78 #[.val (.ref a), .val (.ref x), .val (.int (0 : Int32))] [(.ref ck)]))
  refine own_st (fun _ kS => XS.iloadN X388.here hx rfl (hb hby own_d18_78) rfl kS) ?_
  show OFin p e below s _ _ _ (T388.setTop (mkF m 79 #[.val (.ref a), .val (.ref x), .val (.int (0 : Int32))] [(.int (0 : Int32)), (.ref ck)]))
  obtain ⟨cl389, Ar389, S389, B389, H389, O389⟩ := id u376
  refine own_st (X388.aaload hx (j := (0 : Int32)) (v := (.ref c0)) (by rw [e388]; exact Ar389.1) (State.isArrayOf_alike hZ.alike Ar389.2.1) rfl Ar389.2.2 (own_inb S389 (by decide) rfl (by decide)) ((own_hv H389 rfl (by decide)).trans (congrArg some (hf))) (g := (mkF m 79 #[.val (.ref a), .val (.ref x), .val (.int (0 : Int32))] [(.int (0 : Int32)), (.ref ck)])) rfl rfl (hb hby own_d18_79)) ?_
  clear Ar389 S389 B389 H389 O389
  show OFin p e below s _ _ _ (T388.setTop (mkF m 80 #[.val (.ref a), .val (.ref x), .val (.int (0 : Int32))] [(.ref c0)]))
  refine own_st (fun _ kS => XS.aloadN X388.here hx rfl (hb hby own_d18_80) rfl rfl kS) ?_
  show OFin p e below s _ _ _ (T388.setTop (mkF m 81 #[.val (.ref a), .val (.ref x), .val (.int (0 : Int32))] [(.ref a), (.ref c0)]))
  obtain ⟨T390, X390, e390, st390⟩ := getF X388 hx hZ hown (host := "") (Or.inl (own_w hw 141 rfl)) Via.refl e388 u373 (g := (mkF m 81 #[.val (.ref a), .val (.ref x), .val (.int (0 : Int32))] [(.ref a), (.ref c0)])) rfl rfl (hb hby own_d18_81)
  refine own_st (st390) ?_
  clear st390 X388 e388
  show OFin p e below s _ _ _ (T390.setTop (mkF m 84 #[.val (.ref a), .val (.ref x), .val (.int (0 : Int32))] [(.int (1 : Int32)), (.ref c0)]))
  refine own_st (fun _ kS => XS.sipush X390.here hx rfl (hb hby own_d18_84) kS) ?_
  show OFin p e below s _ _ _ (T390.setTop (mkF m 87 #[.val (.ref a), .val (.ref x), .val (.int (0 : Int32))] [(.int (1023 : Int32)), (.int (1 : Int32)), (.ref c0)]))
  refine own_st (fun _ kS => XS.iand X390.here hx rfl (hb hby own_d18_87) rfl kS) ?_
  show OFin p e below s _ _ _ (T390.setTop (mkF m 88 #[.val (.ref a), .val (.ref x), .val (.int (0 : Int32))] [(.int ((1 : Int32) &&& (1023 : Int32))), (.ref c0)]))
  rw [show (((1 : Int32) &&& (1023 : Int32))) = (1 : Int32) from by decide]
  show OFin p e below s _ _ _ (T390.setTop (mkF m 88 #[.val (.ref a), .val (.ref x), .val (.int (0 : Int32))] [(.int (1 : Int32)), (.ref c0)]))
  refine own_st (fun _ kS => XS.aloadN X390.here hx rfl (hb hby own_d18_88) rfl rfl kS) ?_
  show OFin p e below s _ _ _ (T390.setTop (mkF m 89 #[.val (.ref a), .val (.ref x), .val (.int (0 : Int32))] [(.ref x), (.int (1 : Int32)), (.ref c0)]))
  obtain ⟨cl391, Ar391, S391, B391, H391, O391⟩ := id u377
  obtain ⟨T391, h391, X391, e391, W391, st391⟩ := stR X390 hx hZ e390 Ar391 (j := (1 : Int32)) (own_inb S391 (by decide) rfl (by decide)) rfl (own_sto Ar391 O391 (Ins.of_exa u378 (own_w hw 147 rfl))) (g := (mkF m 89 #[.val (.ref a), .val (.ref x), .val (.int (0 : Int32))] [(.ref x), (.int (1 : Int32)), (.ref c0)])) rfl rfl (hb hby own_d18_89)
  have V391 := own_wrj W391 rfl
  have f392 := (u377).set V391
  have f393 := u372.wr W391
  clear u372
  have f394 := u373.other W391 (Or.inl ne_a_c0)
  clear u373
  have f395 := u374.other W391 (Or.inl ne_a_c0)
  clear u374
  have f396 := u375.other W391 (Or.inl ne_a_c0)
  clear u375
  have f397 := u376.other W391 ne_ck_c0
  clear u376
  have f399 := u378.wr W391
  clear u378
  have f400 := u379.other W391 (Or.inl (Ne.symm ne_c0_x))
  clear u379
  have f401 := u380.other W391 (Or.inl (Ne.symm ne_c0_x))
  clear u380
  have f402 := u381.other W391 (Or.inl (Ne.symm ne_c0_x))
  clear u381
  have sz391 : n0 ≤ h391.size := by rw [W391.size]; exact Z0
  have fr391 := Fr.snoc X391 N0 g_c0
  clear N0
  have kp391 := kp0.wr W391 (Or.inl (List.mem_of_getElem? (i := 1) rfl))
  clear kp0
  refine own_st (st391) ?_
  clear st391 X390 e390 W391 V391 Ar391 S391 B391 H391 O391 u377
  show OFin p e below s _ _ _ (T391.setTop (mkF m 90 #[.val (.ref a), .val (.ref x), .val (.int (0 : Int32))] []))
  refine own_st (fun _ kS => XS.aloadN X391.here hx rfl (hb hby own_d18_90) rfl rfl kS) ?_
  show OFin p e below s _ _ _ (T391.setTop (mkF m 91 #[.val (.ref a), .val (.ref x), .val (.int (0 : Int32))] [(.ref a)]))
  refine own_st (fun _ kS => XS.dup X391.here hx rfl (hb hby own_d18_91) rfl rfl kS) ?_
  show OFin p e below s _ _ _ (T391.setTop (mkF m 92 #[.val (.ref a), .val (.ref x), .val (.int (0 : Int32))] [(.ref a), (.ref a)]))
  obtain ⟨T403, X403, e403, st403⟩ := getF X391 hx hZ hown (host := "") (Or.inl (own_w hw 141 rfl)) Via.refl e391 f394 (g := (mkF m 92 #[.val (.ref a), .val (.ref x), .val (.int (0 : Int32))] [(.ref a), (.ref a)])) rfl rfl (hb hby own_d18_92)
  refine own_st (st403) ?_
  clear st403 X391 e391
  show OFin p e below s _ _ _ (T403.setTop (mkF m 95 #[.val (.ref a), .val (.ref x), .val (.int (0 : Int32))] [(.int (1 : Int32)), (.ref a)]))
  refine own_st (fun _ kS => XS.iconst X403.here hx rfl (hb hby own_d18_95) kS) ?_
  show OFin p e below s _ _ _ (T403.setTop (mkF m 96 #[.val (.ref a), .val (.ref x), .val (.int (0 : Int32))] [(.int (1 : Int32)), (.int (1 : Int32)), (.ref a)]))
  refine own_st (fun _ kS => XS.iadd X403.here hx rfl (hb hby own_d18_96) rfl kS) ?_
  show OFin p e below s _ _ _ (T403.setTop (mkF m 97 #[.val (.ref a), .val (.ref x), .val (.int (0 : Int32))] [(.int ((1 : Int32) + (1 : Int32))), (.ref a)]))
  rw [show (((1 : Int32) + (1 : Int32))) = (2 : Int32) from by decide]
  show OFin p e below s _ _ _ (T403.setTop (mkF m 97 #[.val (.ref a), .val (.ref x), .val (.int (0 : Int32))] [(.int (2 : Int32)), (.ref a)]))
  obtain ⟨T404, h404, X404, e404, W404, st404⟩ := putF X403 hx hZ hown (host := "") (Or.inl (own_w hw 141 rfl)) Via.refl e403 f394 f393 (Or.inl (own_w hw 142 rfl)) (own_w hw 10 rfl) (ty := .int) (by decide) rfl rfl (g := (mkF m 97 #[.val (.ref a), .val (.ref x), .val (.int (0 : Int32))] [(.int (2 : Int32)), (.ref a)])) rfl rfl (hb hby own_d18_97)
  have f405 := f394.same W404
  have f406 := f393.wr W404
  clear f393
  have f408 := f395.other W404 (Or.inr (slot_ne (Or.inl (own_w hw 32 rfl)) (Or.inl (own_w hw 142 rfl)) (by decide) (t := (.array (.array (.object "java/lang/Object")))) (t' := .int) (by decide) (by decide)))
  clear f395
  have f409 := f396.other W404 (Or.inr (slot_ne (Or.inl (own_w hw 28 rfl)) (Or.inl (own_w hw 142 rfl)) (by decide) (t := .int) (t' := .int) (by decide) (by decide)))
  clear f396
  have f410 := f397.other W404 (Ne.symm ne_a_ck)
  clear f397
  have f411 := f392.other W404 (Ne.symm ne_a_c0)
  clear f392
  have f412 := f399.wr W404
  clear f399
  have f413 := f400.other W404 (Or.inl (Ne.symm ne_a_x))
  clear f400
  have f414 := f401.other W404 (Or.inl (Ne.symm ne_a_x))
  clear f401
  have f415 := f402.other W404 (Or.inl (Ne.symm ne_a_x))
  clear f402
  have sz404 : n0 ≤ h404.size := by rw [W404.size]; exact sz391
  clear sz391
  have fr404 := Fr.snoc X404 fr391 g_a
  clear fr391
  have kp404 := kp391.wr W404 (Or.inl (List.mem_of_getElem? (i := 0) rfl))
  clear kp391
  refine own_st (st404) ?_
  clear st404 X403 e403 W404 f394
  show OFin p e below s _ _ _ (T404.setTop (mkF m 100 #[.val (.ref a), .val (.ref x), .val (.int (0 : Int32))] []))
  refine own_st (fun _ kS => XS.aloadN X404.here hx rfl (hb hby own_d18_100) rfl rfl kS) ?_
  show OFin p e below s _ _ _ (T404.setTop (mkF m 101 #[.val (.ref a), .val (.ref x), .val (.int (0 : Int32))] [(.ref a)]))
  refine own_st (fun _ kS => XS.dup X404.here hx rfl (hb hby own_d18_101) rfl rfl kS) ?_
  show OFin p e below s _ _ _ (T404.setTop (mkF m 102 #[.val (.ref a), .val (.ref x), .val (.int (0 : Int32))] [(.ref a), (.ref a)]))
  obtain ⟨T416, X416, e416, st416⟩ := getF X404 hx hZ hown (host := "") (Or.inl (own_w hw 148 rfl)) (Via.of (own_w hw 149 rfl)) e404 f409 (g := (mkF m 102 #[.val (.ref a), .val (.ref x), .val (.int (0 : Int32))] [(.ref a), (.ref a)])) rfl rfl (hb hby own_d18_102)
  refine own_st (st416) ?_
  clear st416 X404 e404
  show OFin p e below s _ _ _ (T416.setTop (mkF m 105 #[.val (.ref a), .val (.ref x), .val (.int (0 : Int32))] [(.int (1 : Int32)), (.ref a)]))
  refine own_st (fun _ kS => XS.iconst X416.here hx rfl (hb hby own_d18_105) kS) ?_
  show OFin p e below s _ _ _ (T416.setTop (mkF m 106 #[.val (.ref a), .val (.ref x), .val (.int (0 : Int32))] [(.int (1 : Int32)), (.int (1 : Int32)), (.ref a)]))
  refine own_st (fun _ kS => XS.iadd X416.here hx rfl (hb hby own_d18_106) rfl kS) ?_
  show OFin p e below s _ _ _ (T416.setTop (mkF m 107 #[.val (.ref a), .val (.ref x), .val (.int (0 : Int32))] [(.int ((1 : Int32) + (1 : Int32))), (.ref a)]))
  rw [show (((1 : Int32) + (1 : Int32))) = (2 : Int32) from by decide]
  show OFin p e below s _ _ _ (T416.setTop (mkF m 107 #[.val (.ref a), .val (.ref x), .val (.int (0 : Int32))] [(.int (2 : Int32)), (.ref a)]))
  obtain ⟨T417, h417, X417, e417, W417, st417⟩ := putF X416 hx hZ hown (host := "") (Or.inl (own_w hw 148 rfl)) (Via.of (own_w hw 149 rfl)) e416 f409 f406 (Or.inl (own_w hw 28 rfl)) (own_w hw 10 rfl) (ty := .int) (by decide) rfl rfl (g := (mkF m 107 #[.val (.ref a), .val (.ref x), .val (.int (0 : Int32))] [(.int (2 : Int32)), (.ref a)])) rfl rfl (hb hby own_d18_107)
  have f418 := f409.same W417
  have f419 := f406.wr W417
  clear f406
  have f420 := f405.other W417 (Or.inr (slot_ne (Or.inl (own_w hw 142 rfl)) (Or.inl (own_w hw 28 rfl)) (by decide) (t := .int) (t' := .int) (by decide) (by decide)))
  clear f405
  have f421 := f408.other W417 (Or.inr (slot_ne (Or.inl (own_w hw 32 rfl)) (Or.inl (own_w hw 28 rfl)) (by decide) (t := (.array (.array (.object "java/lang/Object")))) (t' := .int) (by decide) (by decide)))
  clear f408
  have f423 := f410.other W417 (Ne.symm ne_a_ck)
  clear f410
  have f424 := f411.other W417 (Ne.symm ne_a_c0)
  clear f411
  have f425 := f412.wr W417
  clear f412
  have f426 := f413.other W417 (Or.inl (Ne.symm ne_a_x))
  clear f413
  have f427 := f414.other W417 (Or.inl (Ne.symm ne_a_x))
  clear f414
  have f428 := f415.other W417 (Or.inl (Ne.symm ne_a_x))
  clear f415
  have sz417 : n0 ≤ h417.size := by rw [W417.size]; exact sz404
  clear sz404
  have fr417 := Fr.snoc X417 fr404 g_a
  clear fr404
  have kp417 := kp404.wr W417 (Or.inl (List.mem_of_getElem? (i := 0) rfl))
  clear kp404
  refine own_st (st417) ?_
  clear st417 X416 e416 W417 f409
  show OFin p e below s _ _ _ (T417.setTop (mkF m 110 #[.val (.ref a), .val (.ref x), .val (.int (0 : Int32))] []))
  refine own_st (fun _ kS => XS.iconst X417.here hx rfl (hb hby own_d18_110) kS) ?_
  show OFin p e below s _ _ _ (T417.setTop (mkF m 111 #[.val (.ref a), .val (.ref x), .val (.int (0 : Int32))] [(.int (1 : Int32))]))
  exact own_ret X417 hx (t := .boolean) hret hlk rfl (Or.inl ⟨rfl, by simp, _, rfl⟩) (hb hby own_d18_111) (by decide) (by decide) (by show _ ∧ _ ∧ Keep h0 T417.heap [a, c0] ∧ _; rw [e417]; exact ⟨rfl, fr417, kp417, ⟨f419, f420, f421, f418, f423, f424⟩⟩)
set_option maxRecDepth 65536 in
set_option maxHeartbeats 40000000 in
theorem rmTA0 (l : Launch) (Z : State) (a0 : Array Value) (hw : ∀ d ∈ tables_1, d.before a0 Z = true) (a : Addr) (x : Addr) (h0 : Heap) (n0 : Nat) (Z0 : n0 ≤ h0.size) (cl ck : Addr) (ft : Int64) (pv nx : Int32) (B_OTT0 : OTT Z h0 a cl) (B_OCL01 : OCL0 Z h0 cl ck) (B_OTO2 : OTO Z h0 x ft pv nx) (g_cl : n0 ≤ cl) (g_ck : n0 ≤ ck) (ne_a_cl : a ≠ cl) (ne_a_ck : a ≠ ck) (ne_a_x : a ≠ x) (ne_cl_ck : cl ≠ ck) (ne_cl_x : cl ≠ x) (ne_ck_x : ck ≠ x)  :
    OMet l Z (⟨"com/example/epicycle/epicycle/TimeoutTable", "add", "(Lcom/example/epicycle/epicycle/Timeout;)I"⟩ : MethodName) prog_20_method_2_code 3 (some .int) (⟨1, 1, 1024, 14⟩ : Room) #[(.ref a), (.ref x)] h0 (fun v h L => v = some (.int (1 : Int32)) ∧ Fr n0 L ∧ Keep h0 h [cl, ck] ∧ ∃ c0, h0.size ≤ c0 ∧ OCL1 Z h cl ck c0 1 (fun i => if i = 0 then .ref c0 else .null) (fun i => if i = 0 then .ref x else .null)) := by
  refine own_enter own_pn17 ?_
  intro p e s m below meth c T0 X0 hC e0
  obtain ⟨hx, hZ, hby, hml, hown, hret, hlk, hnm⟩ := hC
  have hown : s.vm.findClass "com/example/epicycle/epicycle/TimeoutTable" = some m.cls := hown
  refine own_at (own_ef17_RR m a x) ?_
  show OFin p e below s _ _ _ (T0.setTop (mkF m 0 #[.val (.ref a), .val (.ref x), .unset] []))
  have N0 := Fr.nil n0
  have kp0 := Keep.refl h0 [cl, ck]
  obtain ⟨u429, u430, u431, u432⟩ := B_OTT0
  obtain ⟨u433, u434, u435, u436, u437⟩ := B_OCL01
  obtain ⟨u438, u439, u440, u441⟩ := B_OTO2
  refine own_st (fun _ kS => XS.aloadN X0.here hx rfl (hb hby own_d17_0) rfl rfl kS) ?_
  show OFin p e below s _ _ _ (T0.setTop (mkF m 1 #[.val (.ref a), .val (.ref x), .unset] [(.ref a)]))
  obtain ⟨T442, X442, e442, st442⟩ := getF X0 hx hZ hown (host := "") (Or.inl (own_w hw 134 rfl)) Via.refl e0 u432 (g := (mkF m 1 #[.val (.ref a), .val (.ref x), .unset] [(.ref a)])) rfl rfl (hb hby own_d17_1)
  refine own_st (st442) ?_
  clear st442 X0 e0
  show OFin p e below s _ _ _ (T442.setTop (mkF m 4 #[.val (.ref a), .val (.ref x), .unset] [(.int (0 : Int32))]))
  refine own_st (fun _ kS => XS.ifYes X442.here hx rfl (pc0 := 4) (pc' := 29) rfl (hb hby own_d17_4) rfl ((if0 _ _).trans (flt (by decide)).2.2.2) (by decide) (by decide) kS) ?_
  show OFin p e below s _ _ _ (T442.setTop (mkF m 29 #[.val (.ref a), .val (.ref x), .unset] []))
  refine own_st (fun _ kS => XS.aloadN X442.here hx rfl (hb hby own_d17_29) rfl rfl kS) ?_
  show OFin p e below s _ _ _ (T442.setTop (mkF m 30 #[.val (.ref a), .val (.ref x), .unset] [(.ref a)]))
  obtain ⟨T443, X443, e443, st443⟩ := getF X442 hx hZ hown (host := "") (Or.inl (own_w hw 33 rfl)) Via.refl e442 u430 (g := (mkF m 30 #[.val (.ref a), .val (.ref x), .unset] [(.ref a)])) rfl rfl (hb hby own_d17_30)
  refine own_st (st443) ?_
  clear st443 X442 e442
  show OFin p e below s _ _ _ (T443.setTop (mkF m 33 #[.val (.ref a), .val (.ref x), .unset] [(.ref cl)]))
  refine own_st (fun _ kS => XS.aloadN X443.here hx rfl (hb hby own_d17_33) rfl rfl kS) ?_
  show OFin p e below s _ _ _ (T443.setTop (mkF m 34 #[.val (.ref a), .val (.ref x), .unset] [(.ref x), (.ref cl)]))
  obtain ⟨v444, T444, L444, X444, hQ444, st444⟩ := own_virtual X443 hx hZ (y := (⟨"com/example/epicycle/epicycle/ChunkedList", "add", "(Ljava/lang/Object;)Z"⟩ : MethodName)) (z := (⟨"com/example/epicycle/epicycle/ChunkedList", "add", "(Ljava/lang/Object;)Z"⟩ : MethodName)) (rm := ⟨0, 1, 1024, 0⟩) (W := 0) (a := cl) (argsL := [(.ref x)]) (rest := []) hown (own_w hw 136 rfl) (own_w hw 137 rfl) (notFace_of_selects (args := #[]) (mvT hZ (own_w hw 139 rfl))) (own_w hw 139 rfl) (own_w hw 138 rfl) (own_w hw 11 rfl) (own_w hw 140 rfl) (rmCA0 l Z a0 hw cl x h0 n0 Z0 ck ft pv nx ⟨u433, u434, u435, u436, u437⟩ ⟨u438, u439, u440, u441⟩ g_cl g_ck ne_cl_ck ne_cl_x ne_ck_x) e443 u433 (g := (mkF m 34 #[.val (.ref a), .val (.ref x), .unset] [(.ref x), (.ref cl)])) rfl (by rw [hml]; rfl) (lenOf own_pd4 rfl) rfl (by show 2 * 0 + _ ≤ _; exact Nat.le_of_eq rfl) (hb hby own_d17_34) (by decide) (by decide) (by decide) (by decide)
  obtain ⟨rfl, N444, K444, c0, ge_c0, B444_0⟩ := hQ444
  have ne_a_c0 : a ≠ c0 := Nat.ne_of_lt (Nat.lt_of_lt_of_le u429.lt ge_c0)
  have ne_ck_c0 : ck ≠ c0 := Nat.ne_of_lt (Nat.lt_of_lt_of_le u437.lt ge_c0)
  have ne_cl_c0 : cl ≠ c0 := Nat.ne_of_lt (Nat.lt_of_lt_of_le u433.lt ge_c0)
  have ne_x_c0 : x ≠ c0 := Nat.ne_of_lt (Nat.lt_of_lt_of_le u438.lt ge_c0)
  have g_c0 : n0 ≤ c0 := Nat.le_trans Z0 ge_c0
  have kz_c0 := Nat.le_trans kp0.1 ge_c0
  have fr444 := Fr.app N0 N444
  clear N0 N444
  have kp444 := kp0.trans K444 (allS (Or.inl (List.mem_of_getElem? (i := 0) rfl)) (allS (Or.inl (List.mem_of_getElem? (i := 1) rfl)) all0))
  clear kp0
  have f445 := u429.keep K444
  clear u429
  have f446 := u430.keep K444 (ninS ne_a_cl (ninS ne_a_ck nin0))
  clear u430
  have f447 := u431.keep K444 (ninS ne_a_cl (ninS ne_a_ck nin0))
  clear u431
  have f448 := u432.keep K444 (ninS ne_a_cl (ninS ne_a_ck nin0))
  clear u432
  have f449 := u433.keep K444
  clear u433
  clear u434
  clear u435
  clear u436
  clear u437
  have f454 := u438.keep K444
  clear u438
  have f455 := u439.keep K444 (ninS (Ne.symm ne_cl_x) (ninS (Ne.symm ne_ck_x) nin0))
  clear u439
  have f456 := u440.keep K444 (ninS (Ne.symm ne_cl_x) (ninS (Ne.symm ne_ck_x) nin0))
  clear u440
  have f457 := u441.keep K444 (ninS (Ne.symm ne_cl_x) (ninS (Ne.symm ne_ck_x) nin0))
  clear u441
  have sz444 : n0 ≤ T444.heap.size := Nat.le_trans Z0 K444.1
  clear K444
  obtain ⟨u458, u459, u460, u461, u462, u463⟩ := B444_0
  refine own_st (st444) ?_
  clear st444 X443 e443
  show OFin p e below s _ _ _ (T444.setTop (mkF m 37 #[.val (.ref a), .val (.ref x), .unset] [(.int (1 : Int32))]))
  refine own_st (fun _ kS => XS.pop X444.here hx rfl (hb hby own_d17_37) rfl rfl kS) ?_
  show OFin p e below s _ _ _ (T444.setTop (mkF m 38 #[.val (.ref a), .val (.ref x), .unset] []))
  refine own_st (fun _ kS => XS.aloadN X444.here hx rfl (hb hby own_d17_38) rfl rfl kS) ?_
  show OFin p e below s _ _ _ (T444.setTop (mkF m 39 #[.val (.ref a), .val (.ref x), .unset] [(.ref a)]))
  obtain ⟨T464, X464, e464, st464⟩ := getF X444 hx hZ hown (host := "") (Or.inl (own_w hw 33 rfl)) Via.refl rfl f446 (g := (mkF m 39 #[.val (.ref a), .val (.ref x), .unset] [(.ref a)])) rfl rfl (hb hby own_d17_39)
  refine own_st (st464) ?_
  clear st464 X444
  show OFin p e below s _ _ _ (T464.setTop (mkF m 42 #[.val (.ref a), .val (.ref x), .unset] [(.ref cl)]))
  obtain ⟨v465, T465, L465, X465, hQ465, st465⟩ := own_virtual X464 hx hZ (y := (⟨"com/example/epicycle/epicycle/ChunkedList", "size", "()I"⟩ : MethodName)) (z := (⟨"com/example/epicycle/epicycle/ChunkedList", "size", "()I"⟩ : MethodName)) (rm := ⟨0, 0, 0, 0⟩) (W := 0) (a := cl) (argsL := []) (rest := []) hown (own_w hw 150 rfl) (own_w hw 151 rfl) (notFace_of_selects (args := #[]) (mvT hZ (own_w hw 153 rfl))) (own_w hw 153 rfl) (own_w hw 152 rfl) (own_w hw 11 rfl) (own_w hw 154 rfl) (rmCS l Z a0 hw cl T444.heap ck c0 (1 : Int32) (fun i => if i = 0 then .ref c0 else .null) (fun i => if i = 0 then .ref x else .null) ⟨u458, u459, u460, u461, u462, u463⟩) e464 u458 (g := (mkF m 42 #[.val (.ref a), .val (.ref x), .unset] [(.ref cl)])) rfl (by rw [hml]; rfl) (lenOf own_pd5 rfl) rfl (by show 2 * 0 + _ ≤ _; exact Nat.le_of_eq rfl) (hb hby own_d17_42) (by decide) (by decide) (by decide) (by decide)
  obtain ⟨rfl, e465, rfl⟩ := hQ465
  rw [List.append_nil] at X465
  refine own_st (st465) ?_
  clear st465 X464 e464
  show OFin p e below s _ _ _ (T465.setTop (mkF m 45 #[.val (.ref a), .val (.ref x), .unset] [(.int (1 : Int32))]))
  refine own_st (fun _ kS => XS.istoreN X465.here hx rfl (hb hby own_d17_45) rfl (l' := #[.val (.ref a), .val (.ref x), .val (.int (1 : Int32))]) rfl kS) ?_
  show OFin p e below s _ _ _ (T465.setTop (mkF m 46 #[.val (.ref a), .val (.ref x), .val (.int (1 : Int32))] []))
  refine own_st (fun _ kS => XS.iloadN X465.here hx rfl (hb hby own_d17_46) rfl kS) ?_
  show OFin p e below s _ _ _ (T465.setTop (mkF m 47 #[.val (.ref a), .val (.ref x), .val (.int (1 : Int32))] [(.int (1 : Int32))]))
  refine own_st (fun _ kS => XS.aloadN X465.here hx rfl (hb hby own_d17_47) rfl rfl kS) ?_
  show OFin p e below s _ _ _ (T465.setTop (mkF m 48 #[.val (.ref a), .val (.ref x), .val (.int (1 : Int32))] [(.ref a), (.int (1 : Int32))]))
  obtain ⟨T466, X466, e466, st466⟩ := getF X465 hx hZ hown (host := "") (Or.inl (own_w hw 48 rfl)) Via.refl e465 f447 (g := (mkF m 48 #[.val (.ref a), .val (.ref x), .val (.int (1 : Int32))] [(.ref a), (.int (1 : Int32))])) rfl rfl (hb hby own_d17_48)
  refine own_st (st466) ?_
  clear st466 X465 e465
  show OFin p e below s _ _ _ (T466.setTop (mkF m 51 #[.val (.ref a), .val (.ref x), .val (.int (1 : Int32))] [(.int (64 : Int32)), (.int (1 : Int32))]))
  refine own_st (fun _ kS => XS.icmpYes X466.here hx rfl (pc0 := 51) (pc' := 85) rfl (hb hby own_d17_51) rfl (flt (by decide)).2.2.2 (by decide) (by decide) kS) ?_
  show OFin p e below s _ _ _ (T466.setTop (mkF m 85 #[.val (.ref a), .val (.ref x), .val (.int (1 : Int32))] []))
  refine own_st (fun _ kS => XS.iloadN X466.here hx rfl (hb hby own_d17_85) rfl kS) ?_
  show OFin p e below s _ _ _ (T466.setTop (mkF m 86 #[.val (.ref a), .val (.ref x), .val (.int (1 : Int32))] [(.int (1 : Int32))]))
  exact own_ret X466 hx (t := .int) hret hlk rfl (Or.inl ⟨rfl, by simp, _, rfl⟩) (hb hby own_d17_86) (by decide) (by decide) (by show _ ∧ _ ∧ Keep h0 T466.heap [cl, ck] ∧ _; rw [e466]; exact ⟨rfl, fr444, kp444, c0, kz_c0, ⟨u458, u459, u460, u461, u462, u463⟩⟩)
set_option maxRecDepth 65536 in
set_option maxHeartbeats 40000000 in
theorem rmTA1 (l : Launch) (Z : State) (a0 : Array Value) (hw : ∀ d ∈ tables_1, d.before a0 Z = true) (a : Addr) (x : Addr) (h0 : Heap) (n0 : Nat) (Z0 : n0 ≤ h0.size) (cl ck c0 : Addr) (f g : Nat → Value) (ft : Int64) (pv nx : Int32) (B_OTT0 : OTT Z h0 a cl) (B_OCL11 : OCL1 Z h0 cl ck c0 (1 : Int32) f g) (B_OTO2 : OTO Z h0 x ft pv nx) (g_cl : n0 ≤ cl) (g_c0 : n0 ≤ c0) (ne_a_cl : a ≠ cl) (ne_a_ck : a ≠ ck) (ne_a_c0 : a ≠ c0) (ne_a_x : a ≠ x) (ne_cl_ck : cl ≠ ck) (ne_cl_c0 : cl ≠ c0) (ne_cl_x : cl ≠ x) (ne_ck_c0 : ck ≠ c0) (ne_ck_x : ck ≠ x) (ne_c0_x : c0 ≠ x) (hf : f 0 = .ref c0) :
    OMet l Z (⟨"com/example/epicycle/epicycle/TimeoutTable", "add", "(Lcom/example/epicycle/epicycle/Timeout;)I"⟩ : MethodName) prog_20_method_2_code 3 (some .int) (⟨1, 0, 0, 14⟩ : Room) #[(.ref a), (.ref x)] h0 (fun v h L => v = some (.int (2 : Int32)) ∧ Fr n0 L ∧ Keep h0 h [cl, c0] ∧ OCL1 Z h cl ck c0 2 f (fun i => if i = 1 then .ref x else g i)) := by
  refine own_enter own_pn17 ?_
  intro p e s m below meth c T0 X0 hC e0
  obtain ⟨hx, hZ, hby, hml, hown, hret, hlk, hnm⟩ := hC
  have hown : s.vm.findClass "com/example/epicycle/epicycle/TimeoutTable" = some m.cls := hown
  refine own_at (own_ef17_RR m a x) ?_
  show OFin p e below s _ _ _ (T0.setTop (mkF m 0 #[.val (.ref a), .val (.ref x), .unset] []))
  have N0 := Fr.nil n0
  have kp0 := Keep.refl h0 [cl, c0]
  obtain ⟨u467, u468, u469, u470⟩ := B_OTT0
  obtain ⟨u471, u472, u473, u474, u475, u476⟩ := B_OCL11
  obtain ⟨u477, u478, u479, u480⟩ := B_OTO2
  refine own_st (fun _ kS => XS.aloadN X0.here hx rfl (hb hby own_d17_0) rfl rfl kS) ?_
  show OFin p e below s _ _ _ (T0.setTop (mkF m 1 #[.val (.ref a), .val (.ref x), .unset] [(.ref a)]))
  obtain ⟨T481, X481, e481, st481⟩ := getF X0 hx hZ hown (host := "") (Or.inl (own_w hw 134 rfl)) Via.refl e0 u470 (g := (mkF m 1 #[.val (.ref a), .val (.ref x), .unset] [(.ref a)])) rfl rfl (hb hby own_d17_1)
  refine own_st (st481) ?_
  clear st481 X0 e0
  show OFin p e below s _ _ _ (T481.setTop (mkF m 4 #[.val (.ref a), .val (.ref x), .unset] [(.int (0 : Int32))]))
  refine own_st (fun _ kS => XS.ifYes X481.here hx rfl (pc0 := 4) (pc' := 29) rfl (hb hby own_d17_4) rfl ((if0 _ _).trans (flt (by decide)).2.2.2) (by decide) (by decide) kS) ?_
  show OFin p e below s _ _ _ (T481.setTop (mkF m 29 #[.val (.ref a), .val (.ref x), .unset] []))
  refine own_st (fun _ kS => XS.aloadN X481.here hx rfl (hb hby own_d17_29) rfl rfl kS) ?_
  show OFin p e below s _ _ _ (T481.setTop (mkF m 30 #[.val (.ref a), .val (.ref x), .unset] [(.ref a)]))
  obtain ⟨T482, X482, e482, st482⟩ := getF X481 hx hZ hown (host := "") (Or.inl (own_w hw 33 rfl)) Via.refl e481 u468 (g := (mkF m 30 #[.val (.ref a), .val (.ref x), .unset] [(.ref a)])) rfl rfl (hb hby own_d17_30)
  refine own_st (st482) ?_
  clear st482 X481 e481
  show OFin p e below s _ _ _ (T482.setTop (mkF m 33 #[.val (.ref a), .val (.ref x), .unset] [(.ref cl)]))
  refine own_st (fun _ kS => XS.aloadN X482.here hx rfl (hb hby own_d17_33) rfl rfl kS) ?_
  show OFin p e below s _ _ _ (T482.setTop (mkF m 34 #[.val (.ref a), .val (.ref x), .unset] [(.ref x), (.ref cl)]))
  obtain ⟨v483, T483, L483, X483, hQ483, st483⟩ := own_virtual X482 hx hZ (y := (⟨"com/example/epicycle/epicycle/ChunkedList", "add", "(Ljava/lang/Object;)Z"⟩ : MethodName)) (z := (⟨"com/example/epicycle/epicycle/ChunkedList", "add", "(Ljava/lang/Object;)Z"⟩ : MethodName)) (rm := ⟨0, 0, 0, 0⟩) (W := 0) (a := cl) (argsL := [(.ref x)]) (rest := []) hown (own_w hw 136 rfl) (own_w hw 137 rfl) (notFace_of_selects (args := #[]) (mvT hZ (own_w hw 139 rfl))) (own_w hw 139 rfl) (own_w hw 138 rfl) (own_w hw 11 rfl) (own_w hw 140 rfl) (rmCA1 l Z a0 hw cl x h0 n0 Z0 ck c0 f g ft pv nx ⟨u471, u472, u473, u474, u475, u476⟩ ⟨u477, u478, u479, u480⟩ g_cl g_c0 ne_cl_ck ne_cl_c0 ne_cl_x ne_ck_c0 ne_ck_x ne_c0_x hf) e482 u471 (g := (mkF m 34 #[.val (.ref a), .val (.ref x), .unset] [(.ref x), (.ref cl)])) rfl (by rw [hml]; rfl) (lenOf own_pd4 rfl) rfl (by show 2 * 0 + _ ≤ _; exact Nat.le_of_eq rfl) (hb hby own_d17_34) (by decide) (by decide) (by decide) (by decide)
  obtain ⟨rfl, N483, K483, B483_0⟩ := hQ483
  have fr483 := Fr.app N0 N483
  clear N0 N483
  have kp483 := kp0.trans K483 (allS (Or.inl (List.mem_of_getElem? (i := 0) rfl)) (allS (Or.inl (List.mem_of_getElem? (i := 1) rfl)) all0))
  clear kp0
  have f484 := u467.keep K483
  clear u467
  have f485 := u468.keep K483 (ninS ne_a_cl (ninS ne_a_c0 nin0))
  clear u468
  have f486 := u469.keep K483 (ninS ne_a_cl (ninS ne_a_c0 nin0))
  clear u469
  have f487 := u470.keep K483 (ninS ne_a_cl (ninS ne_a_c0 nin0))
  clear u470
  have f488 := u471.keep K483
  clear u471
  clear u472
  clear u473
  clear u474
  have f492 := u475.keep K483 (ninS (Ne.symm ne_cl_ck) (ninS ne_ck_c0 nin0))
  clear u475
  clear u476
  have f494 := u477.keep K483
  clear u477
  have f495 := u478.keep K483 (ninS (Ne.symm ne_cl_x) (ninS (Ne.symm ne_c0_x) nin0))
  clear u478
  have f496 := u479.keep K483 (ninS (Ne.symm ne_cl_x) (ninS (Ne.symm ne_c0_x) nin0))
  clear u479
  have f497 := u480.keep K483 (ninS (Ne.symm ne_cl_x) (ninS (Ne.symm ne_c0_x) nin0))
  clear u480
  have sz483 : n0 ≤ T483.heap.size := Nat.le_trans Z0 K483.1
  clear K483
  obtain ⟨u498, u499, u500, u501, u502, u503⟩ := B483_0
  refine own_st (st483) ?_
  clear st483 X482 e482
  show OFin p e below s _ _ _ (T483.setTop (mkF m 37 #[.val (.ref a), .val (.ref x), .unset] [(.int (1 : Int32))]))
  refine own_st (fun _ kS => XS.pop X483.here hx rfl (hb hby own_d17_37) rfl rfl kS) ?_
  show OFin p e below s _ _ _ (T483.setTop (mkF m 38 #[.val (.ref a), .val (.ref x), .unset] []))
  refine own_st (fun _ kS => XS.aloadN X483.here hx rfl (hb hby own_d17_38) rfl rfl kS) ?_
  show OFin p e below s _ _ _ (T483.setTop (mkF m 39 #[.val (.ref a), .val (.ref x), .unset] [(.ref a)]))
  obtain ⟨T504, X504, e504, st504⟩ := getF X483 hx hZ hown (host := "") (Or.inl (own_w hw 33 rfl)) Via.refl rfl f485 (g := (mkF m 39 #[.val (.ref a), .val (.ref x), .unset] [(.ref a)])) rfl rfl (hb hby own_d17_39)
  refine own_st (st504) ?_
  clear st504 X483
  show OFin p e below s _ _ _ (T504.setTop (mkF m 42 #[.val (.ref a), .val (.ref x), .unset] [(.ref cl)]))
  obtain ⟨v505, T505, L505, X505, hQ505, st505⟩ := own_virtual X504 hx hZ (y := (⟨"com/example/epicycle/epicycle/ChunkedList", "size", "()I"⟩ : MethodName)) (z := (⟨"com/example/epicycle/epicycle/ChunkedList", "size", "()I"⟩ : MethodName)) (rm := ⟨0, 0, 0, 0⟩) (W := 0) (a := cl) (argsL := []) (rest := []) hown (own_w hw 150 rfl) (own_w hw 151 rfl) (notFace_of_selects (args := #[]) (mvT hZ (own_w hw 153 rfl))) (own_w hw 153 rfl) (own_w hw 152 rfl) (own_w hw 11 rfl) (own_w hw 154 rfl) (rmCS l Z a0 hw cl T483.heap ck c0 (2 : Int32) f (fun i => if i = 1 then .ref x else g i) ⟨u498, u499, u500, u501, u502, u503⟩) e504 u498 (g := (mkF m 42 #[.val (.ref a), .val (.ref x), .unset] [(.ref cl)])) rfl (by rw [hml]; rfl) (lenOf own_pd5 rfl) rfl (by show 2 * 0 + _ ≤ _; exact Nat.le_of_eq rfl) (hb hby own_d17_42) (by decide) (by decide) (by decide) (by decide)
  obtain ⟨rfl, e505, rfl⟩ := hQ505
  rw [List.append_nil] at X505
  refine own_st (st505) ?_
  clear st505 X504 e504
  show OFin p e below s _ _ _ (T505.setTop (mkF m 45 #[.val (.ref a), .val (.ref x), .unset] [(.int (2 : Int32))]))
  refine own_st (fun _ kS => XS.istoreN X505.here hx rfl (hb hby own_d17_45) rfl (l' := #[.val (.ref a), .val (.ref x), .val (.int (2 : Int32))]) rfl kS) ?_
  show OFin p e below s _ _ _ (T505.setTop (mkF m 46 #[.val (.ref a), .val (.ref x), .val (.int (2 : Int32))] []))
  refine own_st (fun _ kS => XS.iloadN X505.here hx rfl (hb hby own_d17_46) rfl kS) ?_
  show OFin p e below s _ _ _ (T505.setTop (mkF m 47 #[.val (.ref a), .val (.ref x), .val (.int (2 : Int32))] [(.int (2 : Int32))]))
  refine own_st (fun _ kS => XS.aloadN X505.here hx rfl (hb hby own_d17_47) rfl rfl kS) ?_
  show OFin p e below s _ _ _ (T505.setTop (mkF m 48 #[.val (.ref a), .val (.ref x), .val (.int (2 : Int32))] [(.ref a), (.int (2 : Int32))]))
  obtain ⟨T506, X506, e506, st506⟩ := getF X505 hx hZ hown (host := "") (Or.inl (own_w hw 48 rfl)) Via.refl e505 f486 (g := (mkF m 48 #[.val (.ref a), .val (.ref x), .val (.int (2 : Int32))] [(.ref a), (.int (2 : Int32))])) rfl rfl (hb hby own_d17_48)
  refine own_st (st506) ?_
  clear st506 X505 e505
  show OFin p e below s _ _ _ (T506.setTop (mkF m 51 #[.val (.ref a), .val (.ref x), .val (.int (2 : Int32))] [(.int (64 : Int32)), (.int (2 : Int32))]))
  refine own_st (fun _ kS => XS.icmpYes X506.here hx rfl (pc0 := 51) (pc' := 85) rfl (hb hby own_d17_51) rfl (flt (by decide)).2.2.2 (by decide) (by decide) kS) ?_
  show OFin p e below s _ _ _ (T506.setTop (mkF m 85 #[.val (.ref a), .val (.ref x), .val (.int (2 : Int32))] []))
  refine own_st (fun _ kS => XS.iloadN X506.here hx rfl (hb hby own_d17_85) rfl kS) ?_
  show OFin p e below s _ _ _ (T506.setTop (mkF m 86 #[.val (.ref a), .val (.ref x), .val (.int (2 : Int32))] [(.int (2 : Int32))]))
  exact own_ret X506 hx (t := .int) hret hlk rfl (Or.inl ⟨rfl, by simp, _, rfl⟩) (hb hby own_d17_86) (by decide) (by decide) (by show _ ∧ _ ∧ Keep h0 T506.heap [cl, c0] ∧ _; rw [e506]; exact ⟨rfl, fr483, kp483, ⟨u498, u499, u500, u501, u502, u503⟩⟩)
set_option maxRecDepth 65536 in
set_option maxHeartbeats 40000000 in
theorem rmPC (l : Launch) (Z : State) (a0 : Array Value) (hw : ∀ d ∈ tables_1, d.before a0 Z = true) (p1 : Int32) (p2 : Int32) (h0 : Heap)   (h1 : ¬ p1 < 0) (h2 : p1 < p2) :
    OMet l Z (⟨"jdk/internal/util/Preconditions", "checkIndex", "(IILjava/util/function/BiFunction;)I"⟩ : MethodName) jdk_41_method_11_code 3 (some .int) (⟨0, 0, 0, 0⟩ : Room) #[(.int p1), (.int p2), .null] h0 (fun v h L => v = some (.int p1) ∧ h = h0 ∧ L = []) := by
  refine own_enter own_pn27 ?_
  intro p e s m below meth c T0 X0 hC e0
  obtain ⟨hx, hZ, hby, hml, hown, hret, hlk, hnm⟩ := hC
  have hown : s.vm.findClass "jdk/internal/util/Preconditions" = some m.cls := hown
  refine own_at (own_ef27_IIN m p1 p2) ?_
  show OFin p e below s _ _ _ (T0.setTop (mkF m 0 #[.val (.int p1), .val (.int p2), .val .null] []))
  refine own_st (fun _ kS => XS.iloadN X0.here hx rfl (hb hby own_d27_0) rfl kS) ?_
  show OFin p e below s _ _ _ (T0.setTop (mkF m 1 #[.val (.int p1), .val (.int p2), .val .null] [(.int p1)]))
  refine own_st (fun _ kS => XS.ifNo X0.here hx rfl (hb hby own_d27_1) rfl ((if0 _ _).trans (flt h1).1) kS) ?_
  show OFin p e below s _ _ _ (T0.setTop (mkF m 4 #[.val (.int p1), .val (.int p2), .val .null] []))
  refine own_st (fun _ kS => XS.iloadN X0.here hx rfl (hb hby own_d27_4) rfl kS) ?_
  show OFin p e below s _ _ _ (T0.setTop (mkF m 5 #[.val (.int p1), .val (.int p2), .val .null] [(.int p1)]))
  refine own_st (fun _ kS => XS.iloadN X0.here hx rfl (hb hby own_d27_5) rfl kS) ?_
  show OFin p e below s _ _ _ (T0.setTop (mkF m 6 #[.val (.int p1), .val (.int p2), .val .null] [(.int p2), (.int p1)]))
  refine own_st (fun _ kS => XS.icmpYes X0.here hx rfl (pc0 := 6) (pc' := 16) rfl (hb hby own_d27_6) rfl (tlt h2).1 (by decide) (by decide) kS) ?_
  show OFin p e below s _ _ _ (T0.setTop (mkF m 16 #[.val (.int p1), .val (.int p2), .val .null] []))
  refine own_st (fun _ kS => XS.iloadN X0.here hx rfl (hb hby own_d27_16) rfl kS) ?_
  show OFin p e below s _ _ _ (T0.setTop (mkF m 17 #[.val (.int p1), .val (.int p2), .val .null] [(.int p1)]))
  exact own_ret X0 hx (t := .int) hret hlk rfl (Or.inl ⟨rfl, by simp, _, rfl⟩) (hb hby own_d27_17) (by decide) (by decide) ⟨rfl, e0, rfl⟩
set_option maxRecDepth 65536 in
set_option maxHeartbeats 40000000 in
theorem rmOC (l : Launch) (Z : State) (a0 : Array Value) (hw : ∀ d ∈ tables_1, d.before a0 Z = true) (p1 : Int32) (p2 : Int32) (h0 : Heap)   (h1 : ¬ p1 < 0) (h2 : p1 < p2) :
    OMet l Z (⟨"java/util/Objects", "checkIndex", "(II)I"⟩ : MethodName) jdk_31_method_17_code 2 (some .int) (⟨1, 0, 0, 14⟩ : Room) #[(.int p1), (.int p2)] h0 (fun v h L => v = some (.int p1) ∧ h = h0 ∧ L = []) := by
  refine own_enter own_pn26 ?_
  intro p e s m below meth c T0 X0 hC e0
  obtain ⟨hx, hZ, hby, hml, hown, hret, hlk, hnm⟩ := hC
  have hown : s.vm.findClass "java/util/Objects" = some m.cls := hown
  refine own_at (own_ef26_II m p1 p2) ?_
  show OFin p e below s _ _ _ (T0.setTop (mkF m 0 #[.val (.int p1), .val (.int p2)] []))
  refine own_st (fun _ kS => XS.iloadN X0.here hx rfl (hb hby own_d26_0) rfl kS) ?_
  show OFin p e below s _ _ _ (T0.setTop (mkF m 1 #[.val (.int p1), .val (.int p2)] [(.int p1)]))
  refine own_st (fun _ kS => XS.iloadN X0.here hx rfl (hb hby own_d26_1) rfl kS) ?_
  show OFin p e below s _ _ _ (T0.setTop (mkF m 2 #[.val (.int p1), .val (.int p2)] [(.int p2), (.int p1)]))
  refine own_st (fun _ kS => XS.aconstNull X0.here hx rfl (hb hby own_d26_2) kS) ?_
  show OFin p e below s _ _ _ (T0.setTop (mkF m 3 #[.val (.int p1), .val (.int p2)] [.null, (.int p2), (.int p1)]))
  obtain ⟨v507, T507, L507, X507, hQ507, st507⟩ := own_static X0 hx hZ (y := (⟨"jdk/internal/util/Preconditions", "checkIndex", "(IILjava/util/function/BiFunction;)I"⟩ : MethodName)) (rm := ⟨0, 0, 0, 0⟩) (W := 0) (argsL := [(.int p1), (.int p2), .null]) (rest := []) hown (own_w hw 191 rfl) (own_w hw 192 rfl) (own_w hw 193 rfl) (own_w hw 194 rfl) (rmPC l Z a0 hw p1 p2 h0 h1 h2) e0 (g := (mkF m 3 #[.val (.int p1), .val (.int p2)] [.null, (.int p2), (.int p1)])) rfl (by rw [hml]; rfl) (lenOf own_pd6 rfl) rfl (by show 2 * 0 + _ ≤ _; exact Nat.le_of_eq rfl) (hb hby own_d26_3) (by decide) (by decide) (by decide) (by decide)
  obtain ⟨rfl, e507, rfl⟩ := hQ507
  rw [List.append_nil] at X507
  refine own_st (st507) ?_
  clear st507 X0 e0
  show OFin p e below s _ _ _ (T507.setTop (mkF m 6 #[.val (.int p1), .val (.int p2)] [(.int p1)]))
  exact own_ret X507 hx (t := .int) hret hlk rfl (Or.inl ⟨rfl, by simp, _, rfl⟩) (hb hby own_d26_6) (by decide) (by decide) ⟨rfl, e507, rfl⟩
set_option maxRecDepth 65536 in
set_option maxHeartbeats 40000000 in
theorem rmCG0 (l : Launch) (Z : State) (a0 : Array Value) (hw : ∀ d ∈ tables_1, d.before a0 Z = true) (a : Addr) (pp : Int32) (h0 : Heap) (ck c0 x : Addr) (n : Int32) (f g : Nat → Value) (B : OCL1 Z h0 a ck c0 n f g) (hp : pp = (0 : Int32)) (hn : (0 : Int32) < n) (hf : f 0 = .ref c0) (hg : g 0 = .ref x) :
    OMet l Z (⟨"com/example/epicycle/epicycle/ChunkedList", "get", "(I)Ljava/lang/Object;"⟩ : MethodName) prog_2_method_3_code 2 (some (.object "java/lang/Object")) (⟨2, 0, 0, 27⟩ : Room) #[(.ref a), (.int pp)] h0 (fun v h L => v = some (.ref x) ∧ h = h0 ∧ L = []) := by
  refine own_enter own_pn25 ?_
  intro p e s m below meth c T0 X0 hC e0
  obtain ⟨hx, hZ, hby, hml, hown, hret, hlk, hnm⟩ := hC
  have hown : s.vm.findClass "com/example/epicycle/epicycle/ChunkedList" = some m.cls := hown
  refine own_at (own_ef25_RI m a pp) ?_
  show OFin p e below s _ _ _ (T0.setTop (mkF m 0 #[.val (.ref a), .val (.int pp)] []))
  subst hp
  show OFin p e below s _ _ _ (T0.setTop (mkF m 0 #[.val (.ref a), .val (.int (0 : Int32))] []))
  obtain ⟨u508, u509, u510, u511, u512, u513⟩ := B
  refine own_st (fun _ kS => XS.iloadN X0.here hx rfl (hb hby own_d25_0) rfl kS) ?_
  show OFin p e below s _ _ _ (T0.setTop (mkF m 1 #[.val (.ref a), .val (.int (0 : Int32))] [(.int (0 : Int32))]))
  refine own_st (fun _ kS => XS.aloadN X0.here hx rfl (hb hby own_d25_1) rfl rfl kS) ?_
  show OFin p e below s _ _ _ (T0.setTop (mkF m 2 #[.val (.ref a), .val (.int (0 : Int32))] [(.ref a), (.int (0 : Int32))]))
  obtain ⟨T514, X514, e514, st514⟩ := getF X0 hx hZ hown (host := "") (Or.inl (own_w hw 141 rfl)) Via.refl e0 u509 (g := (mkF m 2 #[.val (.ref a), .val (.int (0 : Int32))] [(.ref a), (.int (0 : Int32))])) rfl rfl (hb hby own_d25_2)
  refine own_st (st514) ?_
  clear st514 X0 e0
  show OFin p e below s _ _ _ (T514.setTop (mkF m 5 #[.val (.ref a), .val (.int (0 : Int32))] [(.int n), (.int (0 : Int32))]))
  obtain ⟨v515, T515, L515, X515, hQ515, st515⟩ := own_static X514 hx hZ (y := (⟨"java/util/Objects", "checkIndex", "(II)I"⟩ : MethodName)) (rm := ⟨1, 0, 0, 14⟩) (W := 0) (argsL := [(.int (0 : Int32)), (.int n)]) (rest := []) hown (own_w hw 187 rfl) (own_w hw 188 rfl) (own_w hw 189 rfl) (own_w hw 190 rfl) (rmOC l Z a0 hw (0 : Int32) n h0 (by decide) hn) e514 (g := (mkF m 5 #[.val (.ref a), .val (.int (0 : Int32))] [(.int n), (.int (0 : Int32))])) rfl (by rw [hml]; rfl) (lenOf own_pd7 rfl) rfl (by show 2 * 0 + _ ≤ _; exact Nat.le_of_eq rfl) (hb hby own_d25_5) (by decide) (by decide) (by decide) (by decide)
  obtain ⟨rfl, e515, rfl⟩ := hQ515
  rw [List.append_nil] at X515
  refine own_st (st515) ?_
  clear st515 X514 e514
  show OFin p e below s _ _ _ (T515.setTop (mkF m 8 #[.val (.ref a), .val (.int (0 : Int32))] [(.int (0 : Int32))]))
  refine own_st (fun _ kS => XS.pop X515.here hx rfl (hb hby own_d25_8) rfl rfl kS) ?_
  show OFin p e below s _ _ _ (T515.setTop (mkF m 9 #[.val (.ref a), .val (.int (0 : Int32))] []))
  refine own_st (fun _ kS => XS.aloadN X515.here hx rfl (hb hby own_d25_9) rfl rfl kS) ?_
  show OFin p e below s _ _ _ (T515.setTop (mkF m 10 #[.val (.ref a), .val (.int (0 : Int32))] [(.ref a)]))
  obtain ⟨T516, X516, e516, st516⟩ := getF X515 hx hZ hown (host := "") (Or.inl (own_w hw 31 rfl)) Via.refl e515 u510 (g := (mkF m 10 #[.val (.ref a), .val (.int (0 : Int32))] [(.ref a)])) rfl rfl (hb hby own_d25_10)
  refine own_st (st516) ?_
  clear st516 X515 e515
  show OFin p e below s _ _ _ (T516.setTop (mkF m 13 #[.val (.ref a), .val (.int (0 : Int32))] [(.ref ck)]))
  refine own_st (fun _ kS => XS.iloadN X516.here hx rfl (hb hby own_d25_13) rfl kS) ?_
  show OFin p e below s _ _ _ (T516.setTop (mkF m 14 #[.val (.ref a), .val (.int (0 : Int32))] [(.int (0 : Int32)), (.ref ck)]))
  refine own_st (fun _ kS => XS.bipush X516.here hx rfl (hb hby own_d25_14) kS) ?_
  show OFin p e below s _ _ _ (T516.setTop (mkF m 16 #[.val (.ref a), .val (.int (0 : Int32))] [(.int (10 : Int32)), (.int (0 : Int32)), (.ref ck)]))
  refine own_st (fun _ kS => XS.iushr X516.here hx rfl (hb hby own_d25_16) rfl kS) ?_
  show OFin p e below s _ _ _ (T516.setTop (mkF m 17 #[.val (.ref a), .val (.int (0 : Int32))] [(.int (((0 : Int32).toUInt32 >>> ((10 : Int32) &&& 31).toUInt32).toInt32)), (.ref ck)]))
  rw [show ((((0 : Int32).toUInt32 >>> ((10 : Int32) &&& 31).toUInt32).toInt32)) = (0 : Int32) from by decide]
  show OFin p e below s _ _ _ (T516.setTop (mkF m 17 #[.val (.ref a), .val (.int (0 : Int32))] [(.int (0 : Int32)), (.ref ck)]))
  obtain ⟨cl517, Ar517, S517, B517, H517, O517⟩ := id u512
  refine own_st (X516.aaload hx (j := (0 : Int32)) (v := (.ref c0)) (by rw [e516]; exact Ar517.1) (State.isArrayOf_alike hZ.alike Ar517.2.1) rfl Ar517.2.2 (own_inb S517 (by decide) rfl (by decide)) ((own_hv H517 rfl (by decide)).trans (congrArg some (hf))) (g := (mkF m 17 #[.val (.ref a), .val (.int (0 : Int32))] [(.int (0 : Int32)), (.ref ck)])) rfl rfl (hb hby own_d25_17)) ?_
  clear Ar517 S517 B517 H517 O517
  show OFin p e below s _ _ _ (T516.setTop (mkF m 18 #[.val (.ref a), .val (.int (0 : Int32))] [(.ref c0)]))
  refine own_st (fun _ kS => XS.iloadN X516.here hx rfl (hb hby own_d25_18) rfl kS) ?_
  show OFin p e below s _ _ _ (T516.setTop (mkF m 19 #[.val (.ref a), .val (.int (0 : Int32))] [(.int (0 : Int32)), (.ref c0)]))
  refine own_st (fun _ kS => XS.sipush X516.here hx rfl (hb hby own_d25_19) kS) ?_
  show OFin p e below s _ _ _ (T516.setTop (mkF m 22 #[.val (.ref a), .val (.int (0 : Int32))] [(.int (1023 : Int32)), (.int (0 : Int32)), (.ref c0)]))
  refine own_st (fun _ kS => XS.iand X516.here hx rfl (hb hby own_d25_22) rfl kS) ?_
  show OFin p e below s _ _ _ (T516.setTop (mkF m 23 #[.val (.ref a), .val (.int (0 : Int32))] [(.int ((0 : Int32) &&& (1023 : Int32))), (.ref c0)]))
  rw [show (((0 : Int32) &&& (1023 : Int32))) = (0 : Int32) from by decide]
  show OFin p e below s _ _ _ (T516.setTop (mkF m 23 #[.val (.ref a), .val (.int (0 : Int32))] [(.int (0 : Int32)), (.ref c0)]))
  obtain ⟨cl518, Ar518, S518, B518, H518, O518⟩ := id u513
  refine own_st (X516.aaload hx (j := (0 : Int32)) (v := (.ref x)) (by rw [e516]; exact Ar518.1) (State.isArrayOf_alike hZ.alike Ar518.2.1) rfl Ar518.2.2 (own_inb S518 (by decide) rfl (by decide)) ((own_hv H518 rfl (by decide)).trans (congrArg some (hg))) (g := (mkF m 23 #[.val (.ref a), .val (.int (0 : Int32))] [(.int (0 : Int32)), (.ref c0)])) rfl rfl (hb hby own_d25_23)) ?_
  clear Ar518 S518 B518 H518 O518
  show OFin p e below s _ _ _ (T516.setTop (mkF m 24 #[.val (.ref a), .val (.int (0 : Int32))] [(.ref x)]))
  exact own_ret X516 hx (t := (.object "java/lang/Object")) hret hlk rfl (Or.inr (Or.inr (Or.inr (Or.inr ⟨rfl, rfl, rfl⟩)))) (hb hby own_d25_24) (by decide) (by decide) ⟨rfl, e516, rfl⟩
set_option maxRecDepth 65536 in
set_option maxHeartbeats 40000000 in
theorem rmTG0 (l : Launch) (Z : State) (a0 : Array Value) (hw : ∀ d ∈ tables_1, d.before a0 Z = true) (a : Addr) (pp : Int32) (h0 : Heap) (cl ck c0 x : Addr) (n : Int32) (f g : Nat → Value) (B1 : OTT Z h0 a cl) (B2 : OCL1 Z h0 cl ck c0 n f g) (E_x : Exa Z h0 x "com/example/epicycle/epicycle/Timeout") (hp : pp = (1 : Int32)) (hn : (0 : Int32) < n) (hf : f 0 = .ref c0) (hg : g 0 = .ref x) :
    OMet l Z (⟨"com/example/epicycle/epicycle/TimeoutTable", "get", "(I)Lcom/example/epicycle/epicycle/Timeout;"⟩ : MethodName) prog_20_method_3_code 2 (some (.object "com/example/epicycle/epicycle/Timeout")) (⟨3, 0, 0, 40⟩ : Room) #[(.ref a), (.int pp)] h0 (fun v h L => v = some (.ref x) ∧ h = h0 ∧ L = []) := by
  refine own_enter own_pn24 ?_
  intro p e s m below meth c T0 X0 hC e0
  obtain ⟨hx, hZ, hby, hml, hown, hret, hlk, hnm⟩ := hC
  have hown : s.vm.findClass "com/example/epicycle/epicycle/TimeoutTable" = some m.cls := hown
  refine own_at (own_ef24_RI m a pp) ?_
  show OFin p e below s _ _ _ (T0.setTop (mkF m 0 #[.val (.ref a), .val (.int pp)] []))
  subst hp
  show OFin p e below s _ _ _ (T0.setTop (mkF m 0 #[.val (.ref a), .val (.int (1 : Int32))] []))
  obtain ⟨u519, u520, u521, u522⟩ := B1
  obtain ⟨u523, u524, u525, u526, u527, u528⟩ := B2
  refine own_st (fun _ kS => XS.aloadN X0.here hx rfl (hb hby own_d24_0) rfl rfl kS) ?_
  show OFin p e below s _ _ _ (T0.setTop (mkF m 1 #[.val (.ref a), .val (.int (1 : Int32))] [(.ref a)]))
  obtain ⟨T529, X529, e529, st529⟩ := getF X0 hx hZ hown (host := "") (Or.inl (own_w hw 33 rfl)) Via.refl e0 u520 (g := (mkF m 1 #[.val (.ref a), .val (.int (1 : Int32))] [(.ref a)])) rfl rfl (hb hby own_d24_1)
  refine own_st (st529) ?_
  clear st529 X0 e0
  show OFin p e below s _ _ _ (T529.setTop (mkF m 4 #[.val (.ref a), .val (.int (1 : Int32))] [(.ref cl)]))
  refine own_st (fun _ kS => XS.iloadN X529.here hx rfl (hb hby own_d24_4) rfl kS) ?_
  show OFin p e below s _ _ _ (T529.setTop (mkF m 5 #[.val (.ref a), .val (.int (1 : Int32))] [(.int (1 : Int32)), (.ref cl)]))
  refine own_st (fun _ kS => XS.iconst X529.here hx rfl (hb hby own_d24_5) kS) ?_
  show OFin p e below s _ _ _ (T529.setTop (mkF m 6 #[.val (.ref a), .val (.int (1 : Int32))] [(.int (1 : Int32)), (.int (1 : Int32)), (.ref cl)]))
  refine own_st (fun _ kS => XS.isub X529.here hx rfl (hb hby own_d24_6) rfl kS) ?_
  show OFin p e below s _ _ _ (T529.setTop (mkF m 7 #[.val (.ref a), .val (.int (1 : Int32))] [(.int ((1 : Int32) - (1 : Int32))), (.ref cl)]))
  rw [show (((1 : Int32) - (1 : Int32))) = (0 : Int32) from by decide]
  show OFin p e below s _ _ _ (T529.setTop (mkF m 7 #[.val (.ref a), .val (.int (1 : Int32))] [(.int (0 : Int32)), (.ref cl)]))
  obtain ⟨v530, T530, L530, X530, hQ530, st530⟩ := own_virtual X529 hx hZ (y := (⟨"com/example/epicycle/epicycle/ChunkedList", "get", "(I)Ljava/lang/Object;"⟩ : MethodName)) (z := (⟨"com/example/epicycle/epicycle/ChunkedList", "get", "(I)Ljava/lang/Object;"⟩ : MethodName)) (rm := ⟨2, 0, 0, 27⟩) (W := 0) (a := cl) (argsL := [(.int (0 : Int32))]) (rest := []) hown (own_w hw 182 rfl) (own_w hw 183 rfl) (notFace_of_selects (args := #[]) (mvT hZ (own_w hw 185 rfl))) (own_w hw 185 rfl) (own_w hw 184 rfl) (own_w hw 11 rfl) (own_w hw 186 rfl) (rmCG0 l Z a0 hw cl (0 : Int32) h0 ck c0 x n f g ⟨u523, u524, u525, u526, u527, u528⟩ rfl hn hf hg) e529 u523 (g := (mkF m 7 #[.val (.ref a), .val (.int (1 : Int32))] [(.int (0 : Int32)), (.ref cl)])) rfl (by rw [hml]; rfl) (lenOf own_pd8 rfl) rfl (by show 2 * 0 + _ ≤ _; exact Nat.le_of_eq rfl) (hb hby own_d24_7) (by decide) (by decide) (by decide) (by decide)
  obtain ⟨rfl, e530, rfl⟩ := hQ530
  rw [List.append_nil] at X530
  refine own_st (st530) ?_
  clear st530 X529 e529
  show OFin p e below s _ _ _ (T530.setTop (mkF m 10 #[.val (.ref a), .val (.int (1 : Int32))] [(.ref x)]))
  obtain ⟨T531, X531, e531, st531⟩ := castY X530 hx hZ hown (own_w hw 195 rfl) e530 (Ins.self E_x) (g := (mkF m 10 #[.val (.ref a), .val (.int (1 : Int32))] [(.ref x)])) rfl rfl (hb hby own_d24_10)
  refine own_st (st531) ?_
  clear st531 X530 e530
  show OFin p e below s _ _ _ (T531.setTop (mkF m 13 #[.val (.ref a), .val (.int (1 : Int32))] [(.ref x)]))
  exact own_ret X531 hx (t := (.object "com/example/epicycle/epicycle/Timeout")) hret hlk rfl (Or.inr (Or.inr (Or.inr (Or.inr ⟨rfl, rfl, rfl⟩)))) (hb hby own_d24_13) (by decide) (by decide) ⟨rfl, e531, rfl⟩
set_option maxRecDepth 65536 in
set_option maxHeartbeats 40000000 in
theorem rmCG1 (l : Launch) (Z : State) (a0 : Array Value) (hw : ∀ d ∈ tables_1, d.before a0 Z = true) (a : Addr) (pp : Int32) (h0 : Heap) (ck c0 x : Addr) (n : Int32) (f g : Nat → Value) (B : OCL1 Z h0 a ck c0 n f g) (hp : pp = (1 : Int32)) (hn : (1 : Int32) < n) (hf : f 0 = .ref c0) (hg : g 1 = .ref x) :
    OMet l Z (⟨"com/example/epicycle/epicycle/ChunkedList", "get", "(I)Ljava/lang/Object;"⟩ : MethodName) prog_2_method_3_code 2 (some (.object "java/lang/Object")) (⟨2, 0, 0, 27⟩ : Room) #[(.ref a), (.int pp)] h0 (fun v h L => v = some (.ref x) ∧ h = h0 ∧ L = []) := by
  refine own_enter own_pn25 ?_
  intro p e s m below meth c T0 X0 hC e0
  obtain ⟨hx, hZ, hby, hml, hown, hret, hlk, hnm⟩ := hC
  have hown : s.vm.findClass "com/example/epicycle/epicycle/ChunkedList" = some m.cls := hown
  refine own_at (own_ef25_RI m a pp) ?_
  show OFin p e below s _ _ _ (T0.setTop (mkF m 0 #[.val (.ref a), .val (.int pp)] []))
  subst hp
  show OFin p e below s _ _ _ (T0.setTop (mkF m 0 #[.val (.ref a), .val (.int (1 : Int32))] []))
  obtain ⟨u532, u533, u534, u535, u536, u537⟩ := B
  refine own_st (fun _ kS => XS.iloadN X0.here hx rfl (hb hby own_d25_0) rfl kS) ?_
  show OFin p e below s _ _ _ (T0.setTop (mkF m 1 #[.val (.ref a), .val (.int (1 : Int32))] [(.int (1 : Int32))]))
  refine own_st (fun _ kS => XS.aloadN X0.here hx rfl (hb hby own_d25_1) rfl rfl kS) ?_
  show OFin p e below s _ _ _ (T0.setTop (mkF m 2 #[.val (.ref a), .val (.int (1 : Int32))] [(.ref a), (.int (1 : Int32))]))
  obtain ⟨T538, X538, e538, st538⟩ := getF X0 hx hZ hown (host := "") (Or.inl (own_w hw 141 rfl)) Via.refl e0 u533 (g := (mkF m 2 #[.val (.ref a), .val (.int (1 : Int32))] [(.ref a), (.int (1 : Int32))])) rfl rfl (hb hby own_d25_2)
  refine own_st (st538) ?_
  clear st538 X0 e0
  show OFin p e below s _ _ _ (T538.setTop (mkF m 5 #[.val (.ref a), .val (.int (1 : Int32))] [(.int n), (.int (1 : Int32))]))
  obtain ⟨v539, T539, L539, X539, hQ539, st539⟩ := own_static X538 hx hZ (y := (⟨"java/util/Objects", "checkIndex", "(II)I"⟩ : MethodName)) (rm := ⟨1, 0, 0, 14⟩) (W := 0) (argsL := [(.int (1 : Int32)), (.int n)]) (rest := []) hown (own_w hw 187 rfl) (own_w hw 188 rfl) (own_w hw 189 rfl) (own_w hw 190 rfl) (rmOC l Z a0 hw (1 : Int32) n h0 (by decide) hn) e538 (g := (mkF m 5 #[.val (.ref a), .val (.int (1 : Int32))] [(.int n), (.int (1 : Int32))])) rfl (by rw [hml]; rfl) (lenOf own_pd7 rfl) rfl (by show 2 * 0 + _ ≤ _; exact Nat.le_of_eq rfl) (hb hby own_d25_5) (by decide) (by decide) (by decide) (by decide)
  obtain ⟨rfl, e539, rfl⟩ := hQ539
  rw [List.append_nil] at X539
  refine own_st (st539) ?_
  clear st539 X538 e538
  show OFin p e below s _ _ _ (T539.setTop (mkF m 8 #[.val (.ref a), .val (.int (1 : Int32))] [(.int (1 : Int32))]))
  refine own_st (fun _ kS => XS.pop X539.here hx rfl (hb hby own_d25_8) rfl rfl kS) ?_
  show OFin p e below s _ _ _ (T539.setTop (mkF m 9 #[.val (.ref a), .val (.int (1 : Int32))] []))
  refine own_st (fun _ kS => XS.aloadN X539.here hx rfl (hb hby own_d25_9) rfl rfl kS) ?_
  show OFin p e below s _ _ _ (T539.setTop (mkF m 10 #[.val (.ref a), .val (.int (1 : Int32))] [(.ref a)]))
  obtain ⟨T540, X540, e540, st540⟩ := getF X539 hx hZ hown (host := "") (Or.inl (own_w hw 31 rfl)) Via.refl e539 u534 (g := (mkF m 10 #[.val (.ref a), .val (.int (1 : Int32))] [(.ref a)])) rfl rfl (hb hby own_d25_10)
  refine own_st (st540) ?_
  clear st540 X539 e539
  show OFin p e below s _ _ _ (T540.setTop (mkF m 13 #[.val (.ref a), .val (.int (1 : Int32))] [(.ref ck)]))
  refine own_st (fun _ kS => XS.iloadN X540.here hx rfl (hb hby own_d25_13) rfl kS) ?_
  show OFin p e below s _ _ _ (T540.setTop (mkF m 14 #[.val (.ref a), .val (.int (1 : Int32))] [(.int (1 : Int32)), (.ref ck)]))
  refine own_st (fun _ kS => XS.bipush X540.here hx rfl (hb hby own_d25_14) kS) ?_
  show OFin p e below s _ _ _ (T540.setTop (mkF m 16 #[.val (.ref a), .val (.int (1 : Int32))] [(.int (10 : Int32)), (.int (1 : Int32)), (.ref ck)]))
  refine own_st (fun _ kS => XS.iushr X540.here hx rfl (hb hby own_d25_16) rfl kS) ?_
  show OFin p e below s _ _ _ (T540.setTop (mkF m 17 #[.val (.ref a), .val (.int (1 : Int32))] [(.int (((1 : Int32).toUInt32 >>> ((10 : Int32) &&& 31).toUInt32).toInt32)), (.ref ck)]))
  rw [show ((((1 : Int32).toUInt32 >>> ((10 : Int32) &&& 31).toUInt32).toInt32)) = (0 : Int32) from by decide]
  show OFin p e below s _ _ _ (T540.setTop (mkF m 17 #[.val (.ref a), .val (.int (1 : Int32))] [(.int (0 : Int32)), (.ref ck)]))
  obtain ⟨cl541, Ar541, S541, B541, H541, O541⟩ := id u536
  refine own_st (X540.aaload hx (j := (0 : Int32)) (v := (.ref c0)) (by rw [e540]; exact Ar541.1) (State.isArrayOf_alike hZ.alike Ar541.2.1) rfl Ar541.2.2 (own_inb S541 (by decide) rfl (by decide)) ((own_hv H541 rfl (by decide)).trans (congrArg some (hf))) (g := (mkF m 17 #[.val (.ref a), .val (.int (1 : Int32))] [(.int (0 : Int32)), (.ref ck)])) rfl rfl (hb hby own_d25_17)) ?_
  clear Ar541 S541 B541 H541 O541
  show OFin p e below s _ _ _ (T540.setTop (mkF m 18 #[.val (.ref a), .val (.int (1 : Int32))] [(.ref c0)]))
  refine own_st (fun _ kS => XS.iloadN X540.here hx rfl (hb hby own_d25_18) rfl kS) ?_
  show OFin p e below s _ _ _ (T540.setTop (mkF m 19 #[.val (.ref a), .val (.int (1 : Int32))] [(.int (1 : Int32)), (.ref c0)]))
  refine own_st (fun _ kS => XS.sipush X540.here hx rfl (hb hby own_d25_19) kS) ?_
  show OFin p e below s _ _ _ (T540.setTop (mkF m 22 #[.val (.ref a), .val (.int (1 : Int32))] [(.int (1023 : Int32)), (.int (1 : Int32)), (.ref c0)]))
  refine own_st (fun _ kS => XS.iand X540.here hx rfl (hb hby own_d25_22) rfl kS) ?_
  show OFin p e below s _ _ _ (T540.setTop (mkF m 23 #[.val (.ref a), .val (.int (1 : Int32))] [(.int ((1 : Int32) &&& (1023 : Int32))), (.ref c0)]))
  rw [show (((1 : Int32) &&& (1023 : Int32))) = (1 : Int32) from by decide]
  show OFin p e below s _ _ _ (T540.setTop (mkF m 23 #[.val (.ref a), .val (.int (1 : Int32))] [(.int (1 : Int32)), (.ref c0)]))
  obtain ⟨cl542, Ar542, S542, B542, H542, O542⟩ := id u537
  refine own_st (X540.aaload hx (j := (1 : Int32)) (v := (.ref x)) (by rw [e540]; exact Ar542.1) (State.isArrayOf_alike hZ.alike Ar542.2.1) rfl Ar542.2.2 (own_inb S542 (by decide) rfl (by decide)) ((own_hv H542 rfl (by decide)).trans (congrArg some (hg))) (g := (mkF m 23 #[.val (.ref a), .val (.int (1 : Int32))] [(.int (1 : Int32)), (.ref c0)])) rfl rfl (hb hby own_d25_23)) ?_
  clear Ar542 S542 B542 H542 O542
  show OFin p e below s _ _ _ (T540.setTop (mkF m 24 #[.val (.ref a), .val (.int (1 : Int32))] [(.ref x)]))
  exact own_ret X540 hx (t := (.object "java/lang/Object")) hret hlk rfl (Or.inr (Or.inr (Or.inr (Or.inr ⟨rfl, rfl, rfl⟩)))) (hb hby own_d25_24) (by decide) (by decide) ⟨rfl, e540, rfl⟩
set_option maxRecDepth 65536 in
set_option maxHeartbeats 40000000 in
theorem rmTG1 (l : Launch) (Z : State) (a0 : Array Value) (hw : ∀ d ∈ tables_1, d.before a0 Z = true) (a : Addr) (pp : Int32) (h0 : Heap) (cl ck c0 x : Addr) (n : Int32) (f g : Nat → Value) (B1 : OTT Z h0 a cl) (B2 : OCL1 Z h0 cl ck c0 n f g) (E_x : Exa Z h0 x "com/example/epicycle/epicycle/Timeout") (hp : pp = (2 : Int32)) (hn : (1 : Int32) < n) (hf : f 0 = .ref c0) (hg : g 1 = .ref x) :
    OMet l Z (⟨"com/example/epicycle/epicycle/TimeoutTable", "get", "(I)Lcom/example/epicycle/epicycle/Timeout;"⟩ : MethodName) prog_20_method_3_code 2 (some (.object "com/example/epicycle/epicycle/Timeout")) (⟨3, 0, 0, 40⟩ : Room) #[(.ref a), (.int pp)] h0 (fun v h L => v = some (.ref x) ∧ h = h0 ∧ L = []) := by
  refine own_enter own_pn24 ?_
  intro p e s m below meth c T0 X0 hC e0
  obtain ⟨hx, hZ, hby, hml, hown, hret, hlk, hnm⟩ := hC
  have hown : s.vm.findClass "com/example/epicycle/epicycle/TimeoutTable" = some m.cls := hown
  refine own_at (own_ef24_RI m a pp) ?_
  show OFin p e below s _ _ _ (T0.setTop (mkF m 0 #[.val (.ref a), .val (.int pp)] []))
  subst hp
  show OFin p e below s _ _ _ (T0.setTop (mkF m 0 #[.val (.ref a), .val (.int (2 : Int32))] []))
  obtain ⟨u543, u544, u545, u546⟩ := B1
  obtain ⟨u547, u548, u549, u550, u551, u552⟩ := B2
  refine own_st (fun _ kS => XS.aloadN X0.here hx rfl (hb hby own_d24_0) rfl rfl kS) ?_
  show OFin p e below s _ _ _ (T0.setTop (mkF m 1 #[.val (.ref a), .val (.int (2 : Int32))] [(.ref a)]))
  obtain ⟨T553, X553, e553, st553⟩ := getF X0 hx hZ hown (host := "") (Or.inl (own_w hw 33 rfl)) Via.refl e0 u544 (g := (mkF m 1 #[.val (.ref a), .val (.int (2 : Int32))] [(.ref a)])) rfl rfl (hb hby own_d24_1)
  refine own_st (st553) ?_
  clear st553 X0 e0
  show OFin p e below s _ _ _ (T553.setTop (mkF m 4 #[.val (.ref a), .val (.int (2 : Int32))] [(.ref cl)]))
  refine own_st (fun _ kS => XS.iloadN X553.here hx rfl (hb hby own_d24_4) rfl kS) ?_
  show OFin p e below s _ _ _ (T553.setTop (mkF m 5 #[.val (.ref a), .val (.int (2 : Int32))] [(.int (2 : Int32)), (.ref cl)]))
  refine own_st (fun _ kS => XS.iconst X553.here hx rfl (hb hby own_d24_5) kS) ?_
  show OFin p e below s _ _ _ (T553.setTop (mkF m 6 #[.val (.ref a), .val (.int (2 : Int32))] [(.int (1 : Int32)), (.int (2 : Int32)), (.ref cl)]))
  refine own_st (fun _ kS => XS.isub X553.here hx rfl (hb hby own_d24_6) rfl kS) ?_
  show OFin p e below s _ _ _ (T553.setTop (mkF m 7 #[.val (.ref a), .val (.int (2 : Int32))] [(.int ((2 : Int32) - (1 : Int32))), (.ref cl)]))
  rw [show (((2 : Int32) - (1 : Int32))) = (1 : Int32) from by decide]
  show OFin p e below s _ _ _ (T553.setTop (mkF m 7 #[.val (.ref a), .val (.int (2 : Int32))] [(.int (1 : Int32)), (.ref cl)]))
  obtain ⟨v554, T554, L554, X554, hQ554, st554⟩ := own_virtual X553 hx hZ (y := (⟨"com/example/epicycle/epicycle/ChunkedList", "get", "(I)Ljava/lang/Object;"⟩ : MethodName)) (z := (⟨"com/example/epicycle/epicycle/ChunkedList", "get", "(I)Ljava/lang/Object;"⟩ : MethodName)) (rm := ⟨2, 0, 0, 27⟩) (W := 0) (a := cl) (argsL := [(.int (1 : Int32))]) (rest := []) hown (own_w hw 182 rfl) (own_w hw 183 rfl) (notFace_of_selects (args := #[]) (mvT hZ (own_w hw 185 rfl))) (own_w hw 185 rfl) (own_w hw 184 rfl) (own_w hw 11 rfl) (own_w hw 186 rfl) (rmCG1 l Z a0 hw cl (1 : Int32) h0 ck c0 x n f g ⟨u547, u548, u549, u550, u551, u552⟩ rfl hn hf hg) e553 u547 (g := (mkF m 7 #[.val (.ref a), .val (.int (2 : Int32))] [(.int (1 : Int32)), (.ref cl)])) rfl (by rw [hml]; rfl) (lenOf own_pd8 rfl) rfl (by show 2 * 0 + _ ≤ _; exact Nat.le_of_eq rfl) (hb hby own_d24_7) (by decide) (by decide) (by decide) (by decide)
  obtain ⟨rfl, e554, rfl⟩ := hQ554
  rw [List.append_nil] at X554
  refine own_st (st554) ?_
  clear st554 X553 e553
  show OFin p e below s _ _ _ (T554.setTop (mkF m 10 #[.val (.ref a), .val (.int (2 : Int32))] [(.ref x)]))
  obtain ⟨T555, X555, e555, st555⟩ := castY X554 hx hZ hown (own_w hw 195 rfl) e554 (Ins.self E_x) (g := (mkF m 10 #[.val (.ref a), .val (.int (2 : Int32))] [(.ref x)])) rfl rfl (hb hby own_d24_10)
  refine own_st (st555) ?_
  clear st555 X554 e554
  show OFin p e below s _ _ _ (T555.setTop (mkF m 13 #[.val (.ref a), .val (.int (2 : Int32))] [(.ref x)]))
  exact own_ret X555 hx (t := (.object "com/example/epicycle/epicycle/Timeout")) hret hlk rfl (Or.inr (Or.inr (Or.inr (Or.inr ⟨rfl, rfl, rfl⟩)))) (hb hby own_d24_13) (by decide) (by decide) ⟨rfl, e555, rfl⟩
set_option maxRecDepth 65536 in
set_option maxHeartbeats 40000000 in
theorem rmAP0 (l : Launch) (Z : State) (a0 : Array Value) (hw : ∀ d ∈ tables_1, d.before a0 Z = true) (a : Addr) (x : Addr) (h0 : Heap) (n0 : Nat) (Z0 : n0 ≤ h0.size) (tt cl ck : Addr) (ct : Int32) (ea : Int64) (ft : Int64)  (B_OSL0 : OSL Z h0 a tt (0 : Int32) (0 : Int32) ct ea) (B_OTT1 : OTT Z h0 tt cl) (B_OCL02 : OCL0 Z h0 cl ck) (B_OTO3 : OTO Z h0 x ft (0 : Int32) (0 : Int32)) (g_a : n0 ≤ a) (g_x : n0 ≤ x) (g_cl : n0 ≤ cl) (g_ck : n0 ≤ ck) (ne_a_tt : a ≠ tt) (ne_a_cl : a ≠ cl) (ne_a_ck : a ≠ ck) (ne_a_x : a ≠ x) (ne_tt_cl : tt ≠ cl) (ne_tt_ck : tt ≠ ck) (ne_tt_x : tt ≠ x) (ne_cl_ck : cl ≠ ck) (ne_cl_x : cl ≠ x) (ne_ck_x : ck ≠ x)  :
    OMet l Z (⟨"com/example/epicycle/epicycle/TimeoutList", "append", "(Lcom/example/epicycle/epicycle/Timeout;)V"⟩ : MethodName) prog_13_method_7_code 3 none (⟨4, 1, 1024, 53⟩ : Room) #[(.ref a), (.ref x)] h0 (fun v h L => v = none ∧ Fr n0 L ∧ Keep h0 h [a, x, cl, ck] ∧ ∃ c0, h0.size ≤ c0 ∧ OSL Z h a tt (1 : Int32) (1 : Int32) ct ea ∧ OCL1 Z h cl ck c0 (1 : Int32) (fun i => if i = 0 then .ref c0 else .null) (fun i => if i = 0 then .ref x else .null) ∧ OTO Z h x ft (0 : Int32) 0) := by
  refine own_enter own_pn16 ?_
  intro p e s m below meth c T0 X0 hC e0
  obtain ⟨hx, hZ, hby, hml, hown, hret, hlk, hnm⟩ := hC
  have hown : s.vm.findClass "com/example/epicycle/epicycle/TimeoutList" = some m.cls := hown
  refine own_at (own_ef16_RR m a x) ?_
  show OFin p e below s _ _ _ (T0.setTop (mkF m 0 #[.val (.ref a), .val (.ref x), .unset] []))
  have N0 := Fr.nil n0
  have kp0 := Keep.refl h0 [a, x, cl, ck]
  obtain ⟨u556, u557, u558, u559, u560, u561, u562⟩ := B_OSL0
  obtain ⟨u563, u564, u565, u566⟩ := B_OTT1
  obtain ⟨u567, u568, u569, u570, u571⟩ := B_OCL02
  obtain ⟨u572, u573, u574, u575⟩ := B_OTO3
  refine own_st (fun _ kS => XS.aloadN X0.here hx rfl (hb hby own_d16_0) rfl rfl kS) ?_
  show OFin p e below s _ _ _ (T0.setTop (mkF m 1 #[.val (.ref a), .val (.ref x), .unset] [(.ref a)]))
  obtain ⟨T576, X576, e576, st576⟩ := getF X0 hx hZ hown (host := "") (Or.inl (own_w hw 106 rfl)) Via.refl e0 u559 (g := (mkF m 1 #[.val (.ref a), .val (.ref x), .unset] [(.ref a)])) rfl rfl (hb hby own_d16_1)
  refine own_st (st576) ?_
  clear st576 X0 e0
  show OFin p e below s _ _ _ (T576.setTop (mkF m 4 #[.val (.ref a), .val (.ref x), .unset] [(.ref tt)]))
  refine own_st (fun _ kS => XS.aloadN X576.here hx rfl (hb hby own_d16_4) rfl rfl kS) ?_
  show OFin p e below s _ _ _ (T576.setTop (mkF m 5 #[.val (.ref a), .val (.ref x), .unset] [(.ref x), (.ref tt)]))
  obtain ⟨v577, T577, L577, X577, hQ577, st577⟩ := own_virtual X576 hx hZ (y := (⟨"com/example/epicycle/epicycle/TimeoutTable", "add", "(Lcom/example/epicycle/epicycle/Timeout;)I"⟩ : MethodName)) (z := (⟨"com/example/epicycle/epicycle/TimeoutTable", "add", "(Lcom/example/epicycle/epicycle/Timeout;)I"⟩ : MethodName)) (rm := ⟨1, 1, 1024, 14⟩) (W := 0) (a := tt) (argsL := [(.ref x)]) (rest := []) hown (own_w hw 129 rfl) (own_w hw 130 rfl) (notFace_of_selects (args := #[]) (mvT hZ (own_w hw 132 rfl))) (own_w hw 132 rfl) (own_w hw 131 rfl) (own_w hw 2 rfl) (own_w hw 133 rfl) (rmTA0 l Z a0 hw tt x h0 n0 Z0 cl ck ft 0 0 ⟨u563, u564, u565, u566⟩ ⟨u567, u568, u569, u570, u571⟩ ⟨u572, u573, u574, u575⟩ g_cl g_ck ne_tt_cl ne_tt_ck ne_tt_x ne_cl_ck ne_cl_x ne_ck_x) e576 u563 (g := (mkF m 5 #[.val (.ref a), .val (.ref x), .unset] [(.ref x), (.ref tt)])) rfl (by rw [hml]; rfl) (lenOf own_pd9 rfl) rfl (by show 2 * 0 + _ ≤ _; exact Nat.le_of_eq rfl) (hb hby own_d16_5) (by decide) (by decide) (by decide) (by decide)
  obtain ⟨rfl, N577, K577, c0, ge_c0, B577_0⟩ := hQ577
  have ne_a_c0 : a ≠ c0 := Nat.ne_of_lt (Nat.lt_of_lt_of_le u556.lt ge_c0)
  have ne_ck_c0 : ck ≠ c0 := Nat.ne_of_lt (Nat.lt_of_lt_of_le u571.lt ge_c0)
  have ne_cl_c0 : cl ≠ c0 := Nat.ne_of_lt (Nat.lt_of_lt_of_le u567.lt ge_c0)
  have ne_tt_c0 : tt ≠ c0 := Nat.ne_of_lt (Nat.lt_of_lt_of_le u563.lt ge_c0)
  have ne_x_c0 : x ≠ c0 := Nat.ne_of_lt (Nat.lt_of_lt_of_le u572.lt ge_c0)
  have g_c0 : n0 ≤ c0 := Nat.le_trans Z0 ge_c0
  have kz_c0 := Nat.le_trans kp0.1 ge_c0
  have fr577 := Fr.app N0 N577
  clear N0 N577
  have kp577 := kp0.trans K577 (allS (Or.inl (List.mem_of_getElem? (i := 2) rfl)) (allS (Or.inl (List.mem_of_getElem? (i := 3) rfl)) all0))
  clear kp0
  have f578 := u556.keep K577
  clear u556
  have f579 := u557.keep K577 (ninS ne_a_cl (ninS ne_a_ck nin0))
  clear u557
  have f580 := u558.keep K577 (ninS ne_a_cl (ninS ne_a_ck nin0))
  clear u558
  have f581 := u559.keep K577 (ninS ne_a_cl (ninS ne_a_ck nin0))
  clear u559
  have f582 := u560.keep K577 (ninS ne_a_cl (ninS ne_a_ck nin0))
  clear u560
  have f583 := u561.keep K577 (ninS ne_a_cl (ninS ne_a_ck nin0))
  clear u561
  have f584 := u562.keep K577 (ninS ne_a_cl (ninS ne_a_ck nin0))
  clear u562
  have f585 := u563.keep K577
  clear u563
  have f586 := u564.keep K577 (ninS ne_tt_cl (ninS ne_tt_ck nin0))
  clear u564
  have f587 := u565.keep K577 (ninS ne_tt_cl (ninS ne_tt_ck nin0))
  clear u565
  have f588 := u566.keep K577 (ninS ne_tt_cl (ninS ne_tt_ck nin0))
  clear u566
  have f589 := u567.keep K577
  clear u567
  clear u568
  clear u569
  clear u570
  clear u571
  have f594 := u572.keep K577
  clear u572
  have f595 := u573.keep K577 (ninS (Ne.symm ne_cl_x) (ninS (Ne.symm ne_ck_x) nin0))
  clear u573
  have f596 := u574.keep K577 (ninS (Ne.symm ne_cl_x) (ninS (Ne.symm ne_ck_x) nin0))
  clear u574
  have f597 := u575.keep K577 (ninS (Ne.symm ne_cl_x) (ninS (Ne.symm ne_ck_x) nin0))
  clear u575
  have sz577 : n0 ≤ T577.heap.size := Nat.le_trans Z0 K577.1
  clear K577
  obtain ⟨u598, u599, u600, u601, u602, u603⟩ := B577_0
  refine own_st (st577) ?_
  clear st577 X576 e576
  show OFin p e below s _ _ _ (T577.setTop (mkF m 8 #[.val (.ref a), .val (.ref x), .unset] [(.int (1 : Int32))]))
  refine own_st (fun _ kS => XS.istoreN X577.here hx rfl (hb hby own_d16_8) rfl (l' := #[.val (.ref a), .val (.ref x), .val (.int (1 : Int32))]) rfl kS) ?_
  show OFin p e below s _ _ _ (T577.setTop (mkF m 9 #[.val (.ref a), .val (.ref x), .val (.int (1 : Int32))] []))
  refine own_st (fun _ kS => XS.aloadN X577.here hx rfl (hb hby own_d16_9) rfl rfl kS) ?_
  show OFin p e below s _ _ _ (T577.setTop (mkF m 10 #[.val (.ref a), .val (.ref x), .val (.int (1 : Int32))] [(.ref x)]))
  refine own_st (fun _ kS => XS.aloadN X577.here hx rfl (hb hby own_d16_10) rfl rfl kS) ?_
  show OFin p e below s _ _ _ (T577.setTop (mkF m 11 #[.val (.ref a), .val (.ref x), .val (.int (1 : Int32))] [(.ref a), (.ref x)]))
  obtain ⟨T604, X604, e604, st604⟩ := getF X577 hx hZ hown (host := "") (Or.inl (own_w hw 104 rfl)) Via.refl rfl f580 (g := (mkF m 11 #[.val (.ref a), .val (.ref x), .val (.int (1 : Int32))] [(.ref a), (.ref x)])) rfl rfl (hb hby own_d16_11)
  refine own_st (st604) ?_
  clear st604 X577
  show OFin p e below s _ _ _ (T604.setTop (mkF m 14 #[.val (.ref a), .val (.ref x), .val (.int (1 : Int32))] [(.int (0 : Int32)), (.ref x)]))
  obtain ⟨T605, h605, X605, e605, W605, st605⟩ := putF X604 hx hZ hown (host := "") (Or.inl (own_w hw 155 rfl)) Via.refl e604 f596 f594 (Or.inl (own_w hw 156 rfl)) (own_w hw 66 rfl) (ty := .int) (by decide) rfl rfl (g := (mkF m 14 #[.val (.ref a), .val (.ref x), .val (.int (1 : Int32))] [(.int (0 : Int32)), (.ref x)])) rfl rfl (hb hby own_d16_14)
  have f606 := f596.same W605
  have f607 := f578.wr W605
  clear f578
  have f608 := f579.other W605 (Or.inl ne_a_x)
  clear f579
  have f609 := f580.other W605 (Or.inl ne_a_x)
  clear f580
  have f610 := f581.other W605 (Or.inl ne_a_x)
  clear f581
  have f611 := f582.other W605 (Or.inl ne_a_x)
  clear f582
  have f612 := f583.other W605 (Or.inl ne_a_x)
  clear f583
  have f613 := f584.other W605 (Or.inl ne_a_x)
  clear f584
  have f614 := f585.wr W605
  clear f585
  have f615 := f586.other W605 (Or.inl ne_tt_x)
  clear f586
  have f616 := f587.other W605 (Or.inl ne_tt_x)
  clear f587
  have f617 := f588.other W605 (Or.inl ne_tt_x)
  clear f588
  have f618 := u598.wr W605
  clear u598
  have f619 := f594.wr W605
  clear f594
  have f620 := f595.other W605 (Or.inr (slot_ne (Or.inr (own_w hw 77 rfl)) (Or.inl (own_w hw 156 rfl)) (by decide) (t := .long) (t' := .int) (by decide) (by decide)))
  clear f595
  have f622 := f597.other W605 (Or.inr (slot_ne (Or.inl (own_w hw 222 rfl)) (Or.inl (own_w hw 156 rfl)) (by decide) (t := .int) (t' := .int) (by decide) (by decide)))
  clear f597
  have f623 := u599.other W605 (Or.inl ne_cl_x)
  clear u599
  have f624 := u600.other W605 (Or.inl ne_cl_x)
  clear u600
  have f625 := u601.other W605 (Or.inl ne_cl_x)
  clear u601
  have f626 := u602.other W605 ne_ck_x
  clear u602
  have f627 := u603.other W605 (Ne.symm ne_x_c0)
  clear u603
  have sz605 : n0 ≤ h605.size := by rw [W605.size]; exact sz577
  clear sz577
  have fr605 := Fr.snoc X605 fr577 g_x
  clear fr577
  have kp605 := kp577.wr W605 (Or.inl (List.mem_of_getElem? (i := 1) rfl))
  clear kp577
  refine own_st (st605) ?_
  clear st605 X604 e604 W605 f596
  show OFin p e below s _ _ _ (T605.setTop (mkF m 17 #[.val (.ref a), .val (.ref x), .val (.int (1 : Int32))] []))
  refine own_st (fun _ kS => XS.aloadN X605.here hx rfl (hb hby own_d16_17) rfl rfl kS) ?_
  show OFin p e below s _ _ _ (T605.setTop (mkF m 18 #[.val (.ref a), .val (.ref x), .val (.int (1 : Int32))] [(.ref a)]))
  obtain ⟨T628, X628, e628, st628⟩ := getF X605 hx hZ hown (host := "") (Or.inl (own_w hw 104 rfl)) Via.refl e605 f609 (g := (mkF m 18 #[.val (.ref a), .val (.ref x), .val (.int (1 : Int32))] [(.ref a)])) rfl rfl (hb hby own_d16_18)
  refine own_st (st628) ?_
  clear st628 X605 e605
  show OFin p e below s _ _ _ (T628.setTop (mkF m 21 #[.val (.ref a), .val (.ref x), .val (.int (1 : Int32))] [(.int (0 : Int32))]))
  refine own_st (fun _ kS => XS.ifNo X628.here hx rfl (hb hby own_d16_21) rfl ((if0 _ _).trans (teq rfl).2) kS) ?_
  show OFin p e below s _ _ _ (T628.setTop (mkF m 24 #[.val (.ref a), .val (.ref x), .val (.int (1 : Int32))] []))
  refine own_st (fun _ kS => XS.aloadN X628.here hx rfl (hb hby own_d16_24) rfl rfl kS) ?_
  show OFin p e below s _ _ _ (T628.setTop (mkF m 25 #[.val (.ref a), .val (.ref x), .val (.int (1 : Int32))] [(.ref a)]))
  refine own_st (fun _ kS => XS.iloadN X628.here hx rfl (hb hby own_d16_25) rfl kS) ?_
  show OFin p e below s _ _ _ (T628.setTop (mkF m 26 #[.val (.ref a), .val (.ref x), .val (.int (1 : Int32))] [(.int (1 : Int32)), (.ref a)]))
  obtain ⟨T629, h629, X629, e629, W629, st629⟩ := putF X628 hx hZ hown (host := "") (Or.inl (own_w hw 102 rfl)) Via.refl e628 f608 f607 (Or.inl (own_w hw 103 rfl)) (own_w hw 91 rfl) (ty := .int) (by decide) rfl rfl (g := (mkF m 26 #[.val (.ref a), .val (.ref x), .val (.int (1 : Int32))] [(.int (1 : Int32)), (.ref a)])) rfl rfl (hb hby own_d16_26)
  have f630 := f608.same W629
  have f631 := f607.wr W629
  clear f607
  have f633 := f609.other W629 (Or.inr (slot_ne (Or.inl (own_w hw 105 rfl)) (Or.inl (own_w hw 103 rfl)) (by decide) (t := .int) (t' := .int) (by decide) (by decide)))
  clear f609
  have f634 := f610.other W629 (Or.inr (slot_ne (Or.inr (own_w hw 107 rfl)) (Or.inl (own_w hw 103 rfl)) (by decide) (t := (.object "com/example/epicycle/epicycle/TimeoutTable")) (t' := .int) (by decide) (by decide)))
  clear f610
  have f635 := f611.other W629 (Or.inr (slot_ne (Or.inl (own_w hw 110 rfl)) (Or.inl (own_w hw 103 rfl)) (by decide) (t := .int) (t' := .int) (by decide) (by decide)))
  clear f611
  have f636 := f612.other W629 (Or.inr (slot_ne (Or.inl (own_w hw 122 rfl)) (Or.inl (own_w hw 103 rfl)) (by decide) (t := .long) (t' := .int) (by decide) (by decide)))
  clear f612
  have f637 := f613.other W629 (Or.inr (slot_ne (Or.inl (own_w hw 114 rfl)) (Or.inl (own_w hw 103 rfl)) (by decide) (t := (.object "com/example/epicycle/epicycle/SlotRing")) (t' := .int) (by decide) (by decide)))
  clear f613
  have f638 := f614.wr W629
  clear f614
  have f639 := f615.other W629 (Or.inl (Ne.symm ne_a_tt))
  clear f615
  have f640 := f616.other W629 (Or.inl (Ne.symm ne_a_tt))
  clear f616
  have f641 := f617.other W629 (Or.inl (Ne.symm ne_a_tt))
  clear f617
  have f642 := f618.wr W629
  clear f618
  have f643 := f619.wr W629
  clear f619
  have f644 := f620.other W629 (Or.inl (Ne.symm ne_a_x))
  clear f620
  have f645 := f606.other W629 (Or.inl (Ne.symm ne_a_x))
  clear f606
  have f646 := f622.other W629 (Or.inl (Ne.symm ne_a_x))
  clear f622
  have f647 := f623.other W629 (Or.inl (Ne.symm ne_a_cl))
  clear f623
  have f648 := f624.other W629 (Or.inl (Ne.symm ne_a_cl))
  clear f624
  have f649 := f625.other W629 (Or.inl (Ne.symm ne_a_cl))
  clear f625
  have f650 := f626.other W629 (Ne.symm ne_a_ck)
  clear f626
  have f651 := f627.other W629 (Ne.symm ne_a_c0)
  clear f627
  have sz629 : n0 ≤ h629.size := by rw [W629.size]; exact sz605
  clear sz605
  have fr629 := Fr.snoc X629 fr605 g_a
  clear fr605
  have kp629 := kp605.wr W629 (Or.inl (List.mem_of_getElem? (i := 0) rfl))
  clear kp605
  refine own_st (st629) ?_
  clear st629 X628 e628 W629 f608
  show OFin p e below s _ _ _ (T629.setTop (mkF m 29 #[.val (.ref a), .val (.ref x), .val (.int (1 : Int32))] []))
  refine own_st (fun _ kS => XS.goto X629.here hx rfl (pc0 := 29) (pc' := 47) rfl (hb hby own_d16_29) (by decide) (by decide) kS) ?_
  show OFin p e below s _ _ _ (T629.setTop (mkF m 47 #[.val (.ref a), .val (.ref x), .val (.int (1 : Int32))] []))
  refine own_st (fun _ kS => XS.aloadN X629.here hx rfl (hb hby own_d16_47) rfl rfl kS) ?_
  show OFin p e below s _ _ _ (T629.setTop (mkF m 48 #[.val (.ref a), .val (.ref x), .val (.int (1 : Int32))] [(.ref a)]))
  refine own_st (fun _ kS => XS.iloadN X629.here hx rfl (hb hby own_d16_48) rfl kS) ?_
  show OFin p e below s _ _ _ (T629.setTop (mkF m 49 #[.val (.ref a), .val (.ref x), .val (.int (1 : Int32))] [(.int (1 : Int32)), (.ref a)]))
  obtain ⟨T652, h652, X652, e652, W652, st652⟩ := putF X629 hx hZ hown (host := "") (Or.inl (own_w hw 104 rfl)) Via.refl e629 f633 f631 (Or.inl (own_w hw 105 rfl)) (own_w hw 91 rfl) (ty := .int) (by decide) rfl rfl (g := (mkF m 49 #[.val (.ref a), .val (.ref x), .val (.int (1 : Int32))] [(.int (1 : Int32)), (.ref a)])) rfl rfl (hb hby own_d16_49)
  have f653 := f633.same W652
  have f654 := f631.wr W652
  clear f631
  have f655 := f630.other W652 (Or.inr (slot_ne (Or.inl (own_w hw 103 rfl)) (Or.inl (own_w hw 105 rfl)) (by decide) (t := .int) (t' := .int) (by decide) (by decide)))
  clear f630
  have f657 := f634.other W652 (Or.inr (slot_ne (Or.inr (own_w hw 107 rfl)) (Or.inl (own_w hw 105 rfl)) (by decide) (t := (.object "com/example/epicycle/epicycle/TimeoutTable")) (t' := .int) (by decide) (by decide)))
  clear f634
  have f658 := f635.other W652 (Or.inr (slot_ne (Or.inl (own_w hw 110 rfl)) (Or.inl (own_w hw 105 rfl)) (by decide) (t := .int) (t' := .int) (by decide) (by decide)))
  clear f635
  have f659 := f636.other W652 (Or.inr (slot_ne (Or.inl (own_w hw 122 rfl)) (Or.inl (own_w hw 105 rfl)) (by decide) (t := .long) (t' := .int) (by decide) (by decide)))
  clear f636
  have f660 := f637.other W652 (Or.inr (slot_ne (Or.inl (own_w hw 114 rfl)) (Or.inl (own_w hw 105 rfl)) (by decide) (t := (.object "com/example/epicycle/epicycle/SlotRing")) (t' := .int) (by decide) (by decide)))
  clear f637
  have f661 := f638.wr W652
  clear f638
  have f662 := f639.other W652 (Or.inl (Ne.symm ne_a_tt))
  clear f639
  have f663 := f640.other W652 (Or.inl (Ne.symm ne_a_tt))
  clear f640
  have f664 := f641.other W652 (Or.inl (Ne.symm ne_a_tt))
  clear f641
  have f665 := f642.wr W652
  clear f642
  have f666 := f643.wr W652
  clear f643
  have f667 := f644.other W652 (Or.inl (Ne.symm ne_a_x))
  clear f644
  have f668 := f645.other W652 (Or.inl (Ne.symm ne_a_x))
  clear f645
  have f669 := f646.other W652 (Or.inl (Ne.symm ne_a_x))
  clear f646
  have f670 := f647.other W652 (Or.inl (Ne.symm ne_a_cl))
  clear f647
  have f671 := f648.other W652 (Or.inl (Ne.symm ne_a_cl))
  clear f648
  have f672 := f649.other W652 (Or.inl (Ne.symm ne_a_cl))
  clear f649
  have f673 := f650.other W652 (Ne.symm ne_a_ck)
  clear f650
  have f674 := f651.other W652 (Ne.symm ne_a_c0)
  clear f651
  have sz652 : n0 ≤ h652.size := by rw [W652.size]; exact sz629
  clear sz629
  have fr652 := Fr.snoc X652 fr629 g_a
  clear fr629
  have kp652 := kp629.wr W652 (Or.inl (List.mem_of_getElem? (i := 0) rfl))
  clear kp629
  refine own_st (st652) ?_
  clear st652 X629 e629 W652 f633
  show OFin p e below s _ _ _ (T652.setTop (mkF m 52 #[.val (.ref a), .val (.ref x), .val (.int (1 : Int32))] []))
  exact own_retV X652 hx hret hlk (hb hby own_d16_52) (by decide) (by decide) (by show _ ∧ _ ∧ Keep h0 T652.heap [a, x, cl, ck] ∧ _; rw [e652]; exact ⟨rfl, fr652, kp652, c0, kz_c0, ⟨f654, f655, f653, f657, f658, f659, f660⟩, ⟨f665, f670, f671, f672, f673, f674⟩, ⟨f666, f667, f668, f669⟩⟩)
set_option maxRecDepth 65536 in
set_option maxHeartbeats 40000000 in
theorem rmAP1 (l : Launch) (Z : State) (a0 : Array Value) (hw : ∀ d ∈ tables_1, d.before a0 Z = true) (a : Addr) (x : Addr) (h0 : Heap) (n0 : Nat) (Z0 : n0 ≤ h0.size) (tt cl ck c0 : Addr) (ct : Int32) (ea : Int64) (ft : Int64) (f g : Nat → Value) (B_OSL0 : OSL Z h0 a tt (0 : Int32) (0 : Int32) ct ea) (B_OTT1 : OTT Z h0 tt cl) (B_OCL12 : OCL1 Z h0 cl ck c0 (1 : Int32) f g) (B_OTO3 : OTO Z h0 x ft (0 : Int32) (0 : Int32)) (g_a : n0 ≤ a) (g_x : n0 ≤ x) (g_cl : n0 ≤ cl) (g_c0 : n0 ≤ c0) (ne_a_tt : a ≠ tt) (ne_a_cl : a ≠ cl) (ne_a_ck : a ≠ ck) (ne_a_c0 : a ≠ c0) (ne_a_x : a ≠ x) (ne_tt_cl : tt ≠ cl) (ne_tt_ck : tt ≠ ck) (ne_tt_c0 : tt ≠ c0) (ne_tt_x : tt ≠ x) (ne_cl_ck : cl ≠ ck) (ne_cl_c0 : cl ≠ c0) (ne_cl_x : cl ≠ x) (ne_ck_c0 : ck ≠ c0) (ne_ck_x : ck ≠ x) (ne_c0_x : c0 ≠ x) (hf : f 0 = .ref c0)  :
    OMet l Z (⟨"com/example/epicycle/epicycle/TimeoutList", "append", "(Lcom/example/epicycle/epicycle/Timeout;)V"⟩ : MethodName) prog_13_method_7_code 3 none (⟨4, 0, 0, 53⟩ : Room) #[(.ref a), (.ref x)] h0 (fun v h L => v = none ∧ Fr n0 L ∧ Keep h0 h [a, x, cl, c0] ∧ OSL Z h a tt (2 : Int32) (2 : Int32) ct ea ∧ OCL1 Z h cl ck c0 (2 : Int32) f (fun i => if i = 1 then .ref x else g i) ∧ OTO Z h x ft (0 : Int32) 0) := by
  refine own_enter own_pn16 ?_
  intro p e s m below meth c T0 X0 hC e0
  obtain ⟨hx, hZ, hby, hml, hown, hret, hlk, hnm⟩ := hC
  have hown : s.vm.findClass "com/example/epicycle/epicycle/TimeoutList" = some m.cls := hown
  refine own_at (own_ef16_RR m a x) ?_
  show OFin p e below s _ _ _ (T0.setTop (mkF m 0 #[.val (.ref a), .val (.ref x), .unset] []))
  have N0 := Fr.nil n0
  have kp0 := Keep.refl h0 [a, x, cl, c0]
  obtain ⟨u675, u676, u677, u678, u679, u680, u681⟩ := B_OSL0
  obtain ⟨u682, u683, u684, u685⟩ := B_OTT1
  obtain ⟨u686, u687, u688, u689, u690, u691⟩ := B_OCL12
  obtain ⟨u692, u693, u694, u695⟩ := B_OTO3
  refine own_st (fun _ kS => XS.aloadN X0.here hx rfl (hb hby own_d16_0) rfl rfl kS) ?_
  show OFin p e below s _ _ _ (T0.setTop (mkF m 1 #[.val (.ref a), .val (.ref x), .unset] [(.ref a)]))
  obtain ⟨T696, X696, e696, st696⟩ := getF X0 hx hZ hown (host := "") (Or.inl (own_w hw 106 rfl)) Via.refl e0 u678 (g := (mkF m 1 #[.val (.ref a), .val (.ref x), .unset] [(.ref a)])) rfl rfl (hb hby own_d16_1)
  refine own_st (st696) ?_
  clear st696 X0 e0
  show OFin p e below s _ _ _ (T696.setTop (mkF m 4 #[.val (.ref a), .val (.ref x), .unset] [(.ref tt)]))
  refine own_st (fun _ kS => XS.aloadN X696.here hx rfl (hb hby own_d16_4) rfl rfl kS) ?_
  show OFin p e below s _ _ _ (T696.setTop (mkF m 5 #[.val (.ref a), .val (.ref x), .unset] [(.ref x), (.ref tt)]))
  obtain ⟨v697, T697, L697, X697, hQ697, st697⟩ := own_virtual X696 hx hZ (y := (⟨"com/example/epicycle/epicycle/TimeoutTable", "add", "(Lcom/example/epicycle/epicycle/Timeout;)I"⟩ : MethodName)) (z := (⟨"com/example/epicycle/epicycle/TimeoutTable", "add", "(Lcom/example/epicycle/epicycle/Timeout;)I"⟩ : MethodName)) (rm := ⟨1, 0, 0, 14⟩) (W := 0) (a := tt) (argsL := [(.ref x)]) (rest := []) hown (own_w hw 129 rfl) (own_w hw 130 rfl) (notFace_of_selects (args := #[]) (mvT hZ (own_w hw 132 rfl))) (own_w hw 132 rfl) (own_w hw 131 rfl) (own_w hw 2 rfl) (own_w hw 133 rfl) (rmTA1 l Z a0 hw tt x h0 n0 Z0 cl ck c0 f g ft 0 0 ⟨u682, u683, u684, u685⟩ ⟨u686, u687, u688, u689, u690, u691⟩ ⟨u692, u693, u694, u695⟩ g_cl g_c0 ne_tt_cl ne_tt_ck ne_tt_c0 ne_tt_x ne_cl_ck ne_cl_c0 ne_cl_x ne_ck_c0 ne_ck_x ne_c0_x hf) e696 u682 (g := (mkF m 5 #[.val (.ref a), .val (.ref x), .unset] [(.ref x), (.ref tt)])) rfl (by rw [hml]; rfl) (lenOf own_pd9 rfl) rfl (by show 2 * 0 + _ ≤ _; exact Nat.le_of_eq rfl) (hb hby own_d16_5) (by decide) (by decide) (by decide) (by decide)
  obtain ⟨rfl, N697, K697, B697_0⟩ := hQ697
  have fr697 := Fr.app N0 N697
  clear N0 N697
  have kp697 := kp0.trans K697 (allS (Or.inl (List.mem_of_getElem? (i := 2) rfl)) (allS (Or.inl (List.mem_of_getElem? (i := 3) rfl)) all0))
  clear kp0
  have f698 := u675.keep K697
  clear u675
  have f699 := u676.keep K697 (ninS ne_a_cl (ninS ne_a_c0 nin0))
  clear u676
  have f700 := u677.keep K697 (ninS ne_a_cl (ninS ne_a_c0 nin0))
  clear u677
  have f701 := u678.keep K697 (ninS ne_a_cl (ninS ne_a_c0 nin0))
  clear u678
  have f702 := u679.keep K697 (ninS ne_a_cl (ninS ne_a_c0 nin0))
  clear u679
  have f703 := u680.keep K697 (ninS ne_a_cl (ninS ne_a_c0 nin0))
  clear u680
  have f704 := u681.keep K697 (ninS ne_a_cl (ninS ne_a_c0 nin0))
  clear u681
  have f705 := u682.keep K697
  clear u682
  have f706 := u683.keep K697 (ninS ne_tt_cl (ninS ne_tt_c0 nin0))
  clear u683
  have f707 := u684.keep K697 (ninS ne_tt_cl (ninS ne_tt_c0 nin0))
  clear u684
  have f708 := u685.keep K697 (ninS ne_tt_cl (ninS ne_tt_c0 nin0))
  clear u685
  have f709 := u686.keep K697
  clear u686
  clear u687
  clear u688
  clear u689
  have f713 := u690.keep K697 (ninS (Ne.symm ne_cl_ck) (ninS ne_ck_c0 nin0))
  clear u690
  clear u691
  have f715 := u692.keep K697
  clear u692
  have f716 := u693.keep K697 (ninS (Ne.symm ne_cl_x) (ninS (Ne.symm ne_c0_x) nin0))
  clear u693
  have f717 := u694.keep K697 (ninS (Ne.symm ne_cl_x) (ninS (Ne.symm ne_c0_x) nin0))
  clear u694
  have f718 := u695.keep K697 (ninS (Ne.symm ne_cl_x) (ninS (Ne.symm ne_c0_x) nin0))
  clear u695
  have sz697 : n0 ≤ T697.heap.size := Nat.le_trans Z0 K697.1
  clear K697
  obtain ⟨u719, u720, u721, u722, u723, u724⟩ := B697_0
  refine own_st (st697) ?_
  clear st697 X696 e696
  show OFin p e below s _ _ _ (T697.setTop (mkF m 8 #[.val (.ref a), .val (.ref x), .unset] [(.int (2 : Int32))]))
  refine own_st (fun _ kS => XS.istoreN X697.here hx rfl (hb hby own_d16_8) rfl (l' := #[.val (.ref a), .val (.ref x), .val (.int (2 : Int32))]) rfl kS) ?_
  show OFin p e below s _ _ _ (T697.setTop (mkF m 9 #[.val (.ref a), .val (.ref x), .val (.int (2 : Int32))] []))
  refine own_st (fun _ kS => XS.aloadN X697.here hx rfl (hb hby own_d16_9) rfl rfl kS) ?_
  show OFin p e below s _ _ _ (T697.setTop (mkF m 10 #[.val (.ref a), .val (.ref x), .val (.int (2 : Int32))] [(.ref x)]))
  refine own_st (fun _ kS => XS.aloadN X697.here hx rfl (hb hby own_d16_10) rfl rfl kS) ?_
  show OFin p e below s _ _ _ (T697.setTop (mkF m 11 #[.val (.ref a), .val (.ref x), .val (.int (2 : Int32))] [(.ref a), (.ref x)]))
  obtain ⟨T725, X725, e725, st725⟩ := getF X697 hx hZ hown (host := "") (Or.inl (own_w hw 104 rfl)) Via.refl rfl f700 (g := (mkF m 11 #[.val (.ref a), .val (.ref x), .val (.int (2 : Int32))] [(.ref a), (.ref x)])) rfl rfl (hb hby own_d16_11)
  refine own_st (st725) ?_
  clear st725 X697
  show OFin p e below s _ _ _ (T725.setTop (mkF m 14 #[.val (.ref a), .val (.ref x), .val (.int (2 : Int32))] [(.int (0 : Int32)), (.ref x)]))
  obtain ⟨T726, h726, X726, e726, W726, st726⟩ := putF X725 hx hZ hown (host := "") (Or.inl (own_w hw 155 rfl)) Via.refl e725 f717 f715 (Or.inl (own_w hw 156 rfl)) (own_w hw 66 rfl) (ty := .int) (by decide) rfl rfl (g := (mkF m 14 #[.val (.ref a), .val (.ref x), .val (.int (2 : Int32))] [(.int (0 : Int32)), (.ref x)])) rfl rfl (hb hby own_d16_14)
  have f727 := f717.same W726
  have f728 := f698.wr W726
  clear f698
  have f729 := f699.other W726 (Or.inl ne_a_x)
  clear f699
  have f730 := f700.other W726 (Or.inl ne_a_x)
  clear f700
  have f731 := f701.other W726 (Or.inl ne_a_x)
  clear f701
  have f732 := f702.other W726 (Or.inl ne_a_x)
  clear f702
  have f733 := f703.other W726 (Or.inl ne_a_x)
  clear f703
  have f734 := f704.other W726 (Or.inl ne_a_x)
  clear f704
  have f735 := f705.wr W726
  clear f705
  have f736 := f706.other W726 (Or.inl ne_tt_x)
  clear f706
  have f737 := f707.other W726 (Or.inl ne_tt_x)
  clear f707
  have f738 := f708.other W726 (Or.inl ne_tt_x)
  clear f708
  have f739 := u719.wr W726
  clear u719
  have f740 := u723.other W726 ne_ck_x
  clear u723
  have f741 := f715.wr W726
  clear f715
  have f742 := f716.other W726 (Or.inr (slot_ne (Or.inr (own_w hw 77 rfl)) (Or.inl (own_w hw 156 rfl)) (by decide) (t := .long) (t' := .int) (by decide) (by decide)))
  clear f716
  have f744 := f718.other W726 (Or.inr (slot_ne (Or.inl (own_w hw 222 rfl)) (Or.inl (own_w hw 156 rfl)) (by decide) (t := .int) (t' := .int) (by decide) (by decide)))
  clear f718
  have f745 := u720.other W726 (Or.inl ne_cl_x)
  clear u720
  have f746 := u721.other W726 (Or.inl ne_cl_x)
  clear u721
  have f747 := u722.other W726 (Or.inl ne_cl_x)
  clear u722
  have f748 := u724.other W726 ne_c0_x
  clear u724
  have sz726 : n0 ≤ h726.size := by rw [W726.size]; exact sz697
  clear sz697
  have fr726 := Fr.snoc X726 fr697 g_x
  clear fr697
  have kp726 := kp697.wr W726 (Or.inl (List.mem_of_getElem? (i := 1) rfl))
  clear kp697
  refine own_st (st726) ?_
  clear st726 X725 e725 W726 f717
  show OFin p e below s _ _ _ (T726.setTop (mkF m 17 #[.val (.ref a), .val (.ref x), .val (.int (2 : Int32))] []))
  refine own_st (fun _ kS => XS.aloadN X726.here hx rfl (hb hby own_d16_17) rfl rfl kS) ?_
  show OFin p e below s _ _ _ (T726.setTop (mkF m 18 #[.val (.ref a), .val (.ref x), .val (.int (2 : Int32))] [(.ref a)]))
  obtain ⟨T749, X749, e749, st749⟩ := getF X726 hx hZ hown (host := "") (Or.inl (own_w hw 104 rfl)) Via.refl e726 f730 (g := (mkF m 18 #[.val (.ref a), .val (.ref x), .val (.int (2 : Int32))] [(.ref a)])) rfl rfl (hb hby own_d16_18)
  refine own_st (st749) ?_
  clear st749 X726 e726
  show OFin p e below s _ _ _ (T749.setTop (mkF m 21 #[.val (.ref a), .val (.ref x), .val (.int (2 : Int32))] [(.int (0 : Int32))]))
  refine own_st (fun _ kS => XS.ifNo X749.here hx rfl (hb hby own_d16_21) rfl ((if0 _ _).trans (teq rfl).2) kS) ?_
  show OFin p e below s _ _ _ (T749.setTop (mkF m 24 #[.val (.ref a), .val (.ref x), .val (.int (2 : Int32))] []))
  refine own_st (fun _ kS => XS.aloadN X749.here hx rfl (hb hby own_d16_24) rfl rfl kS) ?_
  show OFin p e below s _ _ _ (T749.setTop (mkF m 25 #[.val (.ref a), .val (.ref x), .val (.int (2 : Int32))] [(.ref a)]))
  refine own_st (fun _ kS => XS.iloadN X749.here hx rfl (hb hby own_d16_25) rfl kS) ?_
  show OFin p e below s _ _ _ (T749.setTop (mkF m 26 #[.val (.ref a), .val (.ref x), .val (.int (2 : Int32))] [(.int (2 : Int32)), (.ref a)]))
  obtain ⟨T750, h750, X750, e750, W750, st750⟩ := putF X749 hx hZ hown (host := "") (Or.inl (own_w hw 102 rfl)) Via.refl e749 f729 f728 (Or.inl (own_w hw 103 rfl)) (own_w hw 91 rfl) (ty := .int) (by decide) rfl rfl (g := (mkF m 26 #[.val (.ref a), .val (.ref x), .val (.int (2 : Int32))] [(.int (2 : Int32)), (.ref a)])) rfl rfl (hb hby own_d16_26)
  have f751 := f729.same W750
  have f752 := f728.wr W750
  clear f728
  have f754 := f730.other W750 (Or.inr (slot_ne (Or.inl (own_w hw 105 rfl)) (Or.inl (own_w hw 103 rfl)) (by decide) (t := .int) (t' := .int) (by decide) (by decide)))
  clear f730
  have f755 := f731.other W750 (Or.inr (slot_ne (Or.inr (own_w hw 107 rfl)) (Or.inl (own_w hw 103 rfl)) (by decide) (t := (.object "com/example/epicycle/epicycle/TimeoutTable")) (t' := .int) (by decide) (by decide)))
  clear f731
  have f756 := f732.other W750 (Or.inr (slot_ne (Or.inl (own_w hw 110 rfl)) (Or.inl (own_w hw 103 rfl)) (by decide) (t := .int) (t' := .int) (by decide) (by decide)))
  clear f732
  have f757 := f733.other W750 (Or.inr (slot_ne (Or.inl (own_w hw 122 rfl)) (Or.inl (own_w hw 103 rfl)) (by decide) (t := .long) (t' := .int) (by decide) (by decide)))
  clear f733
  have f758 := f734.other W750 (Or.inr (slot_ne (Or.inl (own_w hw 114 rfl)) (Or.inl (own_w hw 103 rfl)) (by decide) (t := (.object "com/example/epicycle/epicycle/SlotRing")) (t' := .int) (by decide) (by decide)))
  clear f734
  have f759 := f735.wr W750
  clear f735
  have f760 := f736.other W750 (Or.inl (Ne.symm ne_a_tt))
  clear f736
  have f761 := f737.other W750 (Or.inl (Ne.symm ne_a_tt))
  clear f737
  have f762 := f738.other W750 (Or.inl (Ne.symm ne_a_tt))
  clear f738
  have f763 := f739.wr W750
  clear f739
  have f764 := f740.other W750 (Ne.symm ne_a_ck)
  clear f740
  have f765 := f741.wr W750
  clear f741
  have f766 := f742.other W750 (Or.inl (Ne.symm ne_a_x))
  clear f742
  have f767 := f727.other W750 (Or.inl (Ne.symm ne_a_x))
  clear f727
  have f768 := f744.other W750 (Or.inl (Ne.symm ne_a_x))
  clear f744
  have f769 := f745.other W750 (Or.inl (Ne.symm ne_a_cl))
  clear f745
  have f770 := f746.other W750 (Or.inl (Ne.symm ne_a_cl))
  clear f746
  have f771 := f747.other W750 (Or.inl (Ne.symm ne_a_cl))
  clear f747
  have f772 := f748.other W750 (Ne.symm ne_a_c0)
  clear f748
  have sz750 : n0 ≤ h750.size := by rw [W750.size]; exact sz726
  clear sz726
  have fr750 := Fr.snoc X750 fr726 g_a
  clear fr726
  have kp750 := kp726.wr W750 (Or.inl (List.mem_of_getElem? (i := 0) rfl))
  clear kp726
  refine own_st (st750) ?_
  clear st750 X749 e749 W750 f729
  show OFin p e below s _ _ _ (T750.setTop (mkF m 29 #[.val (.ref a), .val (.ref x), .val (.int (2 : Int32))] []))
  refine own_st (fun _ kS => XS.goto X750.here hx rfl (pc0 := 29) (pc' := 47) rfl (hb hby own_d16_29) (by decide) (by decide) kS) ?_
  show OFin p e below s _ _ _ (T750.setTop (mkF m 47 #[.val (.ref a), .val (.ref x), .val (.int (2 : Int32))] []))
  refine own_st (fun _ kS => XS.aloadN X750.here hx rfl (hb hby own_d16_47) rfl rfl kS) ?_
  show OFin p e below s _ _ _ (T750.setTop (mkF m 48 #[.val (.ref a), .val (.ref x), .val (.int (2 : Int32))] [(.ref a)]))
  refine own_st (fun _ kS => XS.iloadN X750.here hx rfl (hb hby own_d16_48) rfl kS) ?_
  show OFin p e below s _ _ _ (T750.setTop (mkF m 49 #[.val (.ref a), .val (.ref x), .val (.int (2 : Int32))] [(.int (2 : Int32)), (.ref a)]))
  obtain ⟨T773, h773, X773, e773, W773, st773⟩ := putF X750 hx hZ hown (host := "") (Or.inl (own_w hw 104 rfl)) Via.refl e750 f754 f752 (Or.inl (own_w hw 105 rfl)) (own_w hw 91 rfl) (ty := .int) (by decide) rfl rfl (g := (mkF m 49 #[.val (.ref a), .val (.ref x), .val (.int (2 : Int32))] [(.int (2 : Int32)), (.ref a)])) rfl rfl (hb hby own_d16_49)
  have f774 := f754.same W773
  have f775 := f752.wr W773
  clear f752
  have f776 := f751.other W773 (Or.inr (slot_ne (Or.inl (own_w hw 103 rfl)) (Or.inl (own_w hw 105 rfl)) (by decide) (t := .int) (t' := .int) (by decide) (by decide)))
  clear f751
  have f778 := f755.other W773 (Or.inr (slot_ne (Or.inr (own_w hw 107 rfl)) (Or.inl (own_w hw 105 rfl)) (by decide) (t := (.object "com/example/epicycle/epicycle/TimeoutTable")) (t' := .int) (by decide) (by decide)))
  clear f755
  have f779 := f756.other W773 (Or.inr (slot_ne (Or.inl (own_w hw 110 rfl)) (Or.inl (own_w hw 105 rfl)) (by decide) (t := .int) (t' := .int) (by decide) (by decide)))
  clear f756
  have f780 := f757.other W773 (Or.inr (slot_ne (Or.inl (own_w hw 122 rfl)) (Or.inl (own_w hw 105 rfl)) (by decide) (t := .long) (t' := .int) (by decide) (by decide)))
  clear f757
  have f781 := f758.other W773 (Or.inr (slot_ne (Or.inl (own_w hw 114 rfl)) (Or.inl (own_w hw 105 rfl)) (by decide) (t := (.object "com/example/epicycle/epicycle/SlotRing")) (t' := .int) (by decide) (by decide)))
  clear f758
  have f782 := f759.wr W773
  clear f759
  have f783 := f760.other W773 (Or.inl (Ne.symm ne_a_tt))
  clear f760
  have f784 := f761.other W773 (Or.inl (Ne.symm ne_a_tt))
  clear f761
  have f785 := f762.other W773 (Or.inl (Ne.symm ne_a_tt))
  clear f762
  have f786 := f763.wr W773
  clear f763
  have f787 := f764.other W773 (Ne.symm ne_a_ck)
  clear f764
  have f788 := f765.wr W773
  clear f765
  have f789 := f766.other W773 (Or.inl (Ne.symm ne_a_x))
  clear f766
  have f790 := f767.other W773 (Or.inl (Ne.symm ne_a_x))
  clear f767
  have f791 := f768.other W773 (Or.inl (Ne.symm ne_a_x))
  clear f768
  have f792 := f769.other W773 (Or.inl (Ne.symm ne_a_cl))
  clear f769
  have f793 := f770.other W773 (Or.inl (Ne.symm ne_a_cl))
  clear f770
  have f794 := f771.other W773 (Or.inl (Ne.symm ne_a_cl))
  clear f771
  have f795 := f772.other W773 (Ne.symm ne_a_c0)
  clear f772
  have sz773 : n0 ≤ h773.size := by rw [W773.size]; exact sz750
  clear sz750
  have fr773 := Fr.snoc X773 fr750 g_a
  clear fr750
  have kp773 := kp750.wr W773 (Or.inl (List.mem_of_getElem? (i := 0) rfl))
  clear kp750
  refine own_st (st773) ?_
  clear st773 X750 e750 W773 f754
  show OFin p e below s _ _ _ (T773.setTop (mkF m 52 #[.val (.ref a), .val (.ref x), .val (.int (2 : Int32))] []))
  exact own_retV X773 hx hret hlk (hb hby own_d16_52) (by decide) (by decide) (by show _ ∧ _ ∧ Keep h0 T773.heap [a, x, cl, c0] ∧ _; rw [e773]; exact ⟨rfl, fr773, kp773, ⟨f775, f776, f774, f778, f779, f780, f781⟩, ⟨f786, f792, f793, f794, f787, f795⟩, ⟨f788, f789, f790, f791⟩⟩)
set_option maxRecDepth 65536 in
set_option maxHeartbeats 40000000 in
theorem rmAP2 (l : Launch) (Z : State) (a0 : Array Value) (hw : ∀ d ∈ tables_1, d.before a0 Z = true) (a : Addr) (x : Addr) (h0 : Heap) (n0 : Nat) (Z0 : n0 ≤ h0.size) (tt cl ck c0 y : Addr) (ct : Int32) (ea : Int64) (ft fy : Int64) (f g : Nat → Value) (B_OSL0 : OSL Z h0 a tt (1 : Int32) (1 : Int32) ct ea) (B_OTT1 : OTT Z h0 tt cl) (B_OCL12 : OCL1 Z h0 cl ck c0 (1 : Int32) f g) (B_OTO3 : OTO Z h0 x ft (0 : Int32) (0 : Int32)) (B_OTO4 : OTO Z h0 y fy (0 : Int32) (0 : Int32)) (g_a : n0 ≤ a) (g_x : n0 ≤ x) (g_cl : n0 ≤ cl) (g_c0 : n0 ≤ c0) (g_y : n0 ≤ y) (ne_a_tt : a ≠ tt) (ne_a_cl : a ≠ cl) (ne_a_ck : a ≠ ck) (ne_a_c0 : a ≠ c0) (ne_a_x : a ≠ x) (ne_a_y : a ≠ y) (ne_tt_cl : tt ≠ cl) (ne_tt_ck : tt ≠ ck) (ne_tt_c0 : tt ≠ c0) (ne_tt_x : tt ≠ x) (ne_tt_y : tt ≠ y) (ne_cl_ck : cl ≠ ck) (ne_cl_c0 : cl ≠ c0) (ne_cl_x : cl ≠ x) (ne_cl_y : cl ≠ y) (ne_ck_c0 : ck ≠ c0) (ne_ck_x : ck ≠ x) (ne_ck_y : ck ≠ y) (ne_c0_x : c0 ≠ x) (ne_c0_y : c0 ≠ y) (ne_x_y : x ≠ y) (hf : f 0 = .ref c0) (hg : g 0 = .ref y) :
    OMet l Z (⟨"com/example/epicycle/epicycle/TimeoutList", "append", "(Lcom/example/epicycle/epicycle/Timeout;)V"⟩ : MethodName) prog_13_method_7_code 3 none (⟨4, 0, 0, 53⟩ : Room) #[(.ref a), (.ref x)] h0 (fun v h L => v = none ∧ Fr n0 L ∧ Keep h0 h [a, x, cl, c0, y] ∧ OSL Z h a tt (1 : Int32) (2 : Int32) ct ea ∧ OCL1 Z h cl ck c0 (2 : Int32) f (fun i => if i = 1 then .ref x else g i) ∧ OTO Z h x ft (1 : Int32) 0 ∧ OTO Z h y fy 0 2) := by
  refine own_enter own_pn16 ?_
  intro p e s m below meth c T0 X0 hC e0
  obtain ⟨hx, hZ, hby, hml, hown, hret, hlk, hnm⟩ := hC
  have hown : s.vm.findClass "com/example/epicycle/epicycle/TimeoutList" = some m.cls := hown
  refine own_at (own_ef16_RR m a x) ?_
  show OFin p e below s _ _ _ (T0.setTop (mkF m 0 #[.val (.ref a), .val (.ref x), .unset] []))
  have N0 := Fr.nil n0
  have kp0 := Keep.refl h0 [a, x, cl, c0, y]
  obtain ⟨u796, u797, u798, u799, u800, u801, u802⟩ := B_OSL0
  obtain ⟨u803, u804, u805, u806⟩ := B_OTT1
  obtain ⟨u807, u808, u809, u810, u811, u812⟩ := B_OCL12
  obtain ⟨u813, u814, u815, u816⟩ := B_OTO3
  obtain ⟨u817, u818, u819, u820⟩ := B_OTO4
  refine own_st (fun _ kS => XS.aloadN X0.here hx rfl (hb hby own_d16_0) rfl rfl kS) ?_
  show OFin p e below s _ _ _ (T0.setTop (mkF m 1 #[.val (.ref a), .val (.ref x), .unset] [(.ref a)]))
  obtain ⟨T821, X821, e821, st821⟩ := getF X0 hx hZ hown (host := "") (Or.inl (own_w hw 106 rfl)) Via.refl e0 u799 (g := (mkF m 1 #[.val (.ref a), .val (.ref x), .unset] [(.ref a)])) rfl rfl (hb hby own_d16_1)
  refine own_st (st821) ?_
  clear st821 X0 e0
  show OFin p e below s _ _ _ (T821.setTop (mkF m 4 #[.val (.ref a), .val (.ref x), .unset] [(.ref tt)]))
  refine own_st (fun _ kS => XS.aloadN X821.here hx rfl (hb hby own_d16_4) rfl rfl kS) ?_
  show OFin p e below s _ _ _ (T821.setTop (mkF m 5 #[.val (.ref a), .val (.ref x), .unset] [(.ref x), (.ref tt)]))
  obtain ⟨v822, T822, L822, X822, hQ822, st822⟩ := own_virtual X821 hx hZ (y := (⟨"com/example/epicycle/epicycle/TimeoutTable", "add", "(Lcom/example/epicycle/epicycle/Timeout;)I"⟩ : MethodName)) (z := (⟨"com/example/epicycle/epicycle/TimeoutTable", "add", "(Lcom/example/epicycle/epicycle/Timeout;)I"⟩ : MethodName)) (rm := ⟨1, 0, 0, 14⟩) (W := 0) (a := tt) (argsL := [(.ref x)]) (rest := []) hown (own_w hw 129 rfl) (own_w hw 130 rfl) (notFace_of_selects (args := #[]) (mvT hZ (own_w hw 132 rfl))) (own_w hw 132 rfl) (own_w hw 131 rfl) (own_w hw 2 rfl) (own_w hw 133 rfl) (rmTA1 l Z a0 hw tt x h0 n0 Z0 cl ck c0 f g ft 0 0 ⟨u803, u804, u805, u806⟩ ⟨u807, u808, u809, u810, u811, u812⟩ ⟨u813, u814, u815, u816⟩ g_cl g_c0 ne_tt_cl ne_tt_ck ne_tt_c0 ne_tt_x ne_cl_ck ne_cl_c0 ne_cl_x ne_ck_c0 ne_ck_x ne_c0_x hf) e821 u803 (g := (mkF m 5 #[.val (.ref a), .val (.ref x), .unset] [(.ref x), (.ref tt)])) rfl (by rw [hml]; rfl) (lenOf own_pd9 rfl) rfl (by show 2 * 0 + _ ≤ _; exact Nat.le_of_eq rfl) (hb hby own_d16_5) (by decide) (by decide) (by decide) (by decide)
  obtain ⟨rfl, N822, K822, B822_0⟩ := hQ822
  have fr822 := Fr.app N0 N822
  clear N0 N822
  have kp822 := kp0.trans K822 (allS (Or.inl (List.mem_of_getElem? (i := 2) rfl)) (allS (Or.inl (List.mem_of_getElem? (i := 3) rfl)) all0))
  clear kp0
  have f823 := u796.keep K822
  clear u796
  have f824 := u797.keep K822 (ninS ne_a_cl (ninS ne_a_c0 nin0))
  clear u797
  have f825 := u798.keep K822 (ninS ne_a_cl (ninS ne_a_c0 nin0))
  clear u798
  have f826 := u799.keep K822 (ninS ne_a_cl (ninS ne_a_c0 nin0))
  clear u799
  have f827 := u800.keep K822 (ninS ne_a_cl (ninS ne_a_c0 nin0))
  clear u800
  have f828 := u801.keep K822 (ninS ne_a_cl (ninS ne_a_c0 nin0))
  clear u801
  have f829 := u802.keep K822 (ninS ne_a_cl (ninS ne_a_c0 nin0))
  clear u802
  have f830 := u803.keep K822
  clear u803
  have f831 := u804.keep K822 (ninS ne_tt_cl (ninS ne_tt_c0 nin0))
  clear u804
  have f832 := u805.keep K822 (ninS ne_tt_cl (ninS ne_tt_c0 nin0))
  clear u805
  have f833 := u806.keep K822 (ninS ne_tt_cl (ninS ne_tt_c0 nin0))
  clear u806
  have f834 := u807.keep K822
  clear u807
  clear u808
  clear u809
  clear u810
  have f838 := u811.keep K822 (ninS (Ne.symm ne_cl_ck) (ninS ne_ck_c0 nin0))
  clear u811
  clear u812
  have f840 := u813.keep K822
  clear u813
  have f841 := u814.keep K822 (ninS (Ne.symm ne_cl_x) (ninS (Ne.symm ne_c0_x) nin0))
  clear u814
  have f842 := u815.keep K822 (ninS (Ne.symm ne_cl_x) (ninS (Ne.symm ne_c0_x) nin0))
  clear u815
  have f843 := u816.keep K822 (ninS (Ne.symm ne_cl_x) (ninS (Ne.symm ne_c0_x) nin0))
  clear u816
  have f844 := u817.keep K822
  clear u817
  have f845 := u818.keep K822 (ninS (Ne.symm ne_cl_y) (ninS (Ne.symm ne_c0_y) nin0))
  clear u818
  have f846 := u819.keep K822 (ninS (Ne.symm ne_cl_y) (ninS (Ne.symm ne_c0_y) nin0))
  clear u819
  have f847 := u820.keep K822 (ninS (Ne.symm ne_cl_y) (ninS (Ne.symm ne_c0_y) nin0))
  clear u820
  have sz822 : n0 ≤ T822.heap.size := Nat.le_trans Z0 K822.1
  clear K822
  obtain ⟨u848, u849, u850, u851, u852, u853⟩ := B822_0
  refine own_st (st822) ?_
  clear st822 X821 e821
  show OFin p e below s _ _ _ (T822.setTop (mkF m 8 #[.val (.ref a), .val (.ref x), .unset] [(.int (2 : Int32))]))
  refine own_st (fun _ kS => XS.istoreN X822.here hx rfl (hb hby own_d16_8) rfl (l' := #[.val (.ref a), .val (.ref x), .val (.int (2 : Int32))]) rfl kS) ?_
  show OFin p e below s _ _ _ (T822.setTop (mkF m 9 #[.val (.ref a), .val (.ref x), .val (.int (2 : Int32))] []))
  refine own_st (fun _ kS => XS.aloadN X822.here hx rfl (hb hby own_d16_9) rfl rfl kS) ?_
  show OFin p e below s _ _ _ (T822.setTop (mkF m 10 #[.val (.ref a), .val (.ref x), .val (.int (2 : Int32))] [(.ref x)]))
  refine own_st (fun _ kS => XS.aloadN X822.here hx rfl (hb hby own_d16_10) rfl rfl kS) ?_
  show OFin p e below s _ _ _ (T822.setTop (mkF m 11 #[.val (.ref a), .val (.ref x), .val (.int (2 : Int32))] [(.ref a), (.ref x)]))
  obtain ⟨T854, X854, e854, st854⟩ := getF X822 hx hZ hown (host := "") (Or.inl (own_w hw 104 rfl)) Via.refl rfl f825 (g := (mkF m 11 #[.val (.ref a), .val (.ref x), .val (.int (2 : Int32))] [(.ref a), (.ref x)])) rfl rfl (hb hby own_d16_11)
  refine own_st (st854) ?_
  clear st854 X822
  show OFin p e below s _ _ _ (T854.setTop (mkF m 14 #[.val (.ref a), .val (.ref x), .val (.int (2 : Int32))] [(.int (1 : Int32)), (.ref x)]))
  obtain ⟨T855, h855, X855, e855, W855, st855⟩ := putF X854 hx hZ hown (host := "") (Or.inl (own_w hw 155 rfl)) Via.refl e854 f842 f840 (Or.inl (own_w hw 156 rfl)) (own_w hw 66 rfl) (ty := .int) (by decide) rfl rfl (g := (mkF m 14 #[.val (.ref a), .val (.ref x), .val (.int (2 : Int32))] [(.int (1 : Int32)), (.ref x)])) rfl rfl (hb hby own_d16_14)
  have f856 := f842.same W855
  have f857 := f823.wr W855
  clear f823
  have f858 := f824.other W855 (Or.inl ne_a_x)
  clear f824
  have f859 := f825.other W855 (Or.inl ne_a_x)
  clear f825
  have f860 := f826.other W855 (Or.inl ne_a_x)
  clear f826
  have f861 := f827.other W855 (Or.inl ne_a_x)
  clear f827
  have f862 := f828.other W855 (Or.inl ne_a_x)
  clear f828
  have f863 := f829.other W855 (Or.inl ne_a_x)
  clear f829
  have f864 := f830.wr W855
  clear f830
  have f865 := f831.other W855 (Or.inl ne_tt_x)
  clear f831
  have f866 := f832.other W855 (Or.inl ne_tt_x)
  clear f832
  have f867 := f833.other W855 (Or.inl ne_tt_x)
  clear f833
  have f868 := u848.wr W855
  clear u848
  have f869 := u852.other W855 ne_ck_x
  clear u852
  have f870 := f840.wr W855
  clear f840
  have f871 := f841.other W855 (Or.inr (slot_ne (Or.inr (own_w hw 77 rfl)) (Or.inl (own_w hw 156 rfl)) (by decide) (t := .long) (t' := .int) (by decide) (by decide)))
  clear f841
  have f873 := f843.other W855 (Or.inr (slot_ne (Or.inl (own_w hw 222 rfl)) (Or.inl (own_w hw 156 rfl)) (by decide) (t := .int) (t' := .int) (by decide) (by decide)))
  clear f843
  have f874 := f844.wr W855
  clear f844
  have f875 := f845.other W855 (Or.inl (Ne.symm ne_x_y))
  clear f845
  have f876 := f846.other W855 (Or.inl (Ne.symm ne_x_y))
  clear f846
  have f877 := f847.other W855 (Or.inl (Ne.symm ne_x_y))
  clear f847
  have f878 := u849.other W855 (Or.inl ne_cl_x)
  clear u849
  have f879 := u850.other W855 (Or.inl ne_cl_x)
  clear u850
  have f880 := u851.other W855 (Or.inl ne_cl_x)
  clear u851
  have f881 := u853.other W855 ne_c0_x
  clear u853
  have sz855 : n0 ≤ h855.size := by rw [W855.size]; exact sz822
  clear sz822
  have fr855 := Fr.snoc X855 fr822 g_x
  clear fr822
  have kp855 := kp822.wr W855 (Or.inl (List.mem_of_getElem? (i := 1) rfl))
  clear kp822
  refine own_st (st855) ?_
  clear st855 X854 e854 W855 f842
  show OFin p e below s _ _ _ (T855.setTop (mkF m 17 #[.val (.ref a), .val (.ref x), .val (.int (2 : Int32))] []))
  refine own_st (fun _ kS => XS.aloadN X855.here hx rfl (hb hby own_d16_17) rfl rfl kS) ?_
  show OFin p e below s _ _ _ (T855.setTop (mkF m 18 #[.val (.ref a), .val (.ref x), .val (.int (2 : Int32))] [(.ref a)]))
  obtain ⟨T882, X882, e882, st882⟩ := getF X855 hx hZ hown (host := "") (Or.inl (own_w hw 104 rfl)) Via.refl e855 f859 (g := (mkF m 18 #[.val (.ref a), .val (.ref x), .val (.int (2 : Int32))] [(.ref a)])) rfl rfl (hb hby own_d16_18)
  refine own_st (st882) ?_
  clear st882 X855 e855
  show OFin p e below s _ _ _ (T882.setTop (mkF m 21 #[.val (.ref a), .val (.ref x), .val (.int (2 : Int32))] [(.int (1 : Int32))]))
  refine own_st (fun _ kS => XS.ifYes X882.here hx rfl (pc0 := 21) (pc' := 32) rfl (hb hby own_d16_21) rfl ((if0 _ _).trans (feq (by decide)).2) (by decide) (by decide) kS) ?_
  show OFin p e below s _ _ _ (T882.setTop (mkF m 32 #[.val (.ref a), .val (.ref x), .val (.int (2 : Int32))] []))
  refine own_st (fun _ kS => XS.aloadN X882.here hx rfl (hb hby own_d16_32) rfl rfl kS) ?_
  show OFin p e below s _ _ _ (T882.setTop (mkF m 33 #[.val (.ref a), .val (.ref x), .val (.int (2 : Int32))] [(.ref a)]))
  obtain ⟨T883, X883, e883, st883⟩ := getF X882 hx hZ hown (host := "") (Or.inl (own_w hw 106 rfl)) Via.refl e882 f860 (g := (mkF m 33 #[.val (.ref a), .val (.ref x), .val (.int (2 : Int32))] [(.ref a)])) rfl rfl (hb hby own_d16_33)
  refine own_st (st883) ?_
  clear st883 X882 e882
  show OFin p e below s _ _ _ (T883.setTop (mkF m 36 #[.val (.ref a), .val (.ref x), .val (.int (2 : Int32))] [(.ref tt)]))
  refine own_st (fun _ kS => XS.aloadN X883.here hx rfl (hb hby own_d16_36) rfl rfl kS) ?_
  show OFin p e below s _ _ _ (T883.setTop (mkF m 37 #[.val (.ref a), .val (.ref x), .val (.int (2 : Int32))] [(.ref a), (.ref tt)]))
  obtain ⟨T884, X884, e884, st884⟩ := getF X883 hx hZ hown (host := "") (Or.inl (own_w hw 104 rfl)) Via.refl e883 f859 (g := (mkF m 37 #[.val (.ref a), .val (.ref x), .val (.int (2 : Int32))] [(.ref a), (.ref tt)])) rfl rfl (hb hby own_d16_37)
  refine own_st (st884) ?_
  clear st884 X883 e883
  show OFin p e below s _ _ _ (T884.setTop (mkF m 40 #[.val (.ref a), .val (.ref x), .val (.int (2 : Int32))] [(.int (1 : Int32)), (.ref tt)]))
  obtain ⟨v885, T885, L885, X885, hQ885, st885⟩ := own_virtual X884 hx hZ (y := (⟨"com/example/epicycle/epicycle/TimeoutTable", "get", "(I)Lcom/example/epicycle/epicycle/Timeout;"⟩ : MethodName)) (z := (⟨"com/example/epicycle/epicycle/TimeoutTable", "get", "(I)Lcom/example/epicycle/epicycle/Timeout;"⟩ : MethodName)) (rm := ⟨3, 0, 0, 40⟩) (W := 0) (a := tt) (argsL := [(.int (1 : Int32))]) (rest := []) hown (own_w hw 177 rfl) (own_w hw 178 rfl) (notFace_of_selects (args := #[]) (mvT hZ (own_w hw 180 rfl))) (own_w hw 180 rfl) (own_w hw 179 rfl) (own_w hw 2 rfl) (own_w hw 181 rfl) (rmTG0 l Z a0 hw tt (1 : Int32) h855 cl ck c0 y 2 f (fun i => if i = 1 then .ref x else g i) ⟨f864, f865, f866, f867⟩ ⟨f868, f878, f879, f880, f869, f881⟩ f874 rfl (by decide) hf hg) e884 f864 (g := (mkF m 40 #[.val (.ref a), .val (.ref x), .val (.int (2 : Int32))] [(.int (1 : Int32)), (.ref tt)])) rfl (by rw [hml]; rfl) (lenOf own_pd10 rfl) rfl (by show 2 * 0 + _ ≤ _; exact Nat.le_of_eq rfl) (hb hby own_d16_40) (by decide) (by decide) (by decide) (by decide)
  obtain ⟨rfl, e885, rfl⟩ := hQ885
  rw [List.append_nil] at X885
  refine own_st (st885) ?_
  clear st885 X884 e884
  show OFin p e below s _ _ _ (T885.setTop (mkF m 43 #[.val (.ref a), .val (.ref x), .val (.int (2 : Int32))] [(.ref y)]))
  refine own_st (fun _ kS => XS.iloadN X885.here hx rfl (hb hby own_d16_43) rfl kS) ?_
  show OFin p e below s _ _ _ (T885.setTop (mkF m 44 #[.val (.ref a), .val (.ref x), .val (.int (2 : Int32))] [(.int (2 : Int32)), (.ref y)]))
  obtain ⟨T886, h886, X886, e886, W886, st886⟩ := putF X885 hx hZ hown (host := "") (Or.inl (own_w hw 221 rfl)) Via.refl e885 f877 f874 (Or.inl (own_w hw 222 rfl)) (own_w hw 66 rfl) (ty := .int) (by decide) rfl rfl (g := (mkF m 44 #[.val (.ref a), .val (.ref x), .val (.int (2 : Int32))] [(.int (2 : Int32)), (.ref y)])) rfl rfl (hb hby own_d16_44)
  have f887 := f877.same W886
  have f888 := f857.wr W886
  clear f857
  have f889 := f858.other W886 (Or.inl ne_a_y)
  clear f858
  have f890 := f859.other W886 (Or.inl ne_a_y)
  clear f859
  have f891 := f860.other W886 (Or.inl ne_a_y)
  clear f860
  have f892 := f861.other W886 (Or.inl ne_a_y)
  clear f861
  have f893 := f862.other W886 (Or.inl ne_a_y)
  clear f862
  have f894 := f863.other W886 (Or.inl ne_a_y)
  clear f863
  have f895 := f864.wr W886
  clear f864
  have f896 := f865.other W886 (Or.inl ne_tt_y)
  clear f865
  have f897 := f866.other W886 (Or.inl ne_tt_y)
  clear f866
  have f898 := f867.other W886 (Or.inl ne_tt_y)
  clear f867
  have f899 := f868.wr W886
  clear f868
  have f900 := f869.other W886 ne_ck_y
  clear f869
  have f901 := f870.wr W886
  clear f870
  have f902 := f871.other W886 (Or.inl ne_x_y)
  clear f871
  have f903 := f856.other W886 (Or.inl ne_x_y)
  clear f856
  have f904 := f873.other W886 (Or.inl ne_x_y)
  clear f873
  have f905 := f874.wr W886
  clear f874
  have f906 := f875.other W886 (Or.inr (slot_ne (Or.inr (own_w hw 77 rfl)) (Or.inl (own_w hw 222 rfl)) (by decide) (t := .long) (t' := .int) (by decide) (by decide)))
  clear f875
  have f907 := f876.other W886 (Or.inr (slot_ne (Or.inl (own_w hw 156 rfl)) (Or.inl (own_w hw 222 rfl)) (by decide) (t := .int) (t' := .int) (by decide) (by decide)))
  clear f876
  have f909 := f878.other W886 (Or.inl ne_cl_y)
  clear f878
  have f910 := f879.other W886 (Or.inl ne_cl_y)
  clear f879
  have f911 := f880.other W886 (Or.inl ne_cl_y)
  clear f880
  have f912 := f881.other W886 ne_c0_y
  clear f881
  have sz886 : n0 ≤ h886.size := by rw [W886.size]; exact sz855
  clear sz855
  have fr886 := Fr.snoc X886 fr855 g_y
  clear fr855
  have kp886 := kp855.wr W886 (Or.inl (List.mem_of_getElem? (i := 4) rfl))
  clear kp855
  refine own_st (st886) ?_
  clear st886 X885 e885 W886 f877
  show OFin p e below s _ _ _ (T886.setTop (mkF m 47 #[.val (.ref a), .val (.ref x), .val (.int (2 : Int32))] []))
  refine own_st (fun _ kS => XS.aloadN X886.here hx rfl (hb hby own_d16_47) rfl rfl kS) ?_
  show OFin p e below s _ _ _ (T886.setTop (mkF m 48 #[.val (.ref a), .val (.ref x), .val (.int (2 : Int32))] [(.ref a)]))
  refine own_st (fun _ kS => XS.iloadN X886.here hx rfl (hb hby own_d16_48) rfl kS) ?_
  show OFin p e below s _ _ _ (T886.setTop (mkF m 49 #[.val (.ref a), .val (.ref x), .val (.int (2 : Int32))] [(.int (2 : Int32)), (.ref a)]))
  obtain ⟨T913, h913, X913, e913, W913, st913⟩ := putF X886 hx hZ hown (host := "") (Or.inl (own_w hw 104 rfl)) Via.refl e886 f890 f888 (Or.inl (own_w hw 105 rfl)) (own_w hw 91 rfl) (ty := .int) (by decide) rfl rfl (g := (mkF m 49 #[.val (.ref a), .val (.ref x), .val (.int (2 : Int32))] [(.int (2 : Int32)), (.ref a)])) rfl rfl (hb hby own_d16_49)
  have f914 := f890.same W913
  have f915 := f888.wr W913
  clear f888
  have f916 := f889.other W913 (Or.inr (slot_ne (Or.inl (own_w hw 103 rfl)) (Or.inl (own_w hw 105 rfl)) (by decide) (t := .int) (t' := .int) (by decide) (by decide)))
  clear f889
  have f918 := f891.other W913 (Or.inr (slot_ne (Or.inr (own_w hw 107 rfl)) (Or.inl (own_w hw 105 rfl)) (by decide) (t := (.object "com/example/epicycle/epicycle/TimeoutTable")) (t' := .int) (by decide) (by decide)))
  clear f891
  have f919 := f892.other W913 (Or.inr (slot_ne (Or.inl (own_w hw 110 rfl)) (Or.inl (own_w hw 105 rfl)) (by decide) (t := .int) (t' := .int) (by decide) (by decide)))
  clear f892
  have f920 := f893.other W913 (Or.inr (slot_ne (Or.inl (own_w hw 122 rfl)) (Or.inl (own_w hw 105 rfl)) (by decide) (t := .long) (t' := .int) (by decide) (by decide)))
  clear f893
  have f921 := f894.other W913 (Or.inr (slot_ne (Or.inl (own_w hw 114 rfl)) (Or.inl (own_w hw 105 rfl)) (by decide) (t := (.object "com/example/epicycle/epicycle/SlotRing")) (t' := .int) (by decide) (by decide)))
  clear f894
  have f922 := f895.wr W913
  clear f895
  have f923 := f896.other W913 (Or.inl (Ne.symm ne_a_tt))
  clear f896
  have f924 := f897.other W913 (Or.inl (Ne.symm ne_a_tt))
  clear f897
  have f925 := f898.other W913 (Or.inl (Ne.symm ne_a_tt))
  clear f898
  have f926 := f899.wr W913
  clear f899
  have f927 := f900.other W913 (Ne.symm ne_a_ck)
  clear f900
  have f928 := f901.wr W913
  clear f901
  have f929 := f902.other W913 (Or.inl (Ne.symm ne_a_x))
  clear f902
  have f930 := f903.other W913 (Or.inl (Ne.symm ne_a_x))
  clear f903
  have f931 := f904.other W913 (Or.inl (Ne.symm ne_a_x))
  clear f904
  have f932 := f905.wr W913
  clear f905
  have f933 := f906.other W913 (Or.inl (Ne.symm ne_a_y))
  clear f906
  have f934 := f907.other W913 (Or.inl (Ne.symm ne_a_y))
  clear f907
  have f935 := f887.other W913 (Or.inl (Ne.symm ne_a_y))
  clear f887
  have f936 := f909.other W913 (Or.inl (Ne.symm ne_a_cl))
  clear f909
  have f937 := f910.other W913 (Or.inl (Ne.symm ne_a_cl))
  clear f910
  have f938 := f911.other W913 (Or.inl (Ne.symm ne_a_cl))
  clear f911
  have f939 := f912.other W913 (Ne.symm ne_a_c0)
  clear f912
  have sz913 : n0 ≤ h913.size := by rw [W913.size]; exact sz886
  clear sz886
  have fr913 := Fr.snoc X913 fr886 g_a
  clear fr886
  have kp913 := kp886.wr W913 (Or.inl (List.mem_of_getElem? (i := 0) rfl))
  clear kp886
  refine own_st (st913) ?_
  clear st913 X886 e886 W913 f890
  show OFin p e below s _ _ _ (T913.setTop (mkF m 52 #[.val (.ref a), .val (.ref x), .val (.int (2 : Int32))] []))
  exact own_retV X913 hx hret hlk (hb hby own_d16_52) (by decide) (by decide) (by show _ ∧ _ ∧ Keep h0 T913.heap [a, x, cl, c0, y] ∧ _; rw [e913]; exact ⟨rfl, fr913, kp913, ⟨f915, f916, f914, f918, f919, f920, f921⟩, ⟨f926, f936, f937, f938, f927, f939⟩, ⟨f928, f929, f930, f931⟩, ⟨f932, f933, f934, f935⟩⟩)
def own_bit (d : Int32) : Int64 := (1 : Int64) <<< (d &&& 0x3f).toInt64
theorem own_cl {j : Int32} {i : Nat} (h : j.toInt = i) : ¬ j < 0 ∧ j.toNatClampNeg = i := by
  constructor
  · rw [Int32.lt_iff_toInt_lt, h]; show ¬ (i : Int) < 0; omega
  · simp only [Int32.toNatClampNeg, h]; omega
set_option maxRecDepth 65536 in
set_option maxHeartbeats 40000000 in
theorem rmAD0 (l : Launch) (Z : State) (a0 : Array Value) (hw : ∀ d ∈ tables_1, d.before a0 Z = true) (a : Addr) (x : Addr) (h0 : Heap) (n0 : Nat) (Z0 : n0 ≤ h0.size) (sa tt cl ck : Addr) (lv d : Int32) (dn : Nat) (oc ft : Int64) (fs : Nat → Value)  (B_OSR0 : OSR Z h0 a sa tt lv oc fs) (B_OTT1 : OTT Z h0 tt cl) (B_OCL02 : OCL0 Z h0 cl ck) (B_OTO3 : OTO Z h0 x ft (0 : Int32) (0 : Int32)) (g_a : n0 ≤ a) (g_sa : n0 ≤ sa) (g_x : n0 ≤ x) (g_cl : n0 ≤ cl) (g_ck : n0 ≤ ck) (ne_a_sa : a ≠ sa) (ne_a_tt : a ≠ tt) (ne_a_cl : a ≠ cl) (ne_a_ck : a ≠ ck) (ne_a_x : a ≠ x) (ne_sa_tt : sa ≠ tt) (ne_sa_cl : sa ≠ cl) (ne_sa_ck : sa ≠ ck) (ne_sa_x : sa ≠ x) (ne_tt_cl : tt ≠ cl) (ne_tt_ck : tt ≠ ck) (ne_tt_x : tt ≠ x) (ne_cl_ck : cl ≠ ck) (ne_cl_x : cl ≠ x) (ne_ck_x : ck ≠ x) (hd : own_dig ft lv = d) (hdn : d.toInt = dn) (hd64 : dn < 64) (hs : fs dn = .null)  :
    OMet l Z (⟨"com/example/epicycle/epicycle/SlotRing", "add", "(Lcom/example/epicycle/epicycle/Timeout;)V"⟩ : MethodName) prog_7_method_5_code 4 none (⟨5, 2, 1031, 67⟩ : Room) #[(.ref a), (.ref x)] h0 (fun v h L => v = none ∧ Fr n0 L ∧ Keep h0 h [a, sa, x, cl, ck] ∧ ∃ sl, h0.size ≤ sl ∧ ∃ c0, h0.size ≤ c0 ∧ sl ≠ c0 ∧ OSR Z h a sa tt lv (oc ||| own_bit d) (fun i => if i = dn then .ref sl else fs i) ∧ OSL Z h sl tt (1 : Int32) (1 : Int32) (1 : Int32) ft ∧ OCL1 Z h cl ck c0 (1 : Int32) (fun i => if i = 0 then .ref c0 else .null) (fun i => if i = 0 then .ref x else .null) ∧ OTO Z h x ft (0 : Int32) 0) := by
  refine own_enter own_pn10 ?_
  intro p e s m below meth c T0 X0 hC e0
  obtain ⟨hx, hZ, hby, hml, hown, hret, hlk, hnm⟩ := hC
  have hown : s.vm.findClass "com/example/epicycle/epicycle/SlotRing" = some m.cls := hown
  refine own_at (own_ef10_RR m a x) ?_
  show OFin p e below s _ _ _ (T0.setTop (mkF m 0 #[.val (.ref a), .val (.ref x), .unset, .unset] []))
  have N0 := Fr.nil n0
  have kp0 := Keep.refl h0 [a, sa, x, cl, ck]
  obtain ⟨u940, u941, u942, u943, u944, u945⟩ := B_OSR0
  obtain ⟨u946, u947, u948, u949⟩ := B_OTT1
  obtain ⟨u950, u951, u952, u953, u954⟩ := B_OCL02
  obtain ⟨u955, u956, u957, u958⟩ := B_OTO3
  obtain ⟨q0, q1⟩ := own_cl hdn
  refine own_st (fun _ kS => XS.aloadN X0.here hx rfl (hb hby own_d10_0) rfl rfl kS) ?_
  show OFin p e below s _ _ _ (T0.setTop (mkF m 1 #[.val (.ref a), .val (.ref x), .unset, .unset] [(.ref x)]))
  obtain ⟨v959, T959, L959, X959, hQ959, st959⟩ := own_virtual X0 hx hZ (y := (⟨"com/example/epicycle/epicycle/Timeout", "fireTick", "()J"⟩ : MethodName)) (z := (⟨"com/example/epicycle/epicycle/Timeout", "fireTick", "()J"⟩ : MethodName)) (rm := ⟨0, 0, 0, 0⟩) (W := 0) (a := x) (argsL := []) (rest := []) hown (own_w hw 83 rfl) (own_w hw 84 rfl) (notFace_of_selects (args := #[]) (mvT hZ (own_w hw 86 rfl))) (own_w hw 86 rfl) (own_w hw 85 rfl) (own_w hw 67 rfl) (own_w hw 87 rfl) (rmFT l Z a0 hw x h0 ft 0 0 ⟨u955, u956, u957, u958⟩) e0 u955 (g := (mkF m 1 #[.val (.ref a), .val (.ref x), .unset, .unset] [(.ref x)])) rfl (by rw [hml]; rfl) (lenOf own_pd11 rfl) rfl (by show 2 * 0 + _ ≤ _; exact Nat.le_of_eq rfl) (hb hby own_d10_1) (by decide) (by decide) (by decide) (by decide)
  obtain ⟨rfl, e959, rfl⟩ := hQ959
  rw [List.append_nil] at X959
  refine own_st (st959) ?_
  clear st959 X0 e0
  show OFin p e below s _ _ _ (T959.setTop (mkF m 4 #[.val (.ref a), .val (.ref x), .unset, .unset] [(.long ft)]))
  refine own_st (fun _ kS => XS.aloadN X959.here hx rfl (hb hby own_d10_4) rfl rfl kS) ?_
  show OFin p e below s _ _ _ (T959.setTop (mkF m 5 #[.val (.ref a), .val (.ref x), .unset, .unset] [(.ref a), (.long ft)]))
  obtain ⟨T960, X960, e960, st960⟩ := getF X959 hx hZ hown (host := "") (Or.inl (own_w hw 61 rfl)) Via.refl e959 u942 (g := (mkF m 5 #[.val (.ref a), .val (.ref x), .unset, .unset] [(.ref a), (.long ft)])) rfl rfl (hb hby own_d10_5)
  refine own_st (st960) ?_
  clear st960 X959 e959
  show OFin p e below s _ _ _ (T960.setTop (mkF m 8 #[.val (.ref a), .val (.ref x), .unset, .unset] [(.int lv), (.long ft)]))
  obtain ⟨v961, T961, L961, X961, hQ961, st961⟩ := own_static X960 hx hZ (y := (⟨"com/example/epicycle/epicycle/SlotRing", "digit", "(JI)I"⟩ : MethodName)) (rm := ⟨0, 0, 0, 0⟩) (W := 0) (argsL := [(.long ft), (.int lv)]) (rest := []) hown (own_w hw 88 rfl) (own_w hw 89 rfl) (own_w hw 52 rfl) (own_w hw 90 rfl) (rmDG l Z a0 hw ft lv h0) e960 (g := (mkF m 8 #[.val (.ref a), .val (.ref x), .unset, .unset] [(.int lv), (.long ft)])) rfl (by rw [hml]; rfl) (lenOf own_pd12 rfl) rfl (by show 2 * 0 + _ ≤ _; exact Nat.le_of_eq rfl) (hb hby own_d10_8) (by decide) (by decide) (by decide) (by decide)
  obtain ⟨rfl, e961, rfl⟩ := hQ961
  rw [List.append_nil] at X961
  refine own_st (st961) ?_
  clear st961 X960 e960
  show OFin p e below s _ _ _ (T961.setTop (mkF m 11 #[.val (.ref a), .val (.ref x), .unset, .unset] [(.int (own_dig ft lv))]))
  rw [hd]
  show OFin p e below s _ _ _ (T961.setTop (mkF m 11 #[.val (.ref a), .val (.ref x), .unset, .unset] [(.int d)]))
  refine own_st (fun _ kS => XS.istoreN X961.here hx rfl (hb hby own_d10_11) rfl (l' := #[.val (.ref a), .val (.ref x), .val (.int d), .unset]) rfl kS) ?_
  show OFin p e below s _ _ _ (T961.setTop (mkF m 12 #[.val (.ref a), .val (.ref x), .val (.int d), .unset] []))
  refine own_st (fun _ kS => XS.aloadN X961.here hx rfl (hb hby own_d10_12) rfl rfl kS) ?_
  show OFin p e below s _ _ _ (T961.setTop (mkF m 13 #[.val (.ref a), .val (.ref x), .val (.int d), .unset] [(.ref a)]))
  obtain ⟨T962, X962, e962, st962⟩ := getF X961 hx hZ hown (host := "") (Or.inl (own_w hw 59 rfl)) Via.refl e961 u941 (g := (mkF m 13 #[.val (.ref a), .val (.ref x), .val (.int d), .unset] [(.ref a)])) rfl rfl (hb hby own_d10_13)
  refine own_st (st962) ?_
  clear st962 X961 e961
  show OFin p e below s _ _ _ (T962.setTop (mkF m 16 #[.val (.ref a), .val (.ref x), .val (.int d), .unset] [(.ref sa)]))
  refine own_st (fun _ kS => XS.iloadN X962.here hx rfl (hb hby own_d10_16) rfl kS) ?_
  show OFin p e below s _ _ _ (T962.setTop (mkF m 17 #[.val (.ref a), .val (.ref x), .val (.int d), .unset] [(.int d), (.ref sa)]))
  obtain ⟨cl963, Ar963, S963, B963, H963, O963⟩ := id u945
  refine own_st (X962.aaload hx (j := d) (v := .null) (by rw [e962]; exact Ar963.1) (State.isArrayOf_alike hZ.alike Ar963.2.1) rfl Ar963.2.2 (own_inb S963 q0 q1 hd64) ((own_hv H963 q1 hd64).trans (congrArg some (hs))) (g := (mkF m 17 #[.val (.ref a), .val (.ref x), .val (.int d), .unset] [(.int d), (.ref sa)])) rfl rfl (hb hby own_d10_17)) ?_
  clear Ar963 S963 B963 H963 O963
  show OFin p e below s _ _ _ (T962.setTop (mkF m 18 #[.val (.ref a), .val (.ref x), .val (.int d), .unset] [.null]))
  refine own_st (fun _ kS => XS.astoreN X962.here hx rfl (hb hby own_d10_18) rfl rfl (l' := #[.val (.ref a), .val (.ref x), .val (.int d), .val .null]) rfl kS) ?_
  show OFin p e below s _ _ _ (T962.setTop (mkF m 19 #[.val (.ref a), .val (.ref x), .val (.int d), .val .null] []))
  refine own_st (fun _ kS => XS.aloadN X962.here hx rfl (hb hby own_d10_19) rfl rfl kS) ?_
  show OFin p e below s _ _ _ (T962.setTop (mkF m 20 #[.val (.ref a), .val (.ref x), .val (.int d), .val .null] [.null]))
  refine own_st (fun _ kS => XS.ifnonnullNo X962.here hx rfl (hb hby own_d10_20) rfl kS) ?_
  show OFin p e below s _ _ _ (T962.setTop (mkF m 23 #[.val (.ref a), .val (.ref x), .val (.int d), .val .null] []))
  obtain ⟨T964, h964, X964, e964, E964, A964, D964, -, st964⟩ := newO X962 hx hZ hown (own_w hw 57 rfl) (own_w hw 91 rfl) (own_w hw 92 rfl) e962 (g := (mkF m 23 #[.val (.ref a), .val (.ref x), .val (.int d), .val .null] [])) rfl (hb hby own_d10_23) (by decide) (by decide)
  obtain ⟨sl, g964⟩ : ∃ z, z = h0.size := ⟨_, rfl⟩
  rw [← g964] at A964 D964 st964
  have ne_a_sl : a ≠ sl := Nat.ne_of_lt (Nat.lt_of_lt_of_le u940.lt (Nat.le_of_eq g964.symm))
  have ne_ck_sl : ck ≠ sl := Nat.ne_of_lt (Nat.lt_of_lt_of_le u954.lt (Nat.le_of_eq g964.symm))
  have ne_cl_sl : cl ≠ sl := Nat.ne_of_lt (Nat.lt_of_lt_of_le u950.lt (Nat.le_of_eq g964.symm))
  have ne_sa_sl : sa ≠ sl := Nat.ne_of_lt (Nat.lt_of_lt_of_le u945.lt (Nat.le_of_eq g964.symm))
  have ne_tt_sl : tt ≠ sl := Nat.ne_of_lt (Nat.lt_of_lt_of_le u946.lt (Nat.le_of_eq g964.symm))
  have ne_x_sl : x ≠ sl := Nat.ne_of_lt (Nat.lt_of_lt_of_le u955.lt (Nat.le_of_eq g964.symm))
  have g_sl : n0 ≤ sl := Nat.le_trans Z0 (Nat.le_of_eq g964.symm)
  have f965 := u940.ext E964
  clear u940
  have f966 := u941.ext E964
  clear u941
  have f967 := u942.ext E964
  clear u942
  have f968 := u943.ext E964
  clear u943
  have f969 := u944.ext E964
  clear u944
  have f970 := u945.ext E964
  clear u945
  have f971 := u946.ext E964
  clear u946
  have f972 := u947.ext E964
  clear u947
  have f973 := u948.ext E964
  clear u948
  have f974 := u949.ext E964
  clear u949
  have f975 := u950.ext E964
  clear u950
  have f976 := u951.ext E964
  clear u951
  have f977 := u952.ext E964
  clear u952
  have f978 := u953.ext E964
  clear u953
  have f979 := u954.ext E964
  clear u954
  have f980 := u955.ext E964
  clear u955
  have f981 := u956.ext E964
  clear u956
  have f982 := u957.ext E964
  clear u957
  have f983 := u958.ext E964
  clear u958
  have f984 : Fld Z h964 sl "com/example/epicycle/epicycle/TimeoutList" "head" "I" (.int (0 : Int32)) := D964 (Or.inl (own_w hw 103 rfl)) (ty := .int) (by decide)
  have f985 : Fld Z h964 sl "com/example/epicycle/epicycle/TimeoutList" "tail" "I" (.int (0 : Int32)) := D964 (Or.inl (own_w hw 105 rfl)) (ty := .int) (by decide)
  have f986 : Fld Z h964 sl "com/example/epicycle/epicycle/TimeoutList" "table" "Lcom/example/epicycle/epicycle/TimeoutTable;" .null := D964 (Or.inr (own_w hw 107 rfl)) (ty := (.object "com/example/epicycle/epicycle/TimeoutTable")) (by decide)
  have f987 : Fld Z h964 sl "com/example/epicycle/epicycle/SlotRing$Slot" "count" "I" (.int (0 : Int32)) := D964 (Or.inl (own_w hw 110 rfl)) (ty := .int) (by decide)
  have f988 : Fld Z h964 sl "com/example/epicycle/epicycle/SlotRing$Slot" "nested" "Lcom/example/epicycle/epicycle/SlotRing;" .null := D964 (Or.inl (own_w hw 114 rfl)) (ty := (.object "com/example/epicycle/epicycle/SlotRing")) (by decide)
  have f989 : Fld Z h964 sl "com/example/epicycle/epicycle/SlotRing$Slot" "earliest" "J" (.long (0 : Int64)) := D964 (Or.inl (own_w hw 122 rfl)) (ty := .long) (by decide)
  have sz964 : n0 ≤ h964.size := Nat.le_trans Z0 E964.1
  have kp964 := kp0.ext E964
  have kz_sl := Nat.le_trans kp0.1 (Nat.le_of_eq g964.symm)
  clear kp0
  refine own_st (st964) ?_
  clear st964 X962 e962 E964 D964 g964
  show OFin p e below s _ _ _ (T964.setTop (mkF m 26 #[.val (.ref a), .val (.ref x), .val (.int d), .val .null] [(.ref sl)]))
  refine own_st (fun _ kS => XS.dup X964.here hx rfl (hb hby own_d10_26) rfl rfl kS) ?_
  show OFin p e below s _ _ _ (T964.setTop (mkF m 27 #[.val (.ref a), .val (.ref x), .val (.int d), .val .null] [(.ref sl), (.ref sl)]))
  refine own_st (fun _ kS => XS.aloadN X964.here hx rfl (hb hby own_d10_27) rfl rfl kS) ?_
  show OFin p e below s _ _ _ (T964.setTop (mkF m 28 #[.val (.ref a), .val (.ref x), .val (.int d), .val .null] [(.ref a), (.ref sl), (.ref sl)]))
  obtain ⟨T990, X990, e990, st990⟩ := getF X964 hx hZ hown (host := "") (Or.inl (own_w hw 63 rfl)) Via.refl e964 f968 (g := (mkF m 28 #[.val (.ref a), .val (.ref x), .val (.int d), .val .null] [(.ref a), (.ref sl), (.ref sl)])) rfl rfl (hb hby own_d10_28)
  refine own_st (st990) ?_
  clear st990 X964 e964
  show OFin p e below s _ _ _ (T990.setTop (mkF m 31 #[.val (.ref a), .val (.ref x), .val (.int d), .val .null] [(.ref tt), (.ref sl), (.ref sl)]))
  obtain ⟨v991, T991, L991, X991, hQ991, st991⟩ := own_init X990 hx hZ (y := (⟨"com/example/epicycle/epicycle/SlotRing$Slot", "<init>", "(Lcom/example/epicycle/epicycle/TimeoutTable;)V"⟩ : MethodName)) (rm := ⟨2, 0, 0, 25⟩) (W := 1) (a := sl) (argsL := [(.ref tt)]) (rest := [(.ref sl)]) rfl hown (own_w hw 93 rfl) (own_w hw 94 rfl) (own_w hw 92 rfl) (own_w hw 95 rfl) (rmSL l Z a0 hw sl tt h964 n0 sz964 ⟨A964, f984, f985, f986, f987, f989, f988⟩ g_sl) e990 (g := (mkF m 31 #[.val (.ref a), .val (.ref x), .val (.int d), .val .null] [(.ref tt), (.ref sl), (.ref sl)])) rfl (by rw [hml]; rfl) (lenOf own_pd3 rfl) rfl (by show 2 * 0 + _ ≤ _; exact Nat.le_of_eq rfl) (hb hby own_d10_31) (by decide) (by decide) (by decide) (by decide)
  obtain ⟨rfl, N991, K991, B991_0⟩ := hQ991
  have fr991 := Fr.app N0 N991
  clear N0 N991
  have kp991 := kp964.trans K991 (allS (Or.inr kz_sl) all0)
  clear kp964
  have f992 := f965.keep K991
  clear f965
  have f993 := f966.keep K991 (ninS ne_a_sl nin0)
  clear f966
  have f994 := f967.keep K991 (ninS ne_a_sl nin0)
  clear f967
  have f995 := f968.keep K991 (ninS ne_a_sl nin0)
  clear f968
  have f996 := f969.keep K991 (ninS ne_a_sl nin0)
  clear f969
  have f997 := f970.keep K991 (ninS ne_sa_sl nin0)
  clear f970
  have f998 := f971.keep K991
  clear f971
  have f999 := f972.keep K991 (ninS ne_tt_sl nin0)
  clear f972
  have f1000 := f973.keep K991 (ninS ne_tt_sl nin0)
  clear f973
  have f1001 := f974.keep K991 (ninS ne_tt_sl nin0)
  clear f974
  have f1002 := f975.keep K991
  clear f975
  have f1003 := f976.keep K991 (ninS ne_cl_sl nin0)
  clear f976
  have f1004 := f977.keep K991 (ninS ne_cl_sl nin0)
  clear f977
  have f1005 := f978.keep K991 (ninS ne_cl_sl nin0)
  clear f978
  have f1006 := f979.keep K991 (ninS ne_ck_sl nin0)
  clear f979
  have f1007 := f980.keep K991
  clear f980
  have f1008 := f981.keep K991 (ninS ne_x_sl nin0)
  clear f981
  have f1009 := f982.keep K991 (ninS ne_x_sl nin0)
  clear f982
  have f1010 := f983.keep K991 (ninS ne_x_sl nin0)
  clear f983
  have f1011 := A964.keep K991
  clear f984
  clear f985
  clear f986
  clear f987
  clear f988
  clear f989
  have sz991 : n0 ≤ T991.heap.size := Nat.le_trans sz964 K991.1
  clear sz964
  clear K991
  obtain ⟨u1018, u1019, u1020, u1021, u1022, u1023, u1024⟩ := B991_0
  refine own_st (st991) ?_
  clear st991 X990 e990
  show OFin p e below s _ _ _ (T991.setTop (mkF m 34 #[.val (.ref a), .val (.ref x), .val (.int d), .val .null] [(.ref sl)]))
  refine own_st (fun _ kS => XS.astoreN X991.here hx rfl (hb hby own_d10_34) rfl rfl (l' := #[.val (.ref a), .val (.ref x), .val (.int d), .val (.ref sl)]) rfl kS) ?_
  show OFin p e below s _ _ _ (T991.setTop (mkF m 35 #[.val (.ref a), .val (.ref x), .val (.int d), .val (.ref sl)] []))
  refine own_st (fun _ kS => XS.aloadN X991.here hx rfl (hb hby own_d10_35) rfl rfl kS) ?_
  show OFin p e below s _ _ _ (T991.setTop (mkF m 36 #[.val (.ref a), .val (.ref x), .val (.int d), .val (.ref sl)] [(.ref a)]))
  obtain ⟨T1025, X1025, e1025, st1025⟩ := getF X991 hx hZ hown (host := "") (Or.inl (own_w hw 59 rfl)) Via.refl rfl f993 (g := (mkF m 36 #[.val (.ref a), .val (.ref x), .val (.int d), .val (.ref sl)] [(.ref a)])) rfl rfl (hb hby own_d10_36)
  refine own_st (st1025) ?_
  clear st1025 X991
  show OFin p e below s _ _ _ (T1025.setTop (mkF m 39 #[.val (.ref a), .val (.ref x), .val (.int d), .val (.ref sl)] [(.ref sa)]))
  refine own_st (fun _ kS => XS.iloadN X1025.here hx rfl (hb hby own_d10_39) rfl kS) ?_
  show OFin p e below s _ _ _ (T1025.setTop (mkF m 40 #[.val (.ref a), .val (.ref x), .val (.int d), .val (.ref sl)] [(.int d), (.ref sa)]))
  refine own_st (fun _ kS => XS.aloadN X1025.here hx rfl (hb hby own_d10_40) rfl rfl kS) ?_
  show OFin p e below s _ _ _ (T1025.setTop (mkF m 41 #[.val (.ref a), .val (.ref x), .val (.int d), .val (.ref sl)] [(.ref sl), (.int d), (.ref sa)]))
  obtain ⟨cl1026, Ar1026, S1026, B1026, H1026, O1026⟩ := id f997
  obtain ⟨T1026, h1026, X1026, e1026, W1026, st1026⟩ := stR X1025 hx hZ e1025 Ar1026 (j := d) (own_inb S1026 q0 q1 hd64) rfl (own_sto Ar1026 O1026 (Ins.self u1018)) (g := (mkF m 41 #[.val (.ref a), .val (.ref x), .val (.int d), .val (.ref sl)] [(.ref sl), (.int d), (.ref sa)])) rfl rfl (hb hby own_d10_41)
  have V1026 := own_wrj W1026 q1
  have f1027 := (f997).set V1026
  have f1028 := f992.wr W1026
  clear f992
  have f1029 := f993.other W1026 (Or.inl ne_a_sa)
  clear f993
  have f1030 := f994.other W1026 (Or.inl ne_a_sa)
  clear f994
  have f1031 := f995.other W1026 (Or.inl ne_a_sa)
  clear f995
  have f1032 := f996.other W1026 (Or.inl ne_a_sa)
  clear f996
  have f1034 := f998.wr W1026
  clear f998
  have f1035 := f999.other W1026 (Or.inl (Ne.symm ne_sa_tt))
  clear f999
  have f1036 := f1000.other W1026 (Or.inl (Ne.symm ne_sa_tt))
  clear f1000
  have f1037 := f1001.other W1026 (Or.inl (Ne.symm ne_sa_tt))
  clear f1001
  have f1038 := f1002.wr W1026
  clear f1002
  have f1039 := f1003.other W1026 (Or.inl (Ne.symm ne_sa_cl))
  clear f1003
  have f1040 := f1004.other W1026 (Or.inl (Ne.symm ne_sa_cl))
  clear f1004
  have f1041 := f1005.other W1026 (Or.inl (Ne.symm ne_sa_cl))
  clear f1005
  have f1042 := f1006.other W1026 (Ne.symm ne_sa_ck)
  clear f1006
  have f1043 := f1007.wr W1026
  clear f1007
  have f1044 := f1008.other W1026 (Or.inl (Ne.symm ne_sa_x))
  clear f1008
  have f1045 := f1009.other W1026 (Or.inl (Ne.symm ne_sa_x))
  clear f1009
  have f1046 := f1010.other W1026 (Or.inl (Ne.symm ne_sa_x))
  clear f1010
  have f1047 := u1018.wr W1026
  clear u1018
  have f1048 := u1019.other W1026 (Or.inl (Ne.symm ne_sa_sl))
  clear u1019
  have f1049 := u1020.other W1026 (Or.inl (Ne.symm ne_sa_sl))
  clear u1020
  have f1050 := u1021.other W1026 (Or.inl (Ne.symm ne_sa_sl))
  clear u1021
  have f1051 := u1022.other W1026 (Or.inl (Ne.symm ne_sa_sl))
  clear u1022
  have f1052 := u1023.other W1026 (Or.inl (Ne.symm ne_sa_sl))
  clear u1023
  have f1053 := u1024.other W1026 (Or.inl (Ne.symm ne_sa_sl))
  clear u1024
  have sz1026 : n0 ≤ h1026.size := by rw [W1026.size]; exact sz991
  clear sz991
  have fr1026 := Fr.snoc X1026 fr991 g_sa
  clear fr991
  have kp1026 := kp991.wr W1026 (Or.inl (List.mem_of_getElem? (i := 1) rfl))
  clear kp991
  refine own_st (st1026) ?_
  clear st1026 X1025 e1025 W1026 V1026 Ar1026 S1026 B1026 H1026 O1026 f997
  show OFin p e below s _ _ _ (T1026.setTop (mkF m 42 #[.val (.ref a), .val (.ref x), .val (.int d), .val (.ref sl)] []))
  refine own_st (fun _ kS => XS.aloadN X1026.here hx rfl (hb hby own_d10_42) rfl rfl kS) ?_
  show OFin p e below s _ _ _ (T1026.setTop (mkF m 43 #[.val (.ref a), .val (.ref x), .val (.int d), .val (.ref sl)] [(.ref sl)]))
  refine own_st (fun _ kS => XS.dup X1026.here hx rfl (hb hby own_d10_43) rfl rfl kS) ?_
  show OFin p e below s _ _ _ (T1026.setTop (mkF m 44 #[.val (.ref a), .val (.ref x), .val (.int d), .val (.ref sl)] [(.ref sl), (.ref sl)]))
  obtain ⟨T1054, X1054, e1054, st1054⟩ := getF X1026 hx hZ hown (host := "") (Or.inl (own_w hw 109 rfl)) Via.refl e1026 f1051 (g := (mkF m 44 #[.val (.ref a), .val (.ref x), .val (.int d), .val (.ref sl)] [(.ref sl), (.ref sl)])) rfl rfl (hb hby own_d10_44)
  refine own_st (st1054) ?_
  clear st1054 X1026 e1026
  show OFin p e below s _ _ _ (T1054.setTop (mkF m 47 #[.val (.ref a), .val (.ref x), .val (.int d), .val (.ref sl)] [(.int (0 : Int32)), (.ref sl)]))
  refine own_st (fun _ kS => XS.iconst X1054.here hx rfl (hb hby own_d10_47) kS) ?_
  show OFin p e below s _ _ _ (T1054.setTop (mkF m 48 #[.val (.ref a), .val (.ref x), .val (.int d), .val (.ref sl)] [(.int (1 : Int32)), (.int (0 : Int32)), (.ref sl)]))
  refine own_st (fun _ kS => XS.iadd X1054.here hx rfl (hb hby own_d10_48) rfl kS) ?_
  show OFin p e below s _ _ _ (T1054.setTop (mkF m 49 #[.val (.ref a), .val (.ref x), .val (.int d), .val (.ref sl)] [(.int ((0 : Int32) + (1 : Int32))), (.ref sl)]))
  rw [show (((0 : Int32) + (1 : Int32))) = (1 : Int32) from by decide]
  show OFin p e below s _ _ _ (T1054.setTop (mkF m 49 #[.val (.ref a), .val (.ref x), .val (.int d), .val (.ref sl)] [(.int (1 : Int32)), (.ref sl)]))
  obtain ⟨T1055, h1055, X1055, e1055, W1055, st1055⟩ := putF X1054 hx hZ hown (host := "") (Or.inl (own_w hw 109 rfl)) Via.refl e1054 f1051 f1047 (Or.inl (own_w hw 110 rfl)) (own_w hw 91 rfl) (ty := .int) (by decide) rfl rfl (g := (mkF m 49 #[.val (.ref a), .val (.ref x), .val (.int d), .val (.ref sl)] [(.int (1 : Int32)), (.ref sl)])) rfl rfl (hb hby own_d10_49)
  have f1056 := f1051.same W1055
  have f1057 := f1028.wr W1055
  clear f1028
  have f1058 := f1029.other W1055 (Or.inl ne_a_sl)
  clear f1029
  have f1059 := f1030.other W1055 (Or.inl ne_a_sl)
  clear f1030
  have f1060 := f1031.other W1055 (Or.inl ne_a_sl)
  clear f1031
  have f1061 := f1032.other W1055 (Or.inl ne_a_sl)
  clear f1032
  have f1062 := f1027.other W1055 ne_sa_sl
  clear f1027
  have f1063 := f1034.wr W1055
  clear f1034
  have f1064 := f1035.other W1055 (Or.inl ne_tt_sl)
  clear f1035
  have f1065 := f1036.other W1055 (Or.inl ne_tt_sl)
  clear f1036
  have f1066 := f1037.other W1055 (Or.inl ne_tt_sl)
  clear f1037
  have f1067 := f1038.wr W1055
  clear f1038
  have f1068 := f1039.other W1055 (Or.inl ne_cl_sl)
  clear f1039
  have f1069 := f1040.other W1055 (Or.inl ne_cl_sl)
  clear f1040
  have f1070 := f1041.other W1055 (Or.inl ne_cl_sl)
  clear f1041
  have f1071 := f1042.other W1055 ne_ck_sl
  clear f1042
  have f1072 := f1043.wr W1055
  clear f1043
  have f1073 := f1044.other W1055 (Or.inl ne_x_sl)
  clear f1044
  have f1074 := f1045.other W1055 (Or.inl ne_x_sl)
  clear f1045
  have f1075 := f1046.other W1055 (Or.inl ne_x_sl)
  clear f1046
  have f1076 := f1047.wr W1055
  clear f1047
  have f1077 := f1048.other W1055 (Or.inr (slot_ne (Or.inl (own_w hw 103 rfl)) (Or.inl (own_w hw 110 rfl)) (by decide) (t := .int) (t' := .int) (by decide) (by decide)))
  clear f1048
  have f1078 := f1049.other W1055 (Or.inr (slot_ne (Or.inl (own_w hw 105 rfl)) (Or.inl (own_w hw 110 rfl)) (by decide) (t := .int) (t' := .int) (by decide) (by decide)))
  clear f1049
  have f1079 := f1050.other W1055 (Or.inr (slot_ne (Or.inr (own_w hw 107 rfl)) (Or.inl (own_w hw 110 rfl)) (by decide) (t := (.object "com/example/epicycle/epicycle/TimeoutTable")) (t' := .int) (by decide) (by decide)))
  clear f1050
  have f1081 := f1052.other W1055 (Or.inr (slot_ne (Or.inl (own_w hw 122 rfl)) (Or.inl (own_w hw 110 rfl)) (by decide) (t := .long) (t' := .int) (by decide) (by decide)))
  clear f1052
  have f1082 := f1053.other W1055 (Or.inr (slot_ne (Or.inl (own_w hw 114 rfl)) (Or.inl (own_w hw 110 rfl)) (by decide) (t := (.object "com/example/epicycle/epicycle/SlotRing")) (t' := .int) (by decide) (by decide)))
  clear f1053
  have sz1055 : n0 ≤ h1055.size := by rw [W1055.size]; exact sz1026
  clear sz1026
  have fr1055 := Fr.snoc X1055 fr1026 g_sl
  clear fr1026
  have kp1055 := kp1026.wr W1055 (Or.inr kz_sl)
  clear kp1026
  refine own_st (st1055) ?_
  clear st1055 X1054 e1054 W1055 f1051
  show OFin p e below s _ _ _ (T1055.setTop (mkF m 52 #[.val (.ref a), .val (.ref x), .val (.int d), .val (.ref sl)] []))
  refine own_st (fun _ kS => XS.aloadN X1055.here hx rfl (hb hby own_d10_52) rfl rfl kS) ?_
  show OFin p e below s _ _ _ (T1055.setTop (mkF m 53 #[.val (.ref a), .val (.ref x), .val (.int d), .val (.ref sl)] [(.ref a)]))
  refine own_st (fun _ kS => XS.dup X1055.here hx rfl (hb hby own_d10_53) rfl rfl kS) ?_
  show OFin p e below s _ _ _ (T1055.setTop (mkF m 54 #[.val (.ref a), .val (.ref x), .val (.int d), .val (.ref sl)] [(.ref a), (.ref a)]))
  obtain ⟨T1083, X1083, e1083, st1083⟩ := getF X1055 hx hZ hown (host := "") (Or.inl (own_w hw 111 rfl)) Via.refl e1055 f1061 (g := (mkF m 54 #[.val (.ref a), .val (.ref x), .val (.int d), .val (.ref sl)] [(.ref a), (.ref a)])) rfl rfl (hb hby own_d10_54)
  refine own_st (st1083) ?_
  clear st1083 X1055 e1055
  show OFin p e below s _ _ _ (T1083.setTop (mkF m 57 #[.val (.ref a), .val (.ref x), .val (.int d), .val (.ref sl)] [(.long oc), (.ref a)]))
  refine own_st (fun _ kS => XS.lconst X1083.here hx rfl (hb hby own_d10_57) kS) ?_
  show OFin p e below s _ _ _ (T1083.setTop (mkF m 58 #[.val (.ref a), .val (.ref x), .val (.int d), .val (.ref sl)] [(.long (1 : Int64)), (.long oc), (.ref a)]))
  refine own_st (fun _ kS => XS.iloadN X1083.here hx rfl (hb hby own_d10_58) rfl kS) ?_
  show OFin p e below s _ _ _ (T1083.setTop (mkF m 59 #[.val (.ref a), .val (.ref x), .val (.int d), .val (.ref sl)] [(.int d), (.long (1 : Int64)), (.long oc), (.ref a)]))
  refine own_st (fun _ kS => XS.lshl X1083.here hx rfl (hb hby own_d10_59) rfl kS) ?_
  show OFin p e below s _ _ _ (T1083.setTop (mkF m 60 #[.val (.ref a), .val (.ref x), .val (.int d), .val (.ref sl)] [(.long ((1 : Int64) <<< (d &&& 0x3f).toInt64)), (.long oc), (.ref a)]))
  refine own_st (fun _ kS => XS.lor X1083.here hx rfl (hb hby own_d10_60) rfl kS) ?_
  show OFin p e below s _ _ _ (T1083.setTop (mkF m 61 #[.val (.ref a), .val (.ref x), .val (.int d), .val (.ref sl)] [(.long (oc ||| ((1 : Int64) <<< (d &&& 0x3f).toInt64))), (.ref a)]))
  show OFin p e below s _ _ _ (T1083.setTop (mkF m 61 #[.val (.ref a), .val (.ref x), .val (.int d), .val (.ref sl)] [(.long (oc ||| own_bit d)), (.ref a)]))
  obtain ⟨T1084, h1084, X1084, e1084, W1084, st1084⟩ := putF X1083 hx hZ hown (host := "") (Or.inl (own_w hw 111 rfl)) Via.refl e1083 f1061 f1057 (Or.inl (own_w hw 112 rfl)) (own_w hw 51 rfl) (ty := .long) (by decide) rfl rfl (g := (mkF m 61 #[.val (.ref a), .val (.ref x), .val (.int d), .val (.ref sl)] [(.long (oc ||| own_bit d)), (.ref a)])) rfl rfl (hb hby own_d10_61)
  have f1085 := f1061.same W1084
  have f1086 := f1057.wr W1084
  clear f1057
  have f1087 := f1058.other W1084 (Or.inr (slot_ne (Or.inr (own_w hw 60 rfl)) (Or.inl (own_w hw 112 rfl)) (by decide) (t := (.array (.object "com/example/epicycle/epicycle/SlotRing$Slot"))) (t' := .long) (by decide) (by decide)))
  clear f1058
  have f1088 := f1059.other W1084 (Or.inr (slot_ne (Or.inr (own_w hw 62 rfl)) (Or.inl (own_w hw 112 rfl)) (by decide) (t := .int) (t' := .long) (by decide) (by decide)))
  clear f1059
  have f1089 := f1060.other W1084 (Or.inr (slot_ne (Or.inr (own_w hw 64 rfl)) (Or.inl (own_w hw 112 rfl)) (by decide) (t := (.object "com/example/epicycle/epicycle/TimeoutTable")) (t' := .long) (by decide) (by decide)))
  clear f1060
  have f1091 := f1062.other W1084 (Ne.symm ne_a_sa)
  clear f1062
  have f1092 := f1063.wr W1084
  clear f1063
  have f1093 := f1064.other W1084 (Or.inl (Ne.symm ne_a_tt))
  clear f1064
  have f1094 := f1065.other W1084 (Or.inl (Ne.symm ne_a_tt))
  clear f1065
  have f1095 := f1066.other W1084 (Or.inl (Ne.symm ne_a_tt))
  clear f1066
  have f1096 := f1067.wr W1084
  clear f1067
  have f1097 := f1068.other W1084 (Or.inl (Ne.symm ne_a_cl))
  clear f1068
  have f1098 := f1069.other W1084 (Or.inl (Ne.symm ne_a_cl))
  clear f1069
  have f1099 := f1070.other W1084 (Or.inl (Ne.symm ne_a_cl))
  clear f1070
  have f1100 := f1071.other W1084 (Ne.symm ne_a_ck)
  clear f1071
  have f1101 := f1072.wr W1084
  clear f1072
  have f1102 := f1073.other W1084 (Or.inl (Ne.symm ne_a_x))
  clear f1073
  have f1103 := f1074.other W1084 (Or.inl (Ne.symm ne_a_x))
  clear f1074
  have f1104 := f1075.other W1084 (Or.inl (Ne.symm ne_a_x))
  clear f1075
  have f1105 := f1076.wr W1084
  clear f1076
  have f1106 := f1077.other W1084 (Or.inl (Ne.symm ne_a_sl))
  clear f1077
  have f1107 := f1078.other W1084 (Or.inl (Ne.symm ne_a_sl))
  clear f1078
  have f1108 := f1079.other W1084 (Or.inl (Ne.symm ne_a_sl))
  clear f1079
  have f1109 := f1056.other W1084 (Or.inl (Ne.symm ne_a_sl))
  clear f1056
  have f1110 := f1081.other W1084 (Or.inl (Ne.symm ne_a_sl))
  clear f1081
  have f1111 := f1082.other W1084 (Or.inl (Ne.symm ne_a_sl))
  clear f1082
  have sz1084 : n0 ≤ h1084.size := by rw [W1084.size]; exact sz1055
  clear sz1055
  have fr1084 := Fr.snoc X1084 fr1055 g_a
  clear fr1055
  have kp1084 := kp1055.wr W1084 (Or.inl (List.mem_of_getElem? (i := 0) rfl))
  clear kp1055
  refine own_st (st1084) ?_
  clear st1084 X1083 e1083 W1084 f1061
  show OFin p e below s _ _ _ (T1084.setTop (mkF m 64 #[.val (.ref a), .val (.ref x), .val (.int d), .val (.ref sl)] []))
  refine own_st (fun _ kS => XS.aloadN X1084.here hx rfl (hb hby own_d10_64) rfl rfl kS) ?_
  show OFin p e below s _ _ _ (T1084.setTop (mkF m 65 #[.val (.ref a), .val (.ref x), .val (.int d), .val (.ref sl)] [(.ref sl)]))
  obtain ⟨T1112, X1112, e1112, st1112⟩ := getF X1084 hx hZ hown (host := "") (Or.inl (own_w hw 113 rfl)) Via.refl e1084 f1111 (g := (mkF m 65 #[.val (.ref a), .val (.ref x), .val (.int d), .val (.ref sl)] [(.ref sl)])) rfl rfl (hb hby own_d10_65)
  refine own_st (st1112) ?_
  clear st1112 X1084 e1084
  show OFin p e below s _ _ _ (T1112.setTop (mkF m 68 #[.val (.ref a), .val (.ref x), .val (.int d), .val (.ref sl)] [.null]))
  refine own_st (fun _ kS => XS.ifnullYes X1112.here hx rfl (pc0 := 68) (pc' := 82) rfl (hb hby own_d10_68) rfl (by decide) (by decide) kS) ?_
  show OFin p e below s _ _ _ (T1112.setTop (mkF m 82 #[.val (.ref a), .val (.ref x), .val (.int d), .val (.ref sl)] []))
  refine own_st (fun _ kS => XS.aloadN X1112.here hx rfl (hb hby own_d10_82) rfl rfl kS) ?_
  show OFin p e below s _ _ _ (T1112.setTop (mkF m 83 #[.val (.ref a), .val (.ref x), .val (.int d), .val (.ref sl)] [(.ref sl)]))
  obtain ⟨v1113, T1113, L1113, X1113, hQ1113, st1113⟩ := own_virtualUp X1112 hx hZ (owner := "com/example/epicycle/epicycle/TimeoutList") (y := (⟨"com/example/epicycle/epicycle/SlotRing$Slot", "isEmpty", "()Z"⟩ : MethodName)) (z := (⟨"com/example/epicycle/epicycle/TimeoutList", "isEmpty", "()Z"⟩ : MethodName)) (rm := ⟨0, 0, 0, 0⟩) (W := 0) (a := sl) (argsL := []) (rest := []) hown (own_w hw 115 rfl) (own_w hw 116 rfl) (own_w hw 117 rfl) (own_w hw 119 rfl) (own_w hw 118 rfl) (own_w hw 99 rfl) (own_w hw 120 rfl) (rmIE1 l Z a0 hw sl h1084 tt (0 : Int32) (0 : Int32) (1 : Int32) 0 ⟨f1105, f1106, f1107, f1108, f1109, f1110, f1111⟩ rfl) e1112 f1105 (g := (mkF m 83 #[.val (.ref a), .val (.ref x), .val (.int d), .val (.ref sl)] [(.ref sl)])) rfl (by rw [hml]; rfl) (lenOf own_pd13 rfl) rfl (by show 2 * 0 + _ ≤ _; exact Nat.le_of_eq rfl) (hb hby own_d10_83) (by decide) (by decide) (by decide) (by decide)
  obtain ⟨rfl, e1113, rfl⟩ := hQ1113
  rw [List.append_nil] at X1113
  refine own_st (st1113) ?_
  clear st1113 X1112 e1112
  show OFin p e below s _ _ _ (T1113.setTop (mkF m 86 #[.val (.ref a), .val (.ref x), .val (.int d), .val (.ref sl)] [(.int (1 : Int32))]))
  refine own_st (fun _ kS => XS.ifYes X1113.here hx rfl (pc0 := 86) (pc' := 103) rfl (hb hby own_d10_86) rfl ((if0 _ _).trans (feq (by decide)).2) (by decide) (by decide) kS) ?_
  show OFin p e below s _ _ _ (T1113.setTop (mkF m 103 #[.val (.ref a), .val (.ref x), .val (.int d), .val (.ref sl)] []))
  refine own_st (fun _ kS => XS.aloadN X1113.here hx rfl (hb hby own_d10_103) rfl rfl kS) ?_
  show OFin p e below s _ _ _ (T1113.setTop (mkF m 104 #[.val (.ref a), .val (.ref x), .val (.int d), .val (.ref sl)] [(.ref sl)]))
  refine own_st (fun _ kS => XS.aloadN X1113.here hx rfl (hb hby own_d10_104) rfl rfl kS) ?_
  show OFin p e below s _ _ _ (T1113.setTop (mkF m 105 #[.val (.ref a), .val (.ref x), .val (.int d), .val (.ref sl)] [(.ref x), (.ref sl)]))
  obtain ⟨v1114, T1114, L1114, X1114, hQ1114, st1114⟩ := own_virtual X1113 hx hZ (y := (⟨"com/example/epicycle/epicycle/Timeout", "fireTick", "()J"⟩ : MethodName)) (z := (⟨"com/example/epicycle/epicycle/Timeout", "fireTick", "()J"⟩ : MethodName)) (rm := ⟨0, 0, 0, 0⟩) (W := 1) (a := x) (argsL := []) (rest := [(.ref sl)]) hown (own_w hw 83 rfl) (own_w hw 84 rfl) (notFace_of_selects (args := #[]) (mvT hZ (own_w hw 86 rfl))) (own_w hw 86 rfl) (own_w hw 85 rfl) (own_w hw 67 rfl) (own_w hw 87 rfl) (rmFT l Z a0 hw x h1084 ft 0 0 ⟨f1101, f1102, f1103, f1104⟩) e1113 f1101 (g := (mkF m 105 #[.val (.ref a), .val (.ref x), .val (.int d), .val (.ref sl)] [(.ref x), (.ref sl)])) rfl (by rw [hml]; rfl) (lenOf own_pd11 rfl) rfl (by show 2 * 0 + _ ≤ _; exact Nat.le_of_eq rfl) (hb hby own_d10_105) (by decide) (by decide) (by decide) (by decide)
  obtain ⟨rfl, e1114, rfl⟩ := hQ1114
  rw [List.append_nil] at X1114
  refine own_st (st1114) ?_
  clear st1114 X1113 e1113
  show OFin p e below s _ _ _ (T1114.setTop (mkF m 108 #[.val (.ref a), .val (.ref x), .val (.int d), .val (.ref sl)] [(.long ft), (.ref sl)]))
  obtain ⟨T1115, h1115, X1115, e1115, W1115, st1115⟩ := putF X1114 hx hZ hown (host := "") (Or.inl (own_w hw 121 rfl)) Via.refl e1114 f1110 f1105 (Or.inl (own_w hw 122 rfl)) (own_w hw 91 rfl) (ty := .long) (by decide) rfl rfl (g := (mkF m 108 #[.val (.ref a), .val (.ref x), .val (.int d), .val (.ref sl)] [(.long ft), (.ref sl)])) rfl rfl (hb hby own_d10_108)
  have f1116 := f1110.same W1115
  have f1117 := f1086.wr W1115
  clear f1086
  have f1118 := f1087.other W1115 (Or.inl ne_a_sl)
  clear f1087
  have f1119 := f1088.other W1115 (Or.inl ne_a_sl)
  clear f1088
  have f1120 := f1089.other W1115 (Or.inl ne_a_sl)
  clear f1089
  have f1121 := f1085.other W1115 (Or.inl ne_a_sl)
  clear f1085
  have f1122 := f1091.other W1115 ne_sa_sl
  clear f1091
  have f1123 := f1092.wr W1115
  clear f1092
  have f1124 := f1093.other W1115 (Or.inl ne_tt_sl)
  clear f1093
  have f1125 := f1094.other W1115 (Or.inl ne_tt_sl)
  clear f1094
  have f1126 := f1095.other W1115 (Or.inl ne_tt_sl)
  clear f1095
  have f1127 := f1096.wr W1115
  clear f1096
  have f1128 := f1097.other W1115 (Or.inl ne_cl_sl)
  clear f1097
  have f1129 := f1098.other W1115 (Or.inl ne_cl_sl)
  clear f1098
  have f1130 := f1099.other W1115 (Or.inl ne_cl_sl)
  clear f1099
  have f1131 := f1100.other W1115 ne_ck_sl
  clear f1100
  have f1132 := f1101.wr W1115
  clear f1101
  have f1133 := f1102.other W1115 (Or.inl ne_x_sl)
  clear f1102
  have f1134 := f1103.other W1115 (Or.inl ne_x_sl)
  clear f1103
  have f1135 := f1104.other W1115 (Or.inl ne_x_sl)
  clear f1104
  have f1136 := f1105.wr W1115
  clear f1105
  have f1137 := f1106.other W1115 (Or.inr (slot_ne (Or.inl (own_w hw 103 rfl)) (Or.inl (own_w hw 122 rfl)) (by decide) (t := .int) (t' := .long) (by decide) (by decide)))
  clear f1106
  have f1138 := f1107.other W1115 (Or.inr (slot_ne (Or.inl (own_w hw 105 rfl)) (Or.inl (own_w hw 122 rfl)) (by decide) (t := .int) (t' := .long) (by decide) (by decide)))
  clear f1107
  have f1139 := f1108.other W1115 (Or.inr (slot_ne (Or.inr (own_w hw 107 rfl)) (Or.inl (own_w hw 122 rfl)) (by decide) (t := (.object "com/example/epicycle/epicycle/TimeoutTable")) (t' := .long) (by decide) (by decide)))
  clear f1108
  have f1140 := f1109.other W1115 (Or.inr (slot_ne (Or.inl (own_w hw 110 rfl)) (Or.inl (own_w hw 122 rfl)) (by decide) (t := .int) (t' := .long) (by decide) (by decide)))
  clear f1109
  have f1142 := f1111.other W1115 (Or.inr (slot_ne (Or.inl (own_w hw 114 rfl)) (Or.inl (own_w hw 122 rfl)) (by decide) (t := (.object "com/example/epicycle/epicycle/SlotRing")) (t' := .long) (by decide) (by decide)))
  clear f1111
  have sz1115 : n0 ≤ h1115.size := by rw [W1115.size]; exact sz1084
  clear sz1084
  have fr1115 := Fr.snoc X1115 fr1084 g_sl
  clear fr1084
  have kp1115 := kp1084.wr W1115 (Or.inr kz_sl)
  clear kp1084
  refine own_st (st1115) ?_
  clear st1115 X1114 e1114 W1115 f1110
  show OFin p e below s _ _ _ (T1115.setTop (mkF m 111 #[.val (.ref a), .val (.ref x), .val (.int d), .val (.ref sl)] []))
  refine own_st (fun _ kS => XS.aloadN X1115.here hx rfl (hb hby own_d10_111) rfl rfl kS) ?_
  show OFin p e below s _ _ _ (T1115.setTop (mkF m 112 #[.val (.ref a), .val (.ref x), .val (.int d), .val (.ref sl)] [(.ref sl)]))
  refine own_st (fun _ kS => XS.aloadN X1115.here hx rfl (hb hby own_d10_112) rfl rfl kS) ?_
  show OFin p e below s _ _ _ (T1115.setTop (mkF m 113 #[.val (.ref a), .val (.ref x), .val (.int d), .val (.ref sl)] [(.ref x), (.ref sl)]))
  obtain ⟨v1143, T1143, L1143, X1143, hQ1143, st1143⟩ := own_virtualUp X1115 hx hZ (owner := "com/example/epicycle/epicycle/TimeoutList") (y := (⟨"com/example/epicycle/epicycle/SlotRing$Slot", "append", "(Lcom/example/epicycle/epicycle/Timeout;)V"⟩ : MethodName)) (z := (⟨"com/example/epicycle/epicycle/TimeoutList", "append", "(Lcom/example/epicycle/epicycle/Timeout;)V"⟩ : MethodName)) (rm := ⟨4, 1, 1024, 53⟩) (W := 0) (a := sl) (argsL := [(.ref x)]) (rest := []) hown (own_w hw 123 rfl) (own_w hw 124 rfl) (own_w hw 125 rfl) (own_w hw 127 rfl) (own_w hw 126 rfl) (own_w hw 99 rfl) (own_w hw 128 rfl) (rmAP0 l Z a0 hw sl x h1115 n0 sz1115 tt cl ck (1 : Int32) ft ft ⟨f1136, f1137, f1138, f1139, f1140, f1116, f1142⟩ ⟨f1123, f1124, f1125, f1126⟩ ⟨f1127, f1128, f1129, f1130, f1131⟩ ⟨f1132, f1133, f1134, f1135⟩ g_sl g_x g_cl g_ck (Ne.symm ne_tt_sl) (Ne.symm ne_cl_sl) (Ne.symm ne_ck_sl) (Ne.symm ne_x_sl) ne_tt_cl ne_tt_ck ne_tt_x ne_cl_ck ne_cl_x ne_ck_x) e1115 f1136 (g := (mkF m 113 #[.val (.ref a), .val (.ref x), .val (.int d), .val (.ref sl)] [(.ref x), (.ref sl)])) rfl (by rw [hml]; rfl) (lenOf own_pd14 rfl) rfl (by show 2 * 0 + _ ≤ _; exact Nat.le_of_eq rfl) (hb hby own_d10_113) (by decide) (by decide) (by decide) (by decide)
  obtain ⟨rfl, N1143, K1143, c0, ge_c0, B1143_0, B1143_1, B1143_2⟩ := hQ1143
  have ne_a_c0 : a ≠ c0 := Nat.ne_of_lt (Nat.lt_of_lt_of_le f1117.lt ge_c0)
  have ne_ck_c0 : ck ≠ c0 := Nat.ne_of_lt (Nat.lt_of_lt_of_le f1131.lt ge_c0)
  have ne_cl_c0 : cl ≠ c0 := Nat.ne_of_lt (Nat.lt_of_lt_of_le f1127.lt ge_c0)
  have ne_sa_c0 : sa ≠ c0 := Nat.ne_of_lt (Nat.lt_of_lt_of_le f1122.lt ge_c0)
  have ne_sl_c0 : sl ≠ c0 := Nat.ne_of_lt (Nat.lt_of_lt_of_le f1136.lt ge_c0)
  have ne_tt_c0 : tt ≠ c0 := Nat.ne_of_lt (Nat.lt_of_lt_of_le f1123.lt ge_c0)
  have ne_x_c0 : x ≠ c0 := Nat.ne_of_lt (Nat.lt_of_lt_of_le f1132.lt ge_c0)
  have g_c0 : n0 ≤ c0 := Nat.le_trans sz1115 ge_c0
  have kz_c0 := Nat.le_trans kp1115.1 ge_c0
  have fr1143 := Fr.app fr1115 N1143
  clear fr1115 N1143
  have kp1143 := kp1115.trans K1143 (allS (Or.inr kz_sl) (allS (Or.inl (List.mem_of_getElem? (i := 2) rfl)) (allS (Or.inl (List.mem_of_getElem? (i := 3) rfl)) (allS (Or.inl (List.mem_of_getElem? (i := 4) rfl)) all0))))
  clear kp1115
  have f1144 := f1117.keep K1143
  clear f1117
  have f1145 := f1118.keep K1143 (ninS ne_a_sl (ninS ne_a_x (ninS ne_a_cl (ninS ne_a_ck nin0))))
  clear f1118
  have f1146 := f1119.keep K1143 (ninS ne_a_sl (ninS ne_a_x (ninS ne_a_cl (ninS ne_a_ck nin0))))
  clear f1119
  have f1147 := f1120.keep K1143 (ninS ne_a_sl (ninS ne_a_x (ninS ne_a_cl (ninS ne_a_ck nin0))))
  clear f1120
  have f1148 := f1121.keep K1143 (ninS ne_a_sl (ninS ne_a_x (ninS ne_a_cl (ninS ne_a_ck nin0))))
  clear f1121
  have f1149 := f1122.keep K1143 (ninS ne_sa_sl (ninS ne_sa_x (ninS ne_sa_cl (ninS ne_sa_ck nin0))))
  clear f1122
  have f1150 := f1123.keep K1143
  clear f1123
  have f1151 := f1124.keep K1143 (ninS ne_tt_sl (ninS ne_tt_x (ninS ne_tt_cl (ninS ne_tt_ck nin0))))
  clear f1124
  have f1152 := f1125.keep K1143 (ninS ne_tt_sl (ninS ne_tt_x (ninS ne_tt_cl (ninS ne_tt_ck nin0))))
  clear f1125
  have f1153 := f1126.keep K1143 (ninS ne_tt_sl (ninS ne_tt_x (ninS ne_tt_cl (ninS ne_tt_ck nin0))))
  clear f1126
  have f1154 := f1127.keep K1143
  clear f1127
  clear f1128
  clear f1129
  clear f1130
  clear f1131
  have f1159 := f1132.keep K1143
  clear f1132
  clear f1133
  clear f1134
  clear f1135
  have f1163 := f1136.keep K1143
  clear f1136
  clear f1137
  clear f1138
  clear f1139
  clear f1140
  clear f1116
  clear f1142
  have sz1143 : n0 ≤ T1143.heap.size := Nat.le_trans sz1115 K1143.1
  clear sz1115
  clear K1143
  obtain ⟨u1170, u1171, u1172, u1173, u1174, u1175, u1176⟩ := B1143_0
  obtain ⟨u1177, u1178, u1179, u1180, u1181, u1182⟩ := B1143_1
  obtain ⟨u1183, u1184, u1185, u1186⟩ := B1143_2
  refine own_st (st1143) ?_
  clear st1143 X1115 e1115
  show OFin p e below s _ _ _ (T1143.setTop (mkF m 116 #[.val (.ref a), .val (.ref x), .val (.int d), .val (.ref sl)] []))
  refine own_st (fun _ kS => XS.aloadN X1143.here hx rfl (hb hby own_d10_116) rfl rfl kS) ?_
  show OFin p e below s _ _ _ (T1143.setTop (mkF m 117 #[.val (.ref a), .val (.ref x), .val (.int d), .val (.ref sl)] [(.ref a)]))
  obtain ⟨T1187, X1187, e1187, st1187⟩ := getF X1143 hx hZ hown (host := "") (Or.inl (own_w hw 61 rfl)) Via.refl rfl f1146 (g := (mkF m 117 #[.val (.ref a), .val (.ref x), .val (.int d), .val (.ref sl)] [(.ref a)])) rfl rfl (hb hby own_d10_117)
  refine own_st (st1187) ?_
  clear st1187 X1143
  show OFin p e below s _ _ _ (T1187.setTop (mkF m 120 #[.val (.ref a), .val (.ref x), .val (.int d), .val (.ref sl)] [(.int lv)]))
  by_cases cl1188 : (0 : Int32) < lv
  · refine own_st (fun _ kS => XS.ifNo X1187.here hx rfl (hb hby own_d10_120) rfl ((if0 _ _).trans (tlt cl1188).2.2.2) kS) ?_
    show OFin p e below s _ _ _ (T1187.setTop (mkF m 123 #[.val (.ref a), .val (.ref x), .val (.int d), .val (.ref sl)] []))
    refine own_st (fun _ kS => XS.aloadN X1187.here hx rfl (hb hby own_d10_123) rfl rfl kS) ?_
    show OFin p e below s _ _ _ (T1187.setTop (mkF m 124 #[.val (.ref a), .val (.ref x), .val (.int d), .val (.ref sl)] [(.ref sl)]))
    obtain ⟨T1189, X1189, e1189, st1189⟩ := getF X1187 hx hZ hown (host := "") (Or.inl (own_w hw 109 rfl)) Via.refl e1187 u1174 (g := (mkF m 124 #[.val (.ref a), .val (.ref x), .val (.int d), .val (.ref sl)] [(.ref sl)])) rfl rfl (hb hby own_d10_124)
    refine own_st (st1189) ?_
    clear st1189 X1187 e1187
    show OFin p e below s _ _ _ (T1189.setTop (mkF m 127 #[.val (.ref a), .val (.ref x), .val (.int d), .val (.ref sl)] [(.int (1 : Int32))]))
    refine own_st (fun _ kS => XS.sipush X1189.here hx rfl (hb hby own_d10_127) kS) ?_
    show OFin p e below s _ _ _ (T1189.setTop (mkF m 130 #[.val (.ref a), .val (.ref x), .val (.int d), .val (.ref sl)] [(.int (2048 : Int32)), (.int (1 : Int32))]))
    refine own_st (fun _ kS => XS.icmpYes X1189.here hx rfl (pc0 := 130) (pc' := 138) rfl (hb hby own_d10_130) rfl (flt (by decide)).2.2.2 (by decide) (by decide) kS) ?_
    show OFin p e below s _ _ _ (T1189.setTop (mkF m 138 #[.val (.ref a), .val (.ref x), .val (.int d), .val (.ref sl)] []))
    exact own_retV X1189 hx hret hlk (hb hby own_d10_138) (by decide) (by decide) (by show _ ∧ _ ∧ Keep h0 T1189.heap [a, sa, x, cl, ck] ∧ _; rw [e1189]; exact ⟨rfl, fr1143, kp1143, sl, kz_sl, c0, kz_c0, ne_sl_c0, ⟨f1144, f1145, f1146, f1147, f1148, f1149⟩, ⟨u1170, u1171, u1172, u1173, u1174, u1175, u1176⟩, ⟨u1177, u1178, u1179, u1180, u1181, u1182⟩, ⟨u1183, u1184, u1185, u1186⟩⟩)
  · refine own_st (fun _ kS => XS.ifYes X1187.here hx rfl (pc0 := 120) (pc' := 138) rfl (hb hby own_d10_120) rfl ((if0 _ _).trans (flt cl1188).2.2.2) (by decide) (by decide) kS) ?_
    show OFin p e below s _ _ _ (T1187.setTop (mkF m 138 #[.val (.ref a), .val (.ref x), .val (.int d), .val (.ref sl)] []))
    exact own_retV X1187 hx hret hlk (hb hby own_d10_138) (by decide) (by decide) (by show _ ∧ _ ∧ Keep h0 T1187.heap [a, sa, x, cl, ck] ∧ _; rw [e1187]; exact ⟨rfl, fr1143, kp1143, sl, kz_sl, c0, kz_c0, ne_sl_c0, ⟨f1144, f1145, f1146, f1147, f1148, f1149⟩, ⟨u1170, u1171, u1172, u1173, u1174, u1175, u1176⟩, ⟨u1177, u1178, u1179, u1180, u1181, u1182⟩, ⟨u1183, u1184, u1185, u1186⟩⟩)
set_option maxRecDepth 65536 in
set_option maxHeartbeats 40000000 in
theorem rmAD1 (l : Launch) (Z : State) (a0 : Array Value) (hw : ∀ d ∈ tables_1, d.before a0 Z = true) (a : Addr) (x : Addr) (h0 : Heap) (n0 : Nat) (Z0 : n0 ≤ h0.size) (sa tt cl ck c0 : Addr) (lv d : Int32) (dn : Nat) (oc ft : Int64) (fs : Nat → Value) (f g : Nat → Value)  (B_OSR0 : OSR Z h0 a sa tt lv oc fs) (B_OTT1 : OTT Z h0 tt cl) (B_OCL12 : OCL1 Z h0 cl ck c0 (1 : Int32) f g) (B_OTO3 : OTO Z h0 x ft (0 : Int32) (0 : Int32)) (g_a : n0 ≤ a) (g_sa : n0 ≤ sa) (g_x : n0 ≤ x) (g_cl : n0 ≤ cl) (g_c0 : n0 ≤ c0) (ne_a_sa : a ≠ sa) (ne_a_tt : a ≠ tt) (ne_a_cl : a ≠ cl) (ne_a_ck : a ≠ ck) (ne_a_c0 : a ≠ c0) (ne_a_x : a ≠ x) (ne_sa_tt : sa ≠ tt) (ne_sa_cl : sa ≠ cl) (ne_sa_ck : sa ≠ ck) (ne_sa_c0 : sa ≠ c0) (ne_sa_x : sa ≠ x) (ne_tt_cl : tt ≠ cl) (ne_tt_ck : tt ≠ ck) (ne_tt_c0 : tt ≠ c0) (ne_tt_x : tt ≠ x) (ne_cl_ck : cl ≠ ck) (ne_cl_c0 : cl ≠ c0) (ne_cl_x : cl ≠ x) (ne_ck_c0 : ck ≠ c0) (ne_ck_x : ck ≠ x) (ne_c0_x : c0 ≠ x) (hd : own_dig ft lv = d) (hdn : d.toInt = dn) (hd64 : dn < 64) (hs : fs dn = .null) (hf : f 0 = .ref c0)  :
    OMet l Z (⟨"com/example/epicycle/epicycle/SlotRing", "add", "(Lcom/example/epicycle/epicycle/Timeout;)V"⟩ : MethodName) prog_7_method_5_code 4 none (⟨5, 1, 7, 67⟩ : Room) #[(.ref a), (.ref x)] h0 (fun v h L => v = none ∧ Fr n0 L ∧ Keep h0 h [a, sa, x, cl, c0] ∧ ∃ sl, h0.size ≤ sl ∧ OSR Z h a sa tt lv (oc ||| own_bit d) (fun i => if i = dn then .ref sl else fs i) ∧ OSL Z h sl tt (2 : Int32) (2 : Int32) (1 : Int32) ft ∧ OCL1 Z h cl ck c0 (2 : Int32) f (fun i => if i = 1 then .ref x else g i) ∧ OTO Z h x ft (0 : Int32) 0) := by
  refine own_enter own_pn10 ?_
  intro p e s m below meth c T0 X0 hC e0
  obtain ⟨hx, hZ, hby, hml, hown, hret, hlk, hnm⟩ := hC
  have hown : s.vm.findClass "com/example/epicycle/epicycle/SlotRing" = some m.cls := hown
  refine own_at (own_ef10_RR m a x) ?_
  show OFin p e below s _ _ _ (T0.setTop (mkF m 0 #[.val (.ref a), .val (.ref x), .unset, .unset] []))
  have N0 := Fr.nil n0
  have kp0 := Keep.refl h0 [a, sa, x, cl, c0]
  obtain ⟨u1190, u1191, u1192, u1193, u1194, u1195⟩ := B_OSR0
  obtain ⟨u1196, u1197, u1198, u1199⟩ := B_OTT1
  obtain ⟨u1200, u1201, u1202, u1203, u1204, u1205⟩ := B_OCL12
  obtain ⟨u1206, u1207, u1208, u1209⟩ := B_OTO3
  obtain ⟨q0, q1⟩ := own_cl hdn
  refine own_st (fun _ kS => XS.aloadN X0.here hx rfl (hb hby own_d10_0) rfl rfl kS) ?_
  show OFin p e below s _ _ _ (T0.setTop (mkF m 1 #[.val (.ref a), .val (.ref x), .unset, .unset] [(.ref x)]))
  obtain ⟨v1210, T1210, L1210, X1210, hQ1210, st1210⟩ := own_virtual X0 hx hZ (y := (⟨"com/example/epicycle/epicycle/Timeout", "fireTick", "()J"⟩ : MethodName)) (z := (⟨"com/example/epicycle/epicycle/Timeout", "fireTick", "()J"⟩ : MethodName)) (rm := ⟨0, 0, 0, 0⟩) (W := 0) (a := x) (argsL := []) (rest := []) hown (own_w hw 83 rfl) (own_w hw 84 rfl) (notFace_of_selects (args := #[]) (mvT hZ (own_w hw 86 rfl))) (own_w hw 86 rfl) (own_w hw 85 rfl) (own_w hw 67 rfl) (own_w hw 87 rfl) (rmFT l Z a0 hw x h0 ft 0 0 ⟨u1206, u1207, u1208, u1209⟩) e0 u1206 (g := (mkF m 1 #[.val (.ref a), .val (.ref x), .unset, .unset] [(.ref x)])) rfl (by rw [hml]; rfl) (lenOf own_pd11 rfl) rfl (by show 2 * 0 + _ ≤ _; exact Nat.le_of_eq rfl) (hb hby own_d10_1) (by decide) (by decide) (by decide) (by decide)
  obtain ⟨rfl, e1210, rfl⟩ := hQ1210
  rw [List.append_nil] at X1210
  refine own_st (st1210) ?_
  clear st1210 X0 e0
  show OFin p e below s _ _ _ (T1210.setTop (mkF m 4 #[.val (.ref a), .val (.ref x), .unset, .unset] [(.long ft)]))
  refine own_st (fun _ kS => XS.aloadN X1210.here hx rfl (hb hby own_d10_4) rfl rfl kS) ?_
  show OFin p e below s _ _ _ (T1210.setTop (mkF m 5 #[.val (.ref a), .val (.ref x), .unset, .unset] [(.ref a), (.long ft)]))
  obtain ⟨T1211, X1211, e1211, st1211⟩ := getF X1210 hx hZ hown (host := "") (Or.inl (own_w hw 61 rfl)) Via.refl e1210 u1192 (g := (mkF m 5 #[.val (.ref a), .val (.ref x), .unset, .unset] [(.ref a), (.long ft)])) rfl rfl (hb hby own_d10_5)
  refine own_st (st1211) ?_
  clear st1211 X1210 e1210
  show OFin p e below s _ _ _ (T1211.setTop (mkF m 8 #[.val (.ref a), .val (.ref x), .unset, .unset] [(.int lv), (.long ft)]))
  obtain ⟨v1212, T1212, L1212, X1212, hQ1212, st1212⟩ := own_static X1211 hx hZ (y := (⟨"com/example/epicycle/epicycle/SlotRing", "digit", "(JI)I"⟩ : MethodName)) (rm := ⟨0, 0, 0, 0⟩) (W := 0) (argsL := [(.long ft), (.int lv)]) (rest := []) hown (own_w hw 88 rfl) (own_w hw 89 rfl) (own_w hw 52 rfl) (own_w hw 90 rfl) (rmDG l Z a0 hw ft lv h0) e1211 (g := (mkF m 8 #[.val (.ref a), .val (.ref x), .unset, .unset] [(.int lv), (.long ft)])) rfl (by rw [hml]; rfl) (lenOf own_pd12 rfl) rfl (by show 2 * 0 + _ ≤ _; exact Nat.le_of_eq rfl) (hb hby own_d10_8) (by decide) (by decide) (by decide) (by decide)
  obtain ⟨rfl, e1212, rfl⟩ := hQ1212
  rw [List.append_nil] at X1212
  refine own_st (st1212) ?_
  clear st1212 X1211 e1211
  show OFin p e below s _ _ _ (T1212.setTop (mkF m 11 #[.val (.ref a), .val (.ref x), .unset, .unset] [(.int (own_dig ft lv))]))
  rw [hd]
  show OFin p e below s _ _ _ (T1212.setTop (mkF m 11 #[.val (.ref a), .val (.ref x), .unset, .unset] [(.int d)]))
  refine own_st (fun _ kS => XS.istoreN X1212.here hx rfl (hb hby own_d10_11) rfl (l' := #[.val (.ref a), .val (.ref x), .val (.int d), .unset]) rfl kS) ?_
  show OFin p e below s _ _ _ (T1212.setTop (mkF m 12 #[.val (.ref a), .val (.ref x), .val (.int d), .unset] []))
  refine own_st (fun _ kS => XS.aloadN X1212.here hx rfl (hb hby own_d10_12) rfl rfl kS) ?_
  show OFin p e below s _ _ _ (T1212.setTop (mkF m 13 #[.val (.ref a), .val (.ref x), .val (.int d), .unset] [(.ref a)]))
  obtain ⟨T1213, X1213, e1213, st1213⟩ := getF X1212 hx hZ hown (host := "") (Or.inl (own_w hw 59 rfl)) Via.refl e1212 u1191 (g := (mkF m 13 #[.val (.ref a), .val (.ref x), .val (.int d), .unset] [(.ref a)])) rfl rfl (hb hby own_d10_13)
  refine own_st (st1213) ?_
  clear st1213 X1212 e1212
  show OFin p e below s _ _ _ (T1213.setTop (mkF m 16 #[.val (.ref a), .val (.ref x), .val (.int d), .unset] [(.ref sa)]))
  refine own_st (fun _ kS => XS.iloadN X1213.here hx rfl (hb hby own_d10_16) rfl kS) ?_
  show OFin p e below s _ _ _ (T1213.setTop (mkF m 17 #[.val (.ref a), .val (.ref x), .val (.int d), .unset] [(.int d), (.ref sa)]))
  obtain ⟨cl1214, Ar1214, S1214, B1214, H1214, O1214⟩ := id u1195
  refine own_st (X1213.aaload hx (j := d) (v := .null) (by rw [e1213]; exact Ar1214.1) (State.isArrayOf_alike hZ.alike Ar1214.2.1) rfl Ar1214.2.2 (own_inb S1214 q0 q1 hd64) ((own_hv H1214 q1 hd64).trans (congrArg some (hs))) (g := (mkF m 17 #[.val (.ref a), .val (.ref x), .val (.int d), .unset] [(.int d), (.ref sa)])) rfl rfl (hb hby own_d10_17)) ?_
  clear Ar1214 S1214 B1214 H1214 O1214
  show OFin p e below s _ _ _ (T1213.setTop (mkF m 18 #[.val (.ref a), .val (.ref x), .val (.int d), .unset] [.null]))
  refine own_st (fun _ kS => XS.astoreN X1213.here hx rfl (hb hby own_d10_18) rfl rfl (l' := #[.val (.ref a), .val (.ref x), .val (.int d), .val .null]) rfl kS) ?_
  show OFin p e below s _ _ _ (T1213.setTop (mkF m 19 #[.val (.ref a), .val (.ref x), .val (.int d), .val .null] []))
  refine own_st (fun _ kS => XS.aloadN X1213.here hx rfl (hb hby own_d10_19) rfl rfl kS) ?_
  show OFin p e below s _ _ _ (T1213.setTop (mkF m 20 #[.val (.ref a), .val (.ref x), .val (.int d), .val .null] [.null]))
  refine own_st (fun _ kS => XS.ifnonnullNo X1213.here hx rfl (hb hby own_d10_20) rfl kS) ?_
  show OFin p e below s _ _ _ (T1213.setTop (mkF m 23 #[.val (.ref a), .val (.ref x), .val (.int d), .val .null] []))
  obtain ⟨T1215, h1215, X1215, e1215, E1215, A1215, D1215, -, st1215⟩ := newO X1213 hx hZ hown (own_w hw 57 rfl) (own_w hw 91 rfl) (own_w hw 92 rfl) e1213 (g := (mkF m 23 #[.val (.ref a), .val (.ref x), .val (.int d), .val .null] [])) rfl (hb hby own_d10_23) (by decide) (by decide)
  obtain ⟨sl, g1215⟩ : ∃ z, z = h0.size := ⟨_, rfl⟩
  rw [← g1215] at A1215 D1215 st1215
  have ne_a_sl : a ≠ sl := Nat.ne_of_lt (Nat.lt_of_lt_of_le u1190.lt (Nat.le_of_eq g1215.symm))
  have ne_c0_sl : c0 ≠ sl := Nat.ne_of_lt (Nat.lt_of_lt_of_le u1205.lt (Nat.le_of_eq g1215.symm))
  have ne_ck_sl : ck ≠ sl := Nat.ne_of_lt (Nat.lt_of_lt_of_le u1204.lt (Nat.le_of_eq g1215.symm))
  have ne_cl_sl : cl ≠ sl := Nat.ne_of_lt (Nat.lt_of_lt_of_le u1200.lt (Nat.le_of_eq g1215.symm))
  have ne_sa_sl : sa ≠ sl := Nat.ne_of_lt (Nat.lt_of_lt_of_le u1195.lt (Nat.le_of_eq g1215.symm))
  have ne_tt_sl : tt ≠ sl := Nat.ne_of_lt (Nat.lt_of_lt_of_le u1196.lt (Nat.le_of_eq g1215.symm))
  have ne_x_sl : x ≠ sl := Nat.ne_of_lt (Nat.lt_of_lt_of_le u1206.lt (Nat.le_of_eq g1215.symm))
  have g_sl : n0 ≤ sl := Nat.le_trans Z0 (Nat.le_of_eq g1215.symm)
  have f1216 := u1190.ext E1215
  clear u1190
  have f1217 := u1191.ext E1215
  clear u1191
  have f1218 := u1192.ext E1215
  clear u1192
  have f1219 := u1193.ext E1215
  clear u1193
  have f1220 := u1194.ext E1215
  clear u1194
  have f1221 := u1195.ext E1215
  clear u1195
  have f1222 := u1196.ext E1215
  clear u1196
  have f1223 := u1197.ext E1215
  clear u1197
  have f1224 := u1198.ext E1215
  clear u1198
  have f1225 := u1199.ext E1215
  clear u1199
  have f1226 := u1200.ext E1215
  clear u1200
  have f1227 := u1201.ext E1215
  clear u1201
  have f1228 := u1202.ext E1215
  clear u1202
  have f1229 := u1203.ext E1215
  clear u1203
  have f1230 := u1204.ext E1215
  clear u1204
  have f1231 := u1205.ext E1215
  clear u1205
  have f1232 := u1206.ext E1215
  clear u1206
  have f1233 := u1207.ext E1215
  clear u1207
  have f1234 := u1208.ext E1215
  clear u1208
  have f1235 := u1209.ext E1215
  clear u1209
  have f1236 : Fld Z h1215 sl "com/example/epicycle/epicycle/TimeoutList" "head" "I" (.int (0 : Int32)) := D1215 (Or.inl (own_w hw 103 rfl)) (ty := .int) (by decide)
  have f1237 : Fld Z h1215 sl "com/example/epicycle/epicycle/TimeoutList" "tail" "I" (.int (0 : Int32)) := D1215 (Or.inl (own_w hw 105 rfl)) (ty := .int) (by decide)
  have f1238 : Fld Z h1215 sl "com/example/epicycle/epicycle/TimeoutList" "table" "Lcom/example/epicycle/epicycle/TimeoutTable;" .null := D1215 (Or.inr (own_w hw 107 rfl)) (ty := (.object "com/example/epicycle/epicycle/TimeoutTable")) (by decide)
  have f1239 : Fld Z h1215 sl "com/example/epicycle/epicycle/SlotRing$Slot" "count" "I" (.int (0 : Int32)) := D1215 (Or.inl (own_w hw 110 rfl)) (ty := .int) (by decide)
  have f1240 : Fld Z h1215 sl "com/example/epicycle/epicycle/SlotRing$Slot" "nested" "Lcom/example/epicycle/epicycle/SlotRing;" .null := D1215 (Or.inl (own_w hw 114 rfl)) (ty := (.object "com/example/epicycle/epicycle/SlotRing")) (by decide)
  have f1241 : Fld Z h1215 sl "com/example/epicycle/epicycle/SlotRing$Slot" "earliest" "J" (.long (0 : Int64)) := D1215 (Or.inl (own_w hw 122 rfl)) (ty := .long) (by decide)
  have sz1215 : n0 ≤ h1215.size := Nat.le_trans Z0 E1215.1
  have kp1215 := kp0.ext E1215
  have kz_sl := Nat.le_trans kp0.1 (Nat.le_of_eq g1215.symm)
  clear kp0
  refine own_st (st1215) ?_
  clear st1215 X1213 e1213 E1215 D1215 g1215
  show OFin p e below s _ _ _ (T1215.setTop (mkF m 26 #[.val (.ref a), .val (.ref x), .val (.int d), .val .null] [(.ref sl)]))
  refine own_st (fun _ kS => XS.dup X1215.here hx rfl (hb hby own_d10_26) rfl rfl kS) ?_
  show OFin p e below s _ _ _ (T1215.setTop (mkF m 27 #[.val (.ref a), .val (.ref x), .val (.int d), .val .null] [(.ref sl), (.ref sl)]))
  refine own_st (fun _ kS => XS.aloadN X1215.here hx rfl (hb hby own_d10_27) rfl rfl kS) ?_
  show OFin p e below s _ _ _ (T1215.setTop (mkF m 28 #[.val (.ref a), .val (.ref x), .val (.int d), .val .null] [(.ref a), (.ref sl), (.ref sl)]))
  obtain ⟨T1242, X1242, e1242, st1242⟩ := getF X1215 hx hZ hown (host := "") (Or.inl (own_w hw 63 rfl)) Via.refl e1215 f1219 (g := (mkF m 28 #[.val (.ref a), .val (.ref x), .val (.int d), .val .null] [(.ref a), (.ref sl), (.ref sl)])) rfl rfl (hb hby own_d10_28)
  refine own_st (st1242) ?_
  clear st1242 X1215 e1215
  show OFin p e below s _ _ _ (T1242.setTop (mkF m 31 #[.val (.ref a), .val (.ref x), .val (.int d), .val .null] [(.ref tt), (.ref sl), (.ref sl)]))
  obtain ⟨v1243, T1243, L1243, X1243, hQ1243, st1243⟩ := own_init X1242 hx hZ (y := (⟨"com/example/epicycle/epicycle/SlotRing$Slot", "<init>", "(Lcom/example/epicycle/epicycle/TimeoutTable;)V"⟩ : MethodName)) (rm := ⟨2, 0, 0, 25⟩) (W := 1) (a := sl) (argsL := [(.ref tt)]) (rest := [(.ref sl)]) rfl hown (own_w hw 93 rfl) (own_w hw 94 rfl) (own_w hw 92 rfl) (own_w hw 95 rfl) (rmSL l Z a0 hw sl tt h1215 n0 sz1215 ⟨A1215, f1236, f1237, f1238, f1239, f1241, f1240⟩ g_sl) e1242 (g := (mkF m 31 #[.val (.ref a), .val (.ref x), .val (.int d), .val .null] [(.ref tt), (.ref sl), (.ref sl)])) rfl (by rw [hml]; rfl) (lenOf own_pd3 rfl) rfl (by show 2 * 0 + _ ≤ _; exact Nat.le_of_eq rfl) (hb hby own_d10_31) (by decide) (by decide) (by decide) (by decide)
  obtain ⟨rfl, N1243, K1243, B1243_0⟩ := hQ1243
  have fr1243 := Fr.app N0 N1243
  clear N0 N1243
  have kp1243 := kp1215.trans K1243 (allS (Or.inr kz_sl) all0)
  clear kp1215
  have f1244 := f1216.keep K1243
  clear f1216
  have f1245 := f1217.keep K1243 (ninS ne_a_sl nin0)
  clear f1217
  have f1246 := f1218.keep K1243 (ninS ne_a_sl nin0)
  clear f1218
  have f1247 := f1219.keep K1243 (ninS ne_a_sl nin0)
  clear f1219
  have f1248 := f1220.keep K1243 (ninS ne_a_sl nin0)
  clear f1220
  have f1249 := f1221.keep K1243 (ninS ne_sa_sl nin0)
  clear f1221
  have f1250 := f1222.keep K1243
  clear f1222
  have f1251 := f1223.keep K1243 (ninS ne_tt_sl nin0)
  clear f1223
  have f1252 := f1224.keep K1243 (ninS ne_tt_sl nin0)
  clear f1224
  have f1253 := f1225.keep K1243 (ninS ne_tt_sl nin0)
  clear f1225
  have f1254 := f1226.keep K1243
  clear f1226
  have f1255 := f1227.keep K1243 (ninS ne_cl_sl nin0)
  clear f1227
  have f1256 := f1228.keep K1243 (ninS ne_cl_sl nin0)
  clear f1228
  have f1257 := f1229.keep K1243 (ninS ne_cl_sl nin0)
  clear f1229
  have f1258 := f1230.keep K1243 (ninS ne_ck_sl nin0)
  clear f1230
  have f1259 := f1231.keep K1243 (ninS ne_c0_sl nin0)
  clear f1231
  have f1260 := f1232.keep K1243
  clear f1232
  have f1261 := f1233.keep K1243 (ninS ne_x_sl nin0)
  clear f1233
  have f1262 := f1234.keep K1243 (ninS ne_x_sl nin0)
  clear f1234
  have f1263 := f1235.keep K1243 (ninS ne_x_sl nin0)
  clear f1235
  have f1264 := A1215.keep K1243
  clear f1236
  clear f1237
  clear f1238
  clear f1239
  clear f1240
  clear f1241
  have sz1243 : n0 ≤ T1243.heap.size := Nat.le_trans sz1215 K1243.1
  clear sz1215
  clear K1243
  obtain ⟨u1271, u1272, u1273, u1274, u1275, u1276, u1277⟩ := B1243_0
  refine own_st (st1243) ?_
  clear st1243 X1242 e1242
  show OFin p e below s _ _ _ (T1243.setTop (mkF m 34 #[.val (.ref a), .val (.ref x), .val (.int d), .val .null] [(.ref sl)]))
  refine own_st (fun _ kS => XS.astoreN X1243.here hx rfl (hb hby own_d10_34) rfl rfl (l' := #[.val (.ref a), .val (.ref x), .val (.int d), .val (.ref sl)]) rfl kS) ?_
  show OFin p e below s _ _ _ (T1243.setTop (mkF m 35 #[.val (.ref a), .val (.ref x), .val (.int d), .val (.ref sl)] []))
  refine own_st (fun _ kS => XS.aloadN X1243.here hx rfl (hb hby own_d10_35) rfl rfl kS) ?_
  show OFin p e below s _ _ _ (T1243.setTop (mkF m 36 #[.val (.ref a), .val (.ref x), .val (.int d), .val (.ref sl)] [(.ref a)]))
  obtain ⟨T1278, X1278, e1278, st1278⟩ := getF X1243 hx hZ hown (host := "") (Or.inl (own_w hw 59 rfl)) Via.refl rfl f1245 (g := (mkF m 36 #[.val (.ref a), .val (.ref x), .val (.int d), .val (.ref sl)] [(.ref a)])) rfl rfl (hb hby own_d10_36)
  refine own_st (st1278) ?_
  clear st1278 X1243
  show OFin p e below s _ _ _ (T1278.setTop (mkF m 39 #[.val (.ref a), .val (.ref x), .val (.int d), .val (.ref sl)] [(.ref sa)]))
  refine own_st (fun _ kS => XS.iloadN X1278.here hx rfl (hb hby own_d10_39) rfl kS) ?_
  show OFin p e below s _ _ _ (T1278.setTop (mkF m 40 #[.val (.ref a), .val (.ref x), .val (.int d), .val (.ref sl)] [(.int d), (.ref sa)]))
  refine own_st (fun _ kS => XS.aloadN X1278.here hx rfl (hb hby own_d10_40) rfl rfl kS) ?_
  show OFin p e below s _ _ _ (T1278.setTop (mkF m 41 #[.val (.ref a), .val (.ref x), .val (.int d), .val (.ref sl)] [(.ref sl), (.int d), (.ref sa)]))
  obtain ⟨cl1279, Ar1279, S1279, B1279, H1279, O1279⟩ := id f1249
  obtain ⟨T1279, h1279, X1279, e1279, W1279, st1279⟩ := stR X1278 hx hZ e1278 Ar1279 (j := d) (own_inb S1279 q0 q1 hd64) rfl (own_sto Ar1279 O1279 (Ins.self u1271)) (g := (mkF m 41 #[.val (.ref a), .val (.ref x), .val (.int d), .val (.ref sl)] [(.ref sl), (.int d), (.ref sa)])) rfl rfl (hb hby own_d10_41)
  have V1279 := own_wrj W1279 q1
  have f1280 := (f1249).set V1279
  have f1281 := f1244.wr W1279
  clear f1244
  have f1282 := f1245.other W1279 (Or.inl ne_a_sa)
  clear f1245
  have f1283 := f1246.other W1279 (Or.inl ne_a_sa)
  clear f1246
  have f1284 := f1247.other W1279 (Or.inl ne_a_sa)
  clear f1247
  have f1285 := f1248.other W1279 (Or.inl ne_a_sa)
  clear f1248
  have f1287 := f1250.wr W1279
  clear f1250
  have f1288 := f1251.other W1279 (Or.inl (Ne.symm ne_sa_tt))
  clear f1251
  have f1289 := f1252.other W1279 (Or.inl (Ne.symm ne_sa_tt))
  clear f1252
  have f1290 := f1253.other W1279 (Or.inl (Ne.symm ne_sa_tt))
  clear f1253
  have f1291 := f1254.wr W1279
  clear f1254
  have f1292 := f1255.other W1279 (Or.inl (Ne.symm ne_sa_cl))
  clear f1255
  have f1293 := f1256.other W1279 (Or.inl (Ne.symm ne_sa_cl))
  clear f1256
  have f1294 := f1257.other W1279 (Or.inl (Ne.symm ne_sa_cl))
  clear f1257
  have f1295 := f1258.other W1279 (Ne.symm ne_sa_ck)
  clear f1258
  have f1296 := f1259.other W1279 (Ne.symm ne_sa_c0)
  clear f1259
  have f1297 := f1260.wr W1279
  clear f1260
  have f1298 := f1261.other W1279 (Or.inl (Ne.symm ne_sa_x))
  clear f1261
  have f1299 := f1262.other W1279 (Or.inl (Ne.symm ne_sa_x))
  clear f1262
  have f1300 := f1263.other W1279 (Or.inl (Ne.symm ne_sa_x))
  clear f1263
  have f1301 := u1271.wr W1279
  clear u1271
  have f1302 := u1272.other W1279 (Or.inl (Ne.symm ne_sa_sl))
  clear u1272
  have f1303 := u1273.other W1279 (Or.inl (Ne.symm ne_sa_sl))
  clear u1273
  have f1304 := u1274.other W1279 (Or.inl (Ne.symm ne_sa_sl))
  clear u1274
  have f1305 := u1275.other W1279 (Or.inl (Ne.symm ne_sa_sl))
  clear u1275
  have f1306 := u1276.other W1279 (Or.inl (Ne.symm ne_sa_sl))
  clear u1276
  have f1307 := u1277.other W1279 (Or.inl (Ne.symm ne_sa_sl))
  clear u1277
  have sz1279 : n0 ≤ h1279.size := by rw [W1279.size]; exact sz1243
  clear sz1243
  have fr1279 := Fr.snoc X1279 fr1243 g_sa
  clear fr1243
  have kp1279 := kp1243.wr W1279 (Or.inl (List.mem_of_getElem? (i := 1) rfl))
  clear kp1243
  refine own_st (st1279) ?_
  clear st1279 X1278 e1278 W1279 V1279 Ar1279 S1279 B1279 H1279 O1279 f1249
  show OFin p e below s _ _ _ (T1279.setTop (mkF m 42 #[.val (.ref a), .val (.ref x), .val (.int d), .val (.ref sl)] []))
  refine own_st (fun _ kS => XS.aloadN X1279.here hx rfl (hb hby own_d10_42) rfl rfl kS) ?_
  show OFin p e below s _ _ _ (T1279.setTop (mkF m 43 #[.val (.ref a), .val (.ref x), .val (.int d), .val (.ref sl)] [(.ref sl)]))
  refine own_st (fun _ kS => XS.dup X1279.here hx rfl (hb hby own_d10_43) rfl rfl kS) ?_
  show OFin p e below s _ _ _ (T1279.setTop (mkF m 44 #[.val (.ref a), .val (.ref x), .val (.int d), .val (.ref sl)] [(.ref sl), (.ref sl)]))
  obtain ⟨T1308, X1308, e1308, st1308⟩ := getF X1279 hx hZ hown (host := "") (Or.inl (own_w hw 109 rfl)) Via.refl e1279 f1305 (g := (mkF m 44 #[.val (.ref a), .val (.ref x), .val (.int d), .val (.ref sl)] [(.ref sl), (.ref sl)])) rfl rfl (hb hby own_d10_44)
  refine own_st (st1308) ?_
  clear st1308 X1279 e1279
  show OFin p e below s _ _ _ (T1308.setTop (mkF m 47 #[.val (.ref a), .val (.ref x), .val (.int d), .val (.ref sl)] [(.int (0 : Int32)), (.ref sl)]))
  refine own_st (fun _ kS => XS.iconst X1308.here hx rfl (hb hby own_d10_47) kS) ?_
  show OFin p e below s _ _ _ (T1308.setTop (mkF m 48 #[.val (.ref a), .val (.ref x), .val (.int d), .val (.ref sl)] [(.int (1 : Int32)), (.int (0 : Int32)), (.ref sl)]))
  refine own_st (fun _ kS => XS.iadd X1308.here hx rfl (hb hby own_d10_48) rfl kS) ?_
  show OFin p e below s _ _ _ (T1308.setTop (mkF m 49 #[.val (.ref a), .val (.ref x), .val (.int d), .val (.ref sl)] [(.int ((0 : Int32) + (1 : Int32))), (.ref sl)]))
  rw [show (((0 : Int32) + (1 : Int32))) = (1 : Int32) from by decide]
  show OFin p e below s _ _ _ (T1308.setTop (mkF m 49 #[.val (.ref a), .val (.ref x), .val (.int d), .val (.ref sl)] [(.int (1 : Int32)), (.ref sl)]))
  obtain ⟨T1309, h1309, X1309, e1309, W1309, st1309⟩ := putF X1308 hx hZ hown (host := "") (Or.inl (own_w hw 109 rfl)) Via.refl e1308 f1305 f1301 (Or.inl (own_w hw 110 rfl)) (own_w hw 91 rfl) (ty := .int) (by decide) rfl rfl (g := (mkF m 49 #[.val (.ref a), .val (.ref x), .val (.int d), .val (.ref sl)] [(.int (1 : Int32)), (.ref sl)])) rfl rfl (hb hby own_d10_49)
  have f1310 := f1305.same W1309
  have f1311 := f1281.wr W1309
  clear f1281
  have f1312 := f1282.other W1309 (Or.inl ne_a_sl)
  clear f1282
  have f1313 := f1283.other W1309 (Or.inl ne_a_sl)
  clear f1283
  have f1314 := f1284.other W1309 (Or.inl ne_a_sl)
  clear f1284
  have f1315 := f1285.other W1309 (Or.inl ne_a_sl)
  clear f1285
  have f1316 := f1280.other W1309 ne_sa_sl
  clear f1280
  have f1317 := f1287.wr W1309
  clear f1287
  have f1318 := f1288.other W1309 (Or.inl ne_tt_sl)
  clear f1288
  have f1319 := f1289.other W1309 (Or.inl ne_tt_sl)
  clear f1289
  have f1320 := f1290.other W1309 (Or.inl ne_tt_sl)
  clear f1290
  have f1321 := f1291.wr W1309
  clear f1291
  have f1322 := f1292.other W1309 (Or.inl ne_cl_sl)
  clear f1292
  have f1323 := f1293.other W1309 (Or.inl ne_cl_sl)
  clear f1293
  have f1324 := f1294.other W1309 (Or.inl ne_cl_sl)
  clear f1294
  have f1325 := f1295.other W1309 ne_ck_sl
  clear f1295
  have f1326 := f1296.other W1309 ne_c0_sl
  clear f1296
  have f1327 := f1297.wr W1309
  clear f1297
  have f1328 := f1298.other W1309 (Or.inl ne_x_sl)
  clear f1298
  have f1329 := f1299.other W1309 (Or.inl ne_x_sl)
  clear f1299
  have f1330 := f1300.other W1309 (Or.inl ne_x_sl)
  clear f1300
  have f1331 := f1301.wr W1309
  clear f1301
  have f1332 := f1302.other W1309 (Or.inr (slot_ne (Or.inl (own_w hw 103 rfl)) (Or.inl (own_w hw 110 rfl)) (by decide) (t := .int) (t' := .int) (by decide) (by decide)))
  clear f1302
  have f1333 := f1303.other W1309 (Or.inr (slot_ne (Or.inl (own_w hw 105 rfl)) (Or.inl (own_w hw 110 rfl)) (by decide) (t := .int) (t' := .int) (by decide) (by decide)))
  clear f1303
  have f1334 := f1304.other W1309 (Or.inr (slot_ne (Or.inr (own_w hw 107 rfl)) (Or.inl (own_w hw 110 rfl)) (by decide) (t := (.object "com/example/epicycle/epicycle/TimeoutTable")) (t' := .int) (by decide) (by decide)))
  clear f1304
  have f1336 := f1306.other W1309 (Or.inr (slot_ne (Or.inl (own_w hw 122 rfl)) (Or.inl (own_w hw 110 rfl)) (by decide) (t := .long) (t' := .int) (by decide) (by decide)))
  clear f1306
  have f1337 := f1307.other W1309 (Or.inr (slot_ne (Or.inl (own_w hw 114 rfl)) (Or.inl (own_w hw 110 rfl)) (by decide) (t := (.object "com/example/epicycle/epicycle/SlotRing")) (t' := .int) (by decide) (by decide)))
  clear f1307
  have sz1309 : n0 ≤ h1309.size := by rw [W1309.size]; exact sz1279
  clear sz1279
  have fr1309 := Fr.snoc X1309 fr1279 g_sl
  clear fr1279
  have kp1309 := kp1279.wr W1309 (Or.inr kz_sl)
  clear kp1279
  refine own_st (st1309) ?_
  clear st1309 X1308 e1308 W1309 f1305
  show OFin p e below s _ _ _ (T1309.setTop (mkF m 52 #[.val (.ref a), .val (.ref x), .val (.int d), .val (.ref sl)] []))
  refine own_st (fun _ kS => XS.aloadN X1309.here hx rfl (hb hby own_d10_52) rfl rfl kS) ?_
  show OFin p e below s _ _ _ (T1309.setTop (mkF m 53 #[.val (.ref a), .val (.ref x), .val (.int d), .val (.ref sl)] [(.ref a)]))
  refine own_st (fun _ kS => XS.dup X1309.here hx rfl (hb hby own_d10_53) rfl rfl kS) ?_
  show OFin p e below s _ _ _ (T1309.setTop (mkF m 54 #[.val (.ref a), .val (.ref x), .val (.int d), .val (.ref sl)] [(.ref a), (.ref a)]))
  obtain ⟨T1338, X1338, e1338, st1338⟩ := getF X1309 hx hZ hown (host := "") (Or.inl (own_w hw 111 rfl)) Via.refl e1309 f1315 (g := (mkF m 54 #[.val (.ref a), .val (.ref x), .val (.int d), .val (.ref sl)] [(.ref a), (.ref a)])) rfl rfl (hb hby own_d10_54)
  refine own_st (st1338) ?_
  clear st1338 X1309 e1309
  show OFin p e below s _ _ _ (T1338.setTop (mkF m 57 #[.val (.ref a), .val (.ref x), .val (.int d), .val (.ref sl)] [(.long oc), (.ref a)]))
  refine own_st (fun _ kS => XS.lconst X1338.here hx rfl (hb hby own_d10_57) kS) ?_
  show OFin p e below s _ _ _ (T1338.setTop (mkF m 58 #[.val (.ref a), .val (.ref x), .val (.int d), .val (.ref sl)] [(.long (1 : Int64)), (.long oc), (.ref a)]))
  refine own_st (fun _ kS => XS.iloadN X1338.here hx rfl (hb hby own_d10_58) rfl kS) ?_
  show OFin p e below s _ _ _ (T1338.setTop (mkF m 59 #[.val (.ref a), .val (.ref x), .val (.int d), .val (.ref sl)] [(.int d), (.long (1 : Int64)), (.long oc), (.ref a)]))
  refine own_st (fun _ kS => XS.lshl X1338.here hx rfl (hb hby own_d10_59) rfl kS) ?_
  show OFin p e below s _ _ _ (T1338.setTop (mkF m 60 #[.val (.ref a), .val (.ref x), .val (.int d), .val (.ref sl)] [(.long ((1 : Int64) <<< (d &&& 0x3f).toInt64)), (.long oc), (.ref a)]))
  refine own_st (fun _ kS => XS.lor X1338.here hx rfl (hb hby own_d10_60) rfl kS) ?_
  show OFin p e below s _ _ _ (T1338.setTop (mkF m 61 #[.val (.ref a), .val (.ref x), .val (.int d), .val (.ref sl)] [(.long (oc ||| ((1 : Int64) <<< (d &&& 0x3f).toInt64))), (.ref a)]))
  show OFin p e below s _ _ _ (T1338.setTop (mkF m 61 #[.val (.ref a), .val (.ref x), .val (.int d), .val (.ref sl)] [(.long (oc ||| own_bit d)), (.ref a)]))
  obtain ⟨T1339, h1339, X1339, e1339, W1339, st1339⟩ := putF X1338 hx hZ hown (host := "") (Or.inl (own_w hw 111 rfl)) Via.refl e1338 f1315 f1311 (Or.inl (own_w hw 112 rfl)) (own_w hw 51 rfl) (ty := .long) (by decide) rfl rfl (g := (mkF m 61 #[.val (.ref a), .val (.ref x), .val (.int d), .val (.ref sl)] [(.long (oc ||| own_bit d)), (.ref a)])) rfl rfl (hb hby own_d10_61)
  have f1340 := f1315.same W1339
  have f1341 := f1311.wr W1339
  clear f1311
  have f1342 := f1312.other W1339 (Or.inr (slot_ne (Or.inr (own_w hw 60 rfl)) (Or.inl (own_w hw 112 rfl)) (by decide) (t := (.array (.object "com/example/epicycle/epicycle/SlotRing$Slot"))) (t' := .long) (by decide) (by decide)))
  clear f1312
  have f1343 := f1313.other W1339 (Or.inr (slot_ne (Or.inr (own_w hw 62 rfl)) (Or.inl (own_w hw 112 rfl)) (by decide) (t := .int) (t' := .long) (by decide) (by decide)))
  clear f1313
  have f1344 := f1314.other W1339 (Or.inr (slot_ne (Or.inr (own_w hw 64 rfl)) (Or.inl (own_w hw 112 rfl)) (by decide) (t := (.object "com/example/epicycle/epicycle/TimeoutTable")) (t' := .long) (by decide) (by decide)))
  clear f1314
  have f1346 := f1316.other W1339 (Ne.symm ne_a_sa)
  clear f1316
  have f1347 := f1317.wr W1339
  clear f1317
  have f1348 := f1318.other W1339 (Or.inl (Ne.symm ne_a_tt))
  clear f1318
  have f1349 := f1319.other W1339 (Or.inl (Ne.symm ne_a_tt))
  clear f1319
  have f1350 := f1320.other W1339 (Or.inl (Ne.symm ne_a_tt))
  clear f1320
  have f1351 := f1321.wr W1339
  clear f1321
  have f1352 := f1322.other W1339 (Or.inl (Ne.symm ne_a_cl))
  clear f1322
  have f1353 := f1323.other W1339 (Or.inl (Ne.symm ne_a_cl))
  clear f1323
  have f1354 := f1324.other W1339 (Or.inl (Ne.symm ne_a_cl))
  clear f1324
  have f1355 := f1325.other W1339 (Ne.symm ne_a_ck)
  clear f1325
  have f1356 := f1326.other W1339 (Ne.symm ne_a_c0)
  clear f1326
  have f1357 := f1327.wr W1339
  clear f1327
  have f1358 := f1328.other W1339 (Or.inl (Ne.symm ne_a_x))
  clear f1328
  have f1359 := f1329.other W1339 (Or.inl (Ne.symm ne_a_x))
  clear f1329
  have f1360 := f1330.other W1339 (Or.inl (Ne.symm ne_a_x))
  clear f1330
  have f1361 := f1331.wr W1339
  clear f1331
  have f1362 := f1332.other W1339 (Or.inl (Ne.symm ne_a_sl))
  clear f1332
  have f1363 := f1333.other W1339 (Or.inl (Ne.symm ne_a_sl))
  clear f1333
  have f1364 := f1334.other W1339 (Or.inl (Ne.symm ne_a_sl))
  clear f1334
  have f1365 := f1310.other W1339 (Or.inl (Ne.symm ne_a_sl))
  clear f1310
  have f1366 := f1336.other W1339 (Or.inl (Ne.symm ne_a_sl))
  clear f1336
  have f1367 := f1337.other W1339 (Or.inl (Ne.symm ne_a_sl))
  clear f1337
  have sz1339 : n0 ≤ h1339.size := by rw [W1339.size]; exact sz1309
  clear sz1309
  have fr1339 := Fr.snoc X1339 fr1309 g_a
  clear fr1309
  have kp1339 := kp1309.wr W1339 (Or.inl (List.mem_of_getElem? (i := 0) rfl))
  clear kp1309
  refine own_st (st1339) ?_
  clear st1339 X1338 e1338 W1339 f1315
  show OFin p e below s _ _ _ (T1339.setTop (mkF m 64 #[.val (.ref a), .val (.ref x), .val (.int d), .val (.ref sl)] []))
  refine own_st (fun _ kS => XS.aloadN X1339.here hx rfl (hb hby own_d10_64) rfl rfl kS) ?_
  show OFin p e below s _ _ _ (T1339.setTop (mkF m 65 #[.val (.ref a), .val (.ref x), .val (.int d), .val (.ref sl)] [(.ref sl)]))
  obtain ⟨T1368, X1368, e1368, st1368⟩ := getF X1339 hx hZ hown (host := "") (Or.inl (own_w hw 113 rfl)) Via.refl e1339 f1367 (g := (mkF m 65 #[.val (.ref a), .val (.ref x), .val (.int d), .val (.ref sl)] [(.ref sl)])) rfl rfl (hb hby own_d10_65)
  refine own_st (st1368) ?_
  clear st1368 X1339 e1339
  show OFin p e below s _ _ _ (T1368.setTop (mkF m 68 #[.val (.ref a), .val (.ref x), .val (.int d), .val (.ref sl)] [.null]))
  refine own_st (fun _ kS => XS.ifnullYes X1368.here hx rfl (pc0 := 68) (pc' := 82) rfl (hb hby own_d10_68) rfl (by decide) (by decide) kS) ?_
  show OFin p e below s _ _ _ (T1368.setTop (mkF m 82 #[.val (.ref a), .val (.ref x), .val (.int d), .val (.ref sl)] []))
  refine own_st (fun _ kS => XS.aloadN X1368.here hx rfl (hb hby own_d10_82) rfl rfl kS) ?_
  show OFin p e below s _ _ _ (T1368.setTop (mkF m 83 #[.val (.ref a), .val (.ref x), .val (.int d), .val (.ref sl)] [(.ref sl)]))
  obtain ⟨v1369, T1369, L1369, X1369, hQ1369, st1369⟩ := own_virtualUp X1368 hx hZ (owner := "com/example/epicycle/epicycle/TimeoutList") (y := (⟨"com/example/epicycle/epicycle/SlotRing$Slot", "isEmpty", "()Z"⟩ : MethodName)) (z := (⟨"com/example/epicycle/epicycle/TimeoutList", "isEmpty", "()Z"⟩ : MethodName)) (rm := ⟨0, 0, 0, 0⟩) (W := 0) (a := sl) (argsL := []) (rest := []) hown (own_w hw 115 rfl) (own_w hw 116 rfl) (own_w hw 117 rfl) (own_w hw 119 rfl) (own_w hw 118 rfl) (own_w hw 99 rfl) (own_w hw 120 rfl) (rmIE1 l Z a0 hw sl h1339 tt (0 : Int32) (0 : Int32) (1 : Int32) 0 ⟨f1361, f1362, f1363, f1364, f1365, f1366, f1367⟩ rfl) e1368 f1361 (g := (mkF m 83 #[.val (.ref a), .val (.ref x), .val (.int d), .val (.ref sl)] [(.ref sl)])) rfl (by rw [hml]; rfl) (lenOf own_pd13 rfl) rfl (by show 2 * 0 + _ ≤ _; exact Nat.le_of_eq rfl) (hb hby own_d10_83) (by decide) (by decide) (by decide) (by decide)
  obtain ⟨rfl, e1369, rfl⟩ := hQ1369
  rw [List.append_nil] at X1369
  refine own_st (st1369) ?_
  clear st1369 X1368 e1368
  show OFin p e below s _ _ _ (T1369.setTop (mkF m 86 #[.val (.ref a), .val (.ref x), .val (.int d), .val (.ref sl)] [(.int (1 : Int32))]))
  refine own_st (fun _ kS => XS.ifYes X1369.here hx rfl (pc0 := 86) (pc' := 103) rfl (hb hby own_d10_86) rfl ((if0 _ _).trans (feq (by decide)).2) (by decide) (by decide) kS) ?_
  show OFin p e below s _ _ _ (T1369.setTop (mkF m 103 #[.val (.ref a), .val (.ref x), .val (.int d), .val (.ref sl)] []))
  refine own_st (fun _ kS => XS.aloadN X1369.here hx rfl (hb hby own_d10_103) rfl rfl kS) ?_
  show OFin p e below s _ _ _ (T1369.setTop (mkF m 104 #[.val (.ref a), .val (.ref x), .val (.int d), .val (.ref sl)] [(.ref sl)]))
  refine own_st (fun _ kS => XS.aloadN X1369.here hx rfl (hb hby own_d10_104) rfl rfl kS) ?_
  show OFin p e below s _ _ _ (T1369.setTop (mkF m 105 #[.val (.ref a), .val (.ref x), .val (.int d), .val (.ref sl)] [(.ref x), (.ref sl)]))
  obtain ⟨v1370, T1370, L1370, X1370, hQ1370, st1370⟩ := own_virtual X1369 hx hZ (y := (⟨"com/example/epicycle/epicycle/Timeout", "fireTick", "()J"⟩ : MethodName)) (z := (⟨"com/example/epicycle/epicycle/Timeout", "fireTick", "()J"⟩ : MethodName)) (rm := ⟨0, 0, 0, 0⟩) (W := 1) (a := x) (argsL := []) (rest := [(.ref sl)]) hown (own_w hw 83 rfl) (own_w hw 84 rfl) (notFace_of_selects (args := #[]) (mvT hZ (own_w hw 86 rfl))) (own_w hw 86 rfl) (own_w hw 85 rfl) (own_w hw 67 rfl) (own_w hw 87 rfl) (rmFT l Z a0 hw x h1339 ft 0 0 ⟨f1357, f1358, f1359, f1360⟩) e1369 f1357 (g := (mkF m 105 #[.val (.ref a), .val (.ref x), .val (.int d), .val (.ref sl)] [(.ref x), (.ref sl)])) rfl (by rw [hml]; rfl) (lenOf own_pd11 rfl) rfl (by show 2 * 0 + _ ≤ _; exact Nat.le_of_eq rfl) (hb hby own_d10_105) (by decide) (by decide) (by decide) (by decide)
  obtain ⟨rfl, e1370, rfl⟩ := hQ1370
  rw [List.append_nil] at X1370
  refine own_st (st1370) ?_
  clear st1370 X1369 e1369
  show OFin p e below s _ _ _ (T1370.setTop (mkF m 108 #[.val (.ref a), .val (.ref x), .val (.int d), .val (.ref sl)] [(.long ft), (.ref sl)]))
  obtain ⟨T1371, h1371, X1371, e1371, W1371, st1371⟩ := putF X1370 hx hZ hown (host := "") (Or.inl (own_w hw 121 rfl)) Via.refl e1370 f1366 f1361 (Or.inl (own_w hw 122 rfl)) (own_w hw 91 rfl) (ty := .long) (by decide) rfl rfl (g := (mkF m 108 #[.val (.ref a), .val (.ref x), .val (.int d), .val (.ref sl)] [(.long ft), (.ref sl)])) rfl rfl (hb hby own_d10_108)
  have f1372 := f1366.same W1371
  have f1373 := f1341.wr W1371
  clear f1341
  have f1374 := f1342.other W1371 (Or.inl ne_a_sl)
  clear f1342
  have f1375 := f1343.other W1371 (Or.inl ne_a_sl)
  clear f1343
  have f1376 := f1344.other W1371 (Or.inl ne_a_sl)
  clear f1344
  have f1377 := f1340.other W1371 (Or.inl ne_a_sl)
  clear f1340
  have f1378 := f1346.other W1371 ne_sa_sl
  clear f1346
  have f1379 := f1347.wr W1371
  clear f1347
  have f1380 := f1348.other W1371 (Or.inl ne_tt_sl)
  clear f1348
  have f1381 := f1349.other W1371 (Or.inl ne_tt_sl)
  clear f1349
  have f1382 := f1350.other W1371 (Or.inl ne_tt_sl)
  clear f1350
  have f1383 := f1351.wr W1371
  clear f1351
  have f1384 := f1352.other W1371 (Or.inl ne_cl_sl)
  clear f1352
  have f1385 := f1353.other W1371 (Or.inl ne_cl_sl)
  clear f1353
  have f1386 := f1354.other W1371 (Or.inl ne_cl_sl)
  clear f1354
  have f1387 := f1355.other W1371 ne_ck_sl
  clear f1355
  have f1388 := f1356.other W1371 ne_c0_sl
  clear f1356
  have f1389 := f1357.wr W1371
  clear f1357
  have f1390 := f1358.other W1371 (Or.inl ne_x_sl)
  clear f1358
  have f1391 := f1359.other W1371 (Or.inl ne_x_sl)
  clear f1359
  have f1392 := f1360.other W1371 (Or.inl ne_x_sl)
  clear f1360
  have f1393 := f1361.wr W1371
  clear f1361
  have f1394 := f1362.other W1371 (Or.inr (slot_ne (Or.inl (own_w hw 103 rfl)) (Or.inl (own_w hw 122 rfl)) (by decide) (t := .int) (t' := .long) (by decide) (by decide)))
  clear f1362
  have f1395 := f1363.other W1371 (Or.inr (slot_ne (Or.inl (own_w hw 105 rfl)) (Or.inl (own_w hw 122 rfl)) (by decide) (t := .int) (t' := .long) (by decide) (by decide)))
  clear f1363
  have f1396 := f1364.other W1371 (Or.inr (slot_ne (Or.inr (own_w hw 107 rfl)) (Or.inl (own_w hw 122 rfl)) (by decide) (t := (.object "com/example/epicycle/epicycle/TimeoutTable")) (t' := .long) (by decide) (by decide)))
  clear f1364
  have f1397 := f1365.other W1371 (Or.inr (slot_ne (Or.inl (own_w hw 110 rfl)) (Or.inl (own_w hw 122 rfl)) (by decide) (t := .int) (t' := .long) (by decide) (by decide)))
  clear f1365
  have f1399 := f1367.other W1371 (Or.inr (slot_ne (Or.inl (own_w hw 114 rfl)) (Or.inl (own_w hw 122 rfl)) (by decide) (t := (.object "com/example/epicycle/epicycle/SlotRing")) (t' := .long) (by decide) (by decide)))
  clear f1367
  have sz1371 : n0 ≤ h1371.size := by rw [W1371.size]; exact sz1339
  clear sz1339
  have fr1371 := Fr.snoc X1371 fr1339 g_sl
  clear fr1339
  have kp1371 := kp1339.wr W1371 (Or.inr kz_sl)
  clear kp1339
  refine own_st (st1371) ?_
  clear st1371 X1370 e1370 W1371 f1366
  show OFin p e below s _ _ _ (T1371.setTop (mkF m 111 #[.val (.ref a), .val (.ref x), .val (.int d), .val (.ref sl)] []))
  refine own_st (fun _ kS => XS.aloadN X1371.here hx rfl (hb hby own_d10_111) rfl rfl kS) ?_
  show OFin p e below s _ _ _ (T1371.setTop (mkF m 112 #[.val (.ref a), .val (.ref x), .val (.int d), .val (.ref sl)] [(.ref sl)]))
  refine own_st (fun _ kS => XS.aloadN X1371.here hx rfl (hb hby own_d10_112) rfl rfl kS) ?_
  show OFin p e below s _ _ _ (T1371.setTop (mkF m 113 #[.val (.ref a), .val (.ref x), .val (.int d), .val (.ref sl)] [(.ref x), (.ref sl)]))
  obtain ⟨v1400, T1400, L1400, X1400, hQ1400, st1400⟩ := own_virtualUp X1371 hx hZ (owner := "com/example/epicycle/epicycle/TimeoutList") (y := (⟨"com/example/epicycle/epicycle/SlotRing$Slot", "append", "(Lcom/example/epicycle/epicycle/Timeout;)V"⟩ : MethodName)) (z := (⟨"com/example/epicycle/epicycle/TimeoutList", "append", "(Lcom/example/epicycle/epicycle/Timeout;)V"⟩ : MethodName)) (rm := ⟨4, 0, 0, 53⟩) (W := 0) (a := sl) (argsL := [(.ref x)]) (rest := []) hown (own_w hw 123 rfl) (own_w hw 124 rfl) (own_w hw 125 rfl) (own_w hw 127 rfl) (own_w hw 126 rfl) (own_w hw 99 rfl) (own_w hw 128 rfl) (rmAP1 l Z a0 hw sl x h1371 n0 sz1371 tt cl ck c0 (1 : Int32) ft ft f g ⟨f1393, f1394, f1395, f1396, f1397, f1372, f1399⟩ ⟨f1379, f1380, f1381, f1382⟩ ⟨f1383, f1384, f1385, f1386, f1387, f1388⟩ ⟨f1389, f1390, f1391, f1392⟩ g_sl g_x g_cl g_c0 (Ne.symm ne_tt_sl) (Ne.symm ne_cl_sl) (Ne.symm ne_ck_sl) (Ne.symm ne_c0_sl) (Ne.symm ne_x_sl) ne_tt_cl ne_tt_ck ne_tt_c0 ne_tt_x ne_cl_ck ne_cl_c0 ne_cl_x ne_ck_c0 ne_ck_x ne_c0_x hf) e1371 f1393 (g := (mkF m 113 #[.val (.ref a), .val (.ref x), .val (.int d), .val (.ref sl)] [(.ref x), (.ref sl)])) rfl (by rw [hml]; rfl) (lenOf own_pd14 rfl) rfl (by show 2 * 0 + _ ≤ _; exact Nat.le_of_eq rfl) (hb hby own_d10_113) (by decide) (by decide) (by decide) (by decide)
  obtain ⟨rfl, N1400, K1400, B1400_0, B1400_1, B1400_2⟩ := hQ1400
  have fr1400 := Fr.app fr1371 N1400
  clear fr1371 N1400
  have kp1400 := kp1371.trans K1400 (allS (Or.inr kz_sl) (allS (Or.inl (List.mem_of_getElem? (i := 2) rfl)) (allS (Or.inl (List.mem_of_getElem? (i := 3) rfl)) (allS (Or.inl (List.mem_of_getElem? (i := 4) rfl)) all0))))
  clear kp1371
  have f1401 := f1373.keep K1400
  clear f1373
  have f1402 := f1374.keep K1400 (ninS ne_a_sl (ninS ne_a_x (ninS ne_a_cl (ninS ne_a_c0 nin0))))
  clear f1374
  have f1403 := f1375.keep K1400 (ninS ne_a_sl (ninS ne_a_x (ninS ne_a_cl (ninS ne_a_c0 nin0))))
  clear f1375
  have f1404 := f1376.keep K1400 (ninS ne_a_sl (ninS ne_a_x (ninS ne_a_cl (ninS ne_a_c0 nin0))))
  clear f1376
  have f1405 := f1377.keep K1400 (ninS ne_a_sl (ninS ne_a_x (ninS ne_a_cl (ninS ne_a_c0 nin0))))
  clear f1377
  have f1406 := f1378.keep K1400 (ninS ne_sa_sl (ninS ne_sa_x (ninS ne_sa_cl (ninS ne_sa_c0 nin0))))
  clear f1378
  have f1407 := f1379.keep K1400
  clear f1379
  have f1408 := f1380.keep K1400 (ninS ne_tt_sl (ninS ne_tt_x (ninS ne_tt_cl (ninS ne_tt_c0 nin0))))
  clear f1380
  have f1409 := f1381.keep K1400 (ninS ne_tt_sl (ninS ne_tt_x (ninS ne_tt_cl (ninS ne_tt_c0 nin0))))
  clear f1381
  have f1410 := f1382.keep K1400 (ninS ne_tt_sl (ninS ne_tt_x (ninS ne_tt_cl (ninS ne_tt_c0 nin0))))
  clear f1382
  have f1411 := f1383.keep K1400
  clear f1383
  clear f1384
  clear f1385
  clear f1386
  have f1415 := f1387.keep K1400 (ninS ne_ck_sl (ninS ne_ck_x (ninS (Ne.symm ne_cl_ck) (ninS ne_ck_c0 nin0))))
  clear f1387
  clear f1388
  have f1417 := f1389.keep K1400
  clear f1389
  clear f1390
  clear f1391
  clear f1392
  have f1421 := f1393.keep K1400
  clear f1393
  clear f1394
  clear f1395
  clear f1396
  clear f1397
  clear f1372
  clear f1399
  have sz1400 : n0 ≤ T1400.heap.size := Nat.le_trans sz1371 K1400.1
  clear sz1371
  clear K1400
  obtain ⟨u1428, u1429, u1430, u1431, u1432, u1433, u1434⟩ := B1400_0
  obtain ⟨u1435, u1436, u1437, u1438, u1439, u1440⟩ := B1400_1
  obtain ⟨u1441, u1442, u1443, u1444⟩ := B1400_2
  refine own_st (st1400) ?_
  clear st1400 X1371 e1371
  show OFin p e below s _ _ _ (T1400.setTop (mkF m 116 #[.val (.ref a), .val (.ref x), .val (.int d), .val (.ref sl)] []))
  refine own_st (fun _ kS => XS.aloadN X1400.here hx rfl (hb hby own_d10_116) rfl rfl kS) ?_
  show OFin p e below s _ _ _ (T1400.setTop (mkF m 117 #[.val (.ref a), .val (.ref x), .val (.int d), .val (.ref sl)] [(.ref a)]))
  obtain ⟨T1445, X1445, e1445, st1445⟩ := getF X1400 hx hZ hown (host := "") (Or.inl (own_w hw 61 rfl)) Via.refl rfl f1403 (g := (mkF m 117 #[.val (.ref a), .val (.ref x), .val (.int d), .val (.ref sl)] [(.ref a)])) rfl rfl (hb hby own_d10_117)
  refine own_st (st1445) ?_
  clear st1445 X1400
  show OFin p e below s _ _ _ (T1445.setTop (mkF m 120 #[.val (.ref a), .val (.ref x), .val (.int d), .val (.ref sl)] [(.int lv)]))
  by_cases cl1446 : (0 : Int32) < lv
  · refine own_st (fun _ kS => XS.ifNo X1445.here hx rfl (hb hby own_d10_120) rfl ((if0 _ _).trans (tlt cl1446).2.2.2) kS) ?_
    show OFin p e below s _ _ _ (T1445.setTop (mkF m 123 #[.val (.ref a), .val (.ref x), .val (.int d), .val (.ref sl)] []))
    refine own_st (fun _ kS => XS.aloadN X1445.here hx rfl (hb hby own_d10_123) rfl rfl kS) ?_
    show OFin p e below s _ _ _ (T1445.setTop (mkF m 124 #[.val (.ref a), .val (.ref x), .val (.int d), .val (.ref sl)] [(.ref sl)]))
    obtain ⟨T1447, X1447, e1447, st1447⟩ := getF X1445 hx hZ hown (host := "") (Or.inl (own_w hw 109 rfl)) Via.refl e1445 u1432 (g := (mkF m 124 #[.val (.ref a), .val (.ref x), .val (.int d), .val (.ref sl)] [(.ref sl)])) rfl rfl (hb hby own_d10_124)
    refine own_st (st1447) ?_
    clear st1447 X1445 e1445
    show OFin p e below s _ _ _ (T1447.setTop (mkF m 127 #[.val (.ref a), .val (.ref x), .val (.int d), .val (.ref sl)] [(.int (1 : Int32))]))
    refine own_st (fun _ kS => XS.sipush X1447.here hx rfl (hb hby own_d10_127) kS) ?_
    show OFin p e below s _ _ _ (T1447.setTop (mkF m 130 #[.val (.ref a), .val (.ref x), .val (.int d), .val (.ref sl)] [(.int (2048 : Int32)), (.int (1 : Int32))]))
    refine own_st (fun _ kS => XS.icmpYes X1447.here hx rfl (pc0 := 130) (pc' := 138) rfl (hb hby own_d10_130) rfl (flt (by decide)).2.2.2 (by decide) (by decide) kS) ?_
    show OFin p e below s _ _ _ (T1447.setTop (mkF m 138 #[.val (.ref a), .val (.ref x), .val (.int d), .val (.ref sl)] []))
    exact own_retV X1447 hx hret hlk (hb hby own_d10_138) (by decide) (by decide) (by show _ ∧ _ ∧ Keep h0 T1447.heap [a, sa, x, cl, c0] ∧ _; rw [e1447]; exact ⟨rfl, fr1400, kp1400, sl, kz_sl, ⟨f1401, f1402, f1403, f1404, f1405, f1406⟩, ⟨u1428, u1429, u1430, u1431, u1432, u1433, u1434⟩, ⟨u1435, u1436, u1437, u1438, u1439, u1440⟩, ⟨u1441, u1442, u1443, u1444⟩⟩)
  · refine own_st (fun _ kS => XS.ifYes X1445.here hx rfl (pc0 := 120) (pc' := 138) rfl (hb hby own_d10_120) rfl ((if0 _ _).trans (flt cl1446).2.2.2) (by decide) (by decide) kS) ?_
    show OFin p e below s _ _ _ (T1445.setTop (mkF m 138 #[.val (.ref a), .val (.ref x), .val (.int d), .val (.ref sl)] []))
    exact own_retV X1445 hx hret hlk (hb hby own_d10_138) (by decide) (by decide) (by show _ ∧ _ ∧ Keep h0 T1445.heap [a, sa, x, cl, c0] ∧ _; rw [e1445]; exact ⟨rfl, fr1400, kp1400, sl, kz_sl, ⟨f1401, f1402, f1403, f1404, f1405, f1406⟩, ⟨u1428, u1429, u1430, u1431, u1432, u1433, u1434⟩, ⟨u1435, u1436, u1437, u1438, u1439, u1440⟩, ⟨u1441, u1442, u1443, u1444⟩⟩)
set_option maxRecDepth 65536 in
set_option maxHeartbeats 40000000 in
theorem rmAD2 (l : Launch) (Z : State) (a0 : Array Value) (hw : ∀ d ∈ tables_1, d.before a0 Z = true) (a : Addr) (x : Addr) (h0 : Heap) (n0 : Nat) (Z0 : n0 ≤ h0.size) (sa tt cl ck c0 sl y : Addr) (lv d : Int32) (dn : Nat) (oc ft : Int64) (fs : Nat → Value) (f g : Nat → Value) (ea fy : Int64) (B_OSR0 : OSR Z h0 a sa tt lv oc fs) (B_OTT1 : OTT Z h0 tt cl) (B_OCL12 : OCL1 Z h0 cl ck c0 (1 : Int32) f g) (B_OTO3 : OTO Z h0 x ft (0 : Int32) (0 : Int32)) (B_OSL4 : OSL Z h0 sl tt (1 : Int32) (1 : Int32) (1 : Int32) ea) (B_OTO5 : OTO Z h0 y fy (0 : Int32) (0 : Int32)) (g_a : n0 ≤ a) (g_sl : n0 ≤ sl) (g_x : n0 ≤ x) (g_cl : n0 ≤ cl) (g_c0 : n0 ≤ c0) (g_y : n0 ≤ y) (ne_a_sa : a ≠ sa) (ne_a_tt : a ≠ tt) (ne_a_cl : a ≠ cl) (ne_a_ck : a ≠ ck) (ne_a_c0 : a ≠ c0) (ne_a_x : a ≠ x) (ne_a_sl : a ≠ sl) (ne_a_y : a ≠ y) (ne_sa_tt : sa ≠ tt) (ne_sa_cl : sa ≠ cl) (ne_sa_ck : sa ≠ ck) (ne_sa_c0 : sa ≠ c0) (ne_sa_x : sa ≠ x) (ne_sa_sl : sa ≠ sl) (ne_sa_y : sa ≠ y) (ne_tt_cl : tt ≠ cl) (ne_tt_ck : tt ≠ ck) (ne_tt_c0 : tt ≠ c0) (ne_tt_x : tt ≠ x) (ne_tt_sl : tt ≠ sl) (ne_tt_y : tt ≠ y) (ne_cl_ck : cl ≠ ck) (ne_cl_c0 : cl ≠ c0) (ne_cl_x : cl ≠ x) (ne_cl_sl : cl ≠ sl) (ne_cl_y : cl ≠ y) (ne_ck_c0 : ck ≠ c0) (ne_ck_x : ck ≠ x) (ne_ck_sl : ck ≠ sl) (ne_ck_y : ck ≠ y) (ne_c0_x : c0 ≠ x) (ne_c0_sl : c0 ≠ sl) (ne_c0_y : c0 ≠ y) (ne_x_sl : x ≠ sl) (ne_x_y : x ≠ y) (ne_sl_y : sl ≠ y) (hd : own_dig ft lv = d) (hdn : d.toInt = dn) (hd64 : dn < 64) (hs : fs dn = .ref sl) (hf : f 0 = .ref c0) (hg : g 0 = .ref y) :
    OMet l Z (⟨"com/example/epicycle/epicycle/SlotRing", "add", "(Lcom/example/epicycle/epicycle/Timeout;)V"⟩ : MethodName) prog_7_method_5_code 4 none (⟨5, 0, 0, 67⟩ : Room) #[(.ref a), (.ref x)] h0 (fun v h L => v = none ∧ Fr n0 L ∧ Keep h0 h [a, sl, x, cl, c0, y] ∧ ∃ ea', OSR Z h a sa tt lv (oc ||| own_bit d) fs ∧ OSL Z h sl tt (1 : Int32) (2 : Int32) (2 : Int32) ea' ∧ OCL1 Z h cl ck c0 (2 : Int32) f (fun i => if i = 1 then .ref x else g i) ∧ OTO Z h x ft (1 : Int32) 0 ∧ OTO Z h y fy 0 2) := by
  refine own_enter own_pn10 ?_
  intro p e s m below meth c T0 X0 hC e0
  obtain ⟨hx, hZ, hby, hml, hown, hret, hlk, hnm⟩ := hC
  have hown : s.vm.findClass "com/example/epicycle/epicycle/SlotRing" = some m.cls := hown
  refine own_at (own_ef10_RR m a x) ?_
  show OFin p e below s _ _ _ (T0.setTop (mkF m 0 #[.val (.ref a), .val (.ref x), .unset, .unset] []))
  have N0 := Fr.nil n0
  have kp0 := Keep.refl h0 [a, sl, x, cl, c0, y]
  obtain ⟨u1448, u1449, u1450, u1451, u1452, u1453⟩ := B_OSR0
  obtain ⟨u1454, u1455, u1456, u1457⟩ := B_OTT1
  obtain ⟨u1458, u1459, u1460, u1461, u1462, u1463⟩ := B_OCL12
  obtain ⟨u1464, u1465, u1466, u1467⟩ := B_OTO3
  obtain ⟨u1468, u1469, u1470, u1471, u1472, u1473, u1474⟩ := B_OSL4
  obtain ⟨u1475, u1476, u1477, u1478⟩ := B_OTO5
  obtain ⟨q0, q1⟩ := own_cl hdn
  refine own_st (fun _ kS => XS.aloadN X0.here hx rfl (hb hby own_d10_0) rfl rfl kS) ?_
  show OFin p e below s _ _ _ (T0.setTop (mkF m 1 #[.val (.ref a), .val (.ref x), .unset, .unset] [(.ref x)]))
  obtain ⟨v1479, T1479, L1479, X1479, hQ1479, st1479⟩ := own_virtual X0 hx hZ (y := (⟨"com/example/epicycle/epicycle/Timeout", "fireTick", "()J"⟩ : MethodName)) (z := (⟨"com/example/epicycle/epicycle/Timeout", "fireTick", "()J"⟩ : MethodName)) (rm := ⟨0, 0, 0, 0⟩) (W := 0) (a := x) (argsL := []) (rest := []) hown (own_w hw 83 rfl) (own_w hw 84 rfl) (notFace_of_selects (args := #[]) (mvT hZ (own_w hw 86 rfl))) (own_w hw 86 rfl) (own_w hw 85 rfl) (own_w hw 67 rfl) (own_w hw 87 rfl) (rmFT l Z a0 hw x h0 ft 0 0 ⟨u1464, u1465, u1466, u1467⟩) e0 u1464 (g := (mkF m 1 #[.val (.ref a), .val (.ref x), .unset, .unset] [(.ref x)])) rfl (by rw [hml]; rfl) (lenOf own_pd11 rfl) rfl (by show 2 * 0 + _ ≤ _; exact Nat.le_of_eq rfl) (hb hby own_d10_1) (by decide) (by decide) (by decide) (by decide)
  obtain ⟨rfl, e1479, rfl⟩ := hQ1479
  rw [List.append_nil] at X1479
  refine own_st (st1479) ?_
  clear st1479 X0 e0
  show OFin p e below s _ _ _ (T1479.setTop (mkF m 4 #[.val (.ref a), .val (.ref x), .unset, .unset] [(.long ft)]))
  refine own_st (fun _ kS => XS.aloadN X1479.here hx rfl (hb hby own_d10_4) rfl rfl kS) ?_
  show OFin p e below s _ _ _ (T1479.setTop (mkF m 5 #[.val (.ref a), .val (.ref x), .unset, .unset] [(.ref a), (.long ft)]))
  obtain ⟨T1480, X1480, e1480, st1480⟩ := getF X1479 hx hZ hown (host := "") (Or.inl (own_w hw 61 rfl)) Via.refl e1479 u1450 (g := (mkF m 5 #[.val (.ref a), .val (.ref x), .unset, .unset] [(.ref a), (.long ft)])) rfl rfl (hb hby own_d10_5)
  refine own_st (st1480) ?_
  clear st1480 X1479 e1479
  show OFin p e below s _ _ _ (T1480.setTop (mkF m 8 #[.val (.ref a), .val (.ref x), .unset, .unset] [(.int lv), (.long ft)]))
  obtain ⟨v1481, T1481, L1481, X1481, hQ1481, st1481⟩ := own_static X1480 hx hZ (y := (⟨"com/example/epicycle/epicycle/SlotRing", "digit", "(JI)I"⟩ : MethodName)) (rm := ⟨0, 0, 0, 0⟩) (W := 0) (argsL := [(.long ft), (.int lv)]) (rest := []) hown (own_w hw 88 rfl) (own_w hw 89 rfl) (own_w hw 52 rfl) (own_w hw 90 rfl) (rmDG l Z a0 hw ft lv h0) e1480 (g := (mkF m 8 #[.val (.ref a), .val (.ref x), .unset, .unset] [(.int lv), (.long ft)])) rfl (by rw [hml]; rfl) (lenOf own_pd12 rfl) rfl (by show 2 * 0 + _ ≤ _; exact Nat.le_of_eq rfl) (hb hby own_d10_8) (by decide) (by decide) (by decide) (by decide)
  obtain ⟨rfl, e1481, rfl⟩ := hQ1481
  rw [List.append_nil] at X1481
  refine own_st (st1481) ?_
  clear st1481 X1480 e1480
  show OFin p e below s _ _ _ (T1481.setTop (mkF m 11 #[.val (.ref a), .val (.ref x), .unset, .unset] [(.int (own_dig ft lv))]))
  rw [hd]
  show OFin p e below s _ _ _ (T1481.setTop (mkF m 11 #[.val (.ref a), .val (.ref x), .unset, .unset] [(.int d)]))
  refine own_st (fun _ kS => XS.istoreN X1481.here hx rfl (hb hby own_d10_11) rfl (l' := #[.val (.ref a), .val (.ref x), .val (.int d), .unset]) rfl kS) ?_
  show OFin p e below s _ _ _ (T1481.setTop (mkF m 12 #[.val (.ref a), .val (.ref x), .val (.int d), .unset] []))
  refine own_st (fun _ kS => XS.aloadN X1481.here hx rfl (hb hby own_d10_12) rfl rfl kS) ?_
  show OFin p e below s _ _ _ (T1481.setTop (mkF m 13 #[.val (.ref a), .val (.ref x), .val (.int d), .unset] [(.ref a)]))
  obtain ⟨T1482, X1482, e1482, st1482⟩ := getF X1481 hx hZ hown (host := "") (Or.inl (own_w hw 59 rfl)) Via.refl e1481 u1449 (g := (mkF m 13 #[.val (.ref a), .val (.ref x), .val (.int d), .unset] [(.ref a)])) rfl rfl (hb hby own_d10_13)
  refine own_st (st1482) ?_
  clear st1482 X1481 e1481
  show OFin p e below s _ _ _ (T1482.setTop (mkF m 16 #[.val (.ref a), .val (.ref x), .val (.int d), .unset] [(.ref sa)]))
  refine own_st (fun _ kS => XS.iloadN X1482.here hx rfl (hb hby own_d10_16) rfl kS) ?_
  show OFin p e below s _ _ _ (T1482.setTop (mkF m 17 #[.val (.ref a), .val (.ref x), .val (.int d), .unset] [(.int d), (.ref sa)]))
  obtain ⟨cl1483, Ar1483, S1483, B1483, H1483, O1483⟩ := id u1453
  refine own_st (X1482.aaload hx (j := d) (v := (.ref sl)) (by rw [e1482]; exact Ar1483.1) (State.isArrayOf_alike hZ.alike Ar1483.2.1) rfl Ar1483.2.2 (own_inb S1483 q0 q1 hd64) ((own_hv H1483 q1 hd64).trans (congrArg some (hs))) (g := (mkF m 17 #[.val (.ref a), .val (.ref x), .val (.int d), .unset] [(.int d), (.ref sa)])) rfl rfl (hb hby own_d10_17)) ?_
  clear Ar1483 S1483 B1483 H1483 O1483
  show OFin p e below s _ _ _ (T1482.setTop (mkF m 18 #[.val (.ref a), .val (.ref x), .val (.int d), .unset] [(.ref sl)]))
  refine own_st (fun _ kS => XS.astoreN X1482.here hx rfl (hb hby own_d10_18) rfl rfl (l' := #[.val (.ref a), .val (.ref x), .val (.int d), .val (.ref sl)]) rfl kS) ?_
  show OFin p e below s _ _ _ (T1482.setTop (mkF m 19 #[.val (.ref a), .val (.ref x), .val (.int d), .val (.ref sl)] []))
  refine own_st (fun _ kS => XS.aloadN X1482.here hx rfl (hb hby own_d10_19) rfl rfl kS) ?_
  show OFin p e below s _ _ _ (T1482.setTop (mkF m 20 #[.val (.ref a), .val (.ref x), .val (.int d), .val (.ref sl)] [(.ref sl)]))
  refine own_st (fun _ kS => XS.ifnonnullYes X1482.here hx rfl (pc0 := 20) (pc' := 42) rfl (hb hby own_d10_20) rfl (by decide) (by decide) kS) ?_
  show OFin p e below s _ _ _ (T1482.setTop (mkF m 42 #[.val (.ref a), .val (.ref x), .val (.int d), .val (.ref sl)] []))
  refine own_st (fun _ kS => XS.aloadN X1482.here hx rfl (hb hby own_d10_42) rfl rfl kS) ?_
  show OFin p e below s _ _ _ (T1482.setTop (mkF m 43 #[.val (.ref a), .val (.ref x), .val (.int d), .val (.ref sl)] [(.ref sl)]))
  refine own_st (fun _ kS => XS.dup X1482.here hx rfl (hb hby own_d10_43) rfl rfl kS) ?_
  show OFin p e below s _ _ _ (T1482.setTop (mkF m 44 #[.val (.ref a), .val (.ref x), .val (.int d), .val (.ref sl)] [(.ref sl), (.ref sl)]))
  obtain ⟨T1484, X1484, e1484, st1484⟩ := getF X1482 hx hZ hown (host := "") (Or.inl (own_w hw 109 rfl)) Via.refl e1482 u1472 (g := (mkF m 44 #[.val (.ref a), .val (.ref x), .val (.int d), .val (.ref sl)] [(.ref sl), (.ref sl)])) rfl rfl (hb hby own_d10_44)
  refine own_st (st1484) ?_
  clear st1484 X1482 e1482
  show OFin p e below s _ _ _ (T1484.setTop (mkF m 47 #[.val (.ref a), .val (.ref x), .val (.int d), .val (.ref sl)] [(.int (1 : Int32)), (.ref sl)]))
  refine own_st (fun _ kS => XS.iconst X1484.here hx rfl (hb hby own_d10_47) kS) ?_
  show OFin p e below s _ _ _ (T1484.setTop (mkF m 48 #[.val (.ref a), .val (.ref x), .val (.int d), .val (.ref sl)] [(.int (1 : Int32)), (.int (1 : Int32)), (.ref sl)]))
  refine own_st (fun _ kS => XS.iadd X1484.here hx rfl (hb hby own_d10_48) rfl kS) ?_
  show OFin p e below s _ _ _ (T1484.setTop (mkF m 49 #[.val (.ref a), .val (.ref x), .val (.int d), .val (.ref sl)] [(.int ((1 : Int32) + (1 : Int32))), (.ref sl)]))
  rw [show (((1 : Int32) + (1 : Int32))) = (2 : Int32) from by decide]
  show OFin p e below s _ _ _ (T1484.setTop (mkF m 49 #[.val (.ref a), .val (.ref x), .val (.int d), .val (.ref sl)] [(.int (2 : Int32)), (.ref sl)]))
  obtain ⟨T1485, h1485, X1485, e1485, W1485, st1485⟩ := putF X1484 hx hZ hown (host := "") (Or.inl (own_w hw 109 rfl)) Via.refl e1484 u1472 u1468 (Or.inl (own_w hw 110 rfl)) (own_w hw 91 rfl) (ty := .int) (by decide) rfl rfl (g := (mkF m 49 #[.val (.ref a), .val (.ref x), .val (.int d), .val (.ref sl)] [(.int (2 : Int32)), (.ref sl)])) rfl rfl (hb hby own_d10_49)
  have f1486 := u1472.same W1485
  have f1487 := u1448.wr W1485
  clear u1448
  have f1488 := u1449.other W1485 (Or.inl ne_a_sl)
  clear u1449
  have f1489 := u1450.other W1485 (Or.inl ne_a_sl)
  clear u1450
  have f1490 := u1451.other W1485 (Or.inl ne_a_sl)
  clear u1451
  have f1491 := u1452.other W1485 (Or.inl ne_a_sl)
  clear u1452
  have f1492 := u1453.other W1485 ne_sa_sl
  clear u1453
  have f1493 := u1454.wr W1485
  clear u1454
  have f1494 := u1455.other W1485 (Or.inl ne_tt_sl)
  clear u1455
  have f1495 := u1456.other W1485 (Or.inl ne_tt_sl)
  clear u1456
  have f1496 := u1457.other W1485 (Or.inl ne_tt_sl)
  clear u1457
  have f1497 := u1458.wr W1485
  clear u1458
  have f1498 := u1459.other W1485 (Or.inl ne_cl_sl)
  clear u1459
  have f1499 := u1460.other W1485 (Or.inl ne_cl_sl)
  clear u1460
  have f1500 := u1461.other W1485 (Or.inl ne_cl_sl)
  clear u1461
  have f1501 := u1462.other W1485 ne_ck_sl
  clear u1462
  have f1502 := u1463.other W1485 ne_c0_sl
  clear u1463
  have f1503 := u1464.wr W1485
  clear u1464
  have f1504 := u1465.other W1485 (Or.inl ne_x_sl)
  clear u1465
  have f1505 := u1466.other W1485 (Or.inl ne_x_sl)
  clear u1466
  have f1506 := u1467.other W1485 (Or.inl ne_x_sl)
  clear u1467
  have f1507 := u1468.wr W1485
  clear u1468
  have f1508 := u1469.other W1485 (Or.inr (slot_ne (Or.inl (own_w hw 103 rfl)) (Or.inl (own_w hw 110 rfl)) (by decide) (t := .int) (t' := .int) (by decide) (by decide)))
  clear u1469
  have f1509 := u1470.other W1485 (Or.inr (slot_ne (Or.inl (own_w hw 105 rfl)) (Or.inl (own_w hw 110 rfl)) (by decide) (t := .int) (t' := .int) (by decide) (by decide)))
  clear u1470
  have f1510 := u1471.other W1485 (Or.inr (slot_ne (Or.inr (own_w hw 107 rfl)) (Or.inl (own_w hw 110 rfl)) (by decide) (t := (.object "com/example/epicycle/epicycle/TimeoutTable")) (t' := .int) (by decide) (by decide)))
  clear u1471
  have f1512 := u1473.other W1485 (Or.inr (slot_ne (Or.inl (own_w hw 122 rfl)) (Or.inl (own_w hw 110 rfl)) (by decide) (t := .long) (t' := .int) (by decide) (by decide)))
  clear u1473
  have f1513 := u1474.other W1485 (Or.inr (slot_ne (Or.inl (own_w hw 114 rfl)) (Or.inl (own_w hw 110 rfl)) (by decide) (t := (.object "com/example/epicycle/epicycle/SlotRing")) (t' := .int) (by decide) (by decide)))
  clear u1474
  have f1514 := u1475.wr W1485
  clear u1475
  have f1515 := u1476.other W1485 (Or.inl (Ne.symm ne_sl_y))
  clear u1476
  have f1516 := u1477.other W1485 (Or.inl (Ne.symm ne_sl_y))
  clear u1477
  have f1517 := u1478.other W1485 (Or.inl (Ne.symm ne_sl_y))
  clear u1478
  have sz1485 : n0 ≤ h1485.size := by rw [W1485.size]; exact Z0
  have fr1485 := Fr.snoc X1485 N0 g_sl
  clear N0
  have kp1485 := kp0.wr W1485 (Or.inl (List.mem_of_getElem? (i := 1) rfl))
  clear kp0
  refine own_st (st1485) ?_
  clear st1485 X1484 e1484 W1485 u1472
  show OFin p e below s _ _ _ (T1485.setTop (mkF m 52 #[.val (.ref a), .val (.ref x), .val (.int d), .val (.ref sl)] []))
  refine own_st (fun _ kS => XS.aloadN X1485.here hx rfl (hb hby own_d10_52) rfl rfl kS) ?_
  show OFin p e below s _ _ _ (T1485.setTop (mkF m 53 #[.val (.ref a), .val (.ref x), .val (.int d), .val (.ref sl)] [(.ref a)]))
  refine own_st (fun _ kS => XS.dup X1485.here hx rfl (hb hby own_d10_53) rfl rfl kS) ?_
  show OFin p e below s _ _ _ (T1485.setTop (mkF m 54 #[.val (.ref a), .val (.ref x), .val (.int d), .val (.ref sl)] [(.ref a), (.ref a)]))
  obtain ⟨T1518, X1518, e1518, st1518⟩ := getF X1485 hx hZ hown (host := "") (Or.inl (own_w hw 111 rfl)) Via.refl e1485 f1491 (g := (mkF m 54 #[.val (.ref a), .val (.ref x), .val (.int d), .val (.ref sl)] [(.ref a), (.ref a)])) rfl rfl (hb hby own_d10_54)
  refine own_st (st1518) ?_
  clear st1518 X1485 e1485
  show OFin p e below s _ _ _ (T1518.setTop (mkF m 57 #[.val (.ref a), .val (.ref x), .val (.int d), .val (.ref sl)] [(.long oc), (.ref a)]))
  refine own_st (fun _ kS => XS.lconst X1518.here hx rfl (hb hby own_d10_57) kS) ?_
  show OFin p e below s _ _ _ (T1518.setTop (mkF m 58 #[.val (.ref a), .val (.ref x), .val (.int d), .val (.ref sl)] [(.long (1 : Int64)), (.long oc), (.ref a)]))
  refine own_st (fun _ kS => XS.iloadN X1518.here hx rfl (hb hby own_d10_58) rfl kS) ?_
  show OFin p e below s _ _ _ (T1518.setTop (mkF m 59 #[.val (.ref a), .val (.ref x), .val (.int d), .val (.ref sl)] [(.int d), (.long (1 : Int64)), (.long oc), (.ref a)]))
  refine own_st (fun _ kS => XS.lshl X1518.here hx rfl (hb hby own_d10_59) rfl kS) ?_
  show OFin p e below s _ _ _ (T1518.setTop (mkF m 60 #[.val (.ref a), .val (.ref x), .val (.int d), .val (.ref sl)] [(.long ((1 : Int64) <<< (d &&& 0x3f).toInt64)), (.long oc), (.ref a)]))
  refine own_st (fun _ kS => XS.lor X1518.here hx rfl (hb hby own_d10_60) rfl kS) ?_
  show OFin p e below s _ _ _ (T1518.setTop (mkF m 61 #[.val (.ref a), .val (.ref x), .val (.int d), .val (.ref sl)] [(.long (oc ||| ((1 : Int64) <<< (d &&& 0x3f).toInt64))), (.ref a)]))
  show OFin p e below s _ _ _ (T1518.setTop (mkF m 61 #[.val (.ref a), .val (.ref x), .val (.int d), .val (.ref sl)] [(.long (oc ||| own_bit d)), (.ref a)]))
  obtain ⟨T1519, h1519, X1519, e1519, W1519, st1519⟩ := putF X1518 hx hZ hown (host := "") (Or.inl (own_w hw 111 rfl)) Via.refl e1518 f1491 f1487 (Or.inl (own_w hw 112 rfl)) (own_w hw 51 rfl) (ty := .long) (by decide) rfl rfl (g := (mkF m 61 #[.val (.ref a), .val (.ref x), .val (.int d), .val (.ref sl)] [(.long (oc ||| own_bit d)), (.ref a)])) rfl rfl (hb hby own_d10_61)
  have f1520 := f1491.same W1519
  have f1521 := f1487.wr W1519
  clear f1487
  have f1522 := f1488.other W1519 (Or.inr (slot_ne (Or.inr (own_w hw 60 rfl)) (Or.inl (own_w hw 112 rfl)) (by decide) (t := (.array (.object "com/example/epicycle/epicycle/SlotRing$Slot"))) (t' := .long) (by decide) (by decide)))
  clear f1488
  have f1523 := f1489.other W1519 (Or.inr (slot_ne (Or.inr (own_w hw 62 rfl)) (Or.inl (own_w hw 112 rfl)) (by decide) (t := .int) (t' := .long) (by decide) (by decide)))
  clear f1489
  have f1524 := f1490.other W1519 (Or.inr (slot_ne (Or.inr (own_w hw 64 rfl)) (Or.inl (own_w hw 112 rfl)) (by decide) (t := (.object "com/example/epicycle/epicycle/TimeoutTable")) (t' := .long) (by decide) (by decide)))
  clear f1490
  have f1526 := f1492.other W1519 (Ne.symm ne_a_sa)
  clear f1492
  have f1527 := f1493.wr W1519
  clear f1493
  have f1528 := f1494.other W1519 (Or.inl (Ne.symm ne_a_tt))
  clear f1494
  have f1529 := f1495.other W1519 (Or.inl (Ne.symm ne_a_tt))
  clear f1495
  have f1530 := f1496.other W1519 (Or.inl (Ne.symm ne_a_tt))
  clear f1496
  have f1531 := f1497.wr W1519
  clear f1497
  have f1532 := f1498.other W1519 (Or.inl (Ne.symm ne_a_cl))
  clear f1498
  have f1533 := f1499.other W1519 (Or.inl (Ne.symm ne_a_cl))
  clear f1499
  have f1534 := f1500.other W1519 (Or.inl (Ne.symm ne_a_cl))
  clear f1500
  have f1535 := f1501.other W1519 (Ne.symm ne_a_ck)
  clear f1501
  have f1536 := f1502.other W1519 (Ne.symm ne_a_c0)
  clear f1502
  have f1537 := f1503.wr W1519
  clear f1503
  have f1538 := f1504.other W1519 (Or.inl (Ne.symm ne_a_x))
  clear f1504
  have f1539 := f1505.other W1519 (Or.inl (Ne.symm ne_a_x))
  clear f1505
  have f1540 := f1506.other W1519 (Or.inl (Ne.symm ne_a_x))
  clear f1506
  have f1541 := f1507.wr W1519
  clear f1507
  have f1542 := f1508.other W1519 (Or.inl (Ne.symm ne_a_sl))
  clear f1508
  have f1543 := f1509.other W1519 (Or.inl (Ne.symm ne_a_sl))
  clear f1509
  have f1544 := f1510.other W1519 (Or.inl (Ne.symm ne_a_sl))
  clear f1510
  have f1545 := f1486.other W1519 (Or.inl (Ne.symm ne_a_sl))
  clear f1486
  have f1546 := f1512.other W1519 (Or.inl (Ne.symm ne_a_sl))
  clear f1512
  have f1547 := f1513.other W1519 (Or.inl (Ne.symm ne_a_sl))
  clear f1513
  have f1548 := f1514.wr W1519
  clear f1514
  have f1549 := f1515.other W1519 (Or.inl (Ne.symm ne_a_y))
  clear f1515
  have f1550 := f1516.other W1519 (Or.inl (Ne.symm ne_a_y))
  clear f1516
  have f1551 := f1517.other W1519 (Or.inl (Ne.symm ne_a_y))
  clear f1517
  have sz1519 : n0 ≤ h1519.size := by rw [W1519.size]; exact sz1485
  clear sz1485
  have fr1519 := Fr.snoc X1519 fr1485 g_a
  clear fr1485
  have kp1519 := kp1485.wr W1519 (Or.inl (List.mem_of_getElem? (i := 0) rfl))
  clear kp1485
  refine own_st (st1519) ?_
  clear st1519 X1518 e1518 W1519 f1491
  show OFin p e below s _ _ _ (T1519.setTop (mkF m 64 #[.val (.ref a), .val (.ref x), .val (.int d), .val (.ref sl)] []))
  refine own_st (fun _ kS => XS.aloadN X1519.here hx rfl (hb hby own_d10_64) rfl rfl kS) ?_
  show OFin p e below s _ _ _ (T1519.setTop (mkF m 65 #[.val (.ref a), .val (.ref x), .val (.int d), .val (.ref sl)] [(.ref sl)]))
  obtain ⟨T1552, X1552, e1552, st1552⟩ := getF X1519 hx hZ hown (host := "") (Or.inl (own_w hw 113 rfl)) Via.refl e1519 f1547 (g := (mkF m 65 #[.val (.ref a), .val (.ref x), .val (.int d), .val (.ref sl)] [(.ref sl)])) rfl rfl (hb hby own_d10_65)
  refine own_st (st1552) ?_
  clear st1552 X1519 e1519
  show OFin p e below s _ _ _ (T1552.setTop (mkF m 68 #[.val (.ref a), .val (.ref x), .val (.int d), .val (.ref sl)] [.null]))
  refine own_st (fun _ kS => XS.ifnullYes X1552.here hx rfl (pc0 := 68) (pc' := 82) rfl (hb hby own_d10_68) rfl (by decide) (by decide) kS) ?_
  show OFin p e below s _ _ _ (T1552.setTop (mkF m 82 #[.val (.ref a), .val (.ref x), .val (.int d), .val (.ref sl)] []))
  refine own_st (fun _ kS => XS.aloadN X1552.here hx rfl (hb hby own_d10_82) rfl rfl kS) ?_
  show OFin p e below s _ _ _ (T1552.setTop (mkF m 83 #[.val (.ref a), .val (.ref x), .val (.int d), .val (.ref sl)] [(.ref sl)]))
  obtain ⟨v1553, T1553, L1553, X1553, hQ1553, st1553⟩ := own_virtualUp X1552 hx hZ (owner := "com/example/epicycle/epicycle/TimeoutList") (y := (⟨"com/example/epicycle/epicycle/SlotRing$Slot", "isEmpty", "()Z"⟩ : MethodName)) (z := (⟨"com/example/epicycle/epicycle/TimeoutList", "isEmpty", "()Z"⟩ : MethodName)) (rm := ⟨0, 0, 0, 0⟩) (W := 0) (a := sl) (argsL := []) (rest := []) hown (own_w hw 115 rfl) (own_w hw 116 rfl) (own_w hw 117 rfl) (own_w hw 119 rfl) (own_w hw 118 rfl) (own_w hw 99 rfl) (own_w hw 120 rfl) (rmIE0 l Z a0 hw sl h1519 tt (1 : Int32) (1 : Int32) (2 : Int32) ea ⟨f1541, f1542, f1543, f1544, f1545, f1546, f1547⟩ (by decide)) e1552 f1541 (g := (mkF m 83 #[.val (.ref a), .val (.ref x), .val (.int d), .val (.ref sl)] [(.ref sl)])) rfl (by rw [hml]; rfl) (lenOf own_pd13 rfl) rfl (by show 2 * 0 + _ ≤ _; exact Nat.le_of_eq rfl) (hb hby own_d10_83) (by decide) (by decide) (by decide) (by decide)
  obtain ⟨rfl, e1553, rfl⟩ := hQ1553
  rw [List.append_nil] at X1553
  refine own_st (st1553) ?_
  clear st1553 X1552 e1552
  show OFin p e below s _ _ _ (T1553.setTop (mkF m 86 #[.val (.ref a), .val (.ref x), .val (.int d), .val (.ref sl)] [(.int (0 : Int32))]))
  refine own_st (fun _ kS => XS.ifNo X1553.here hx rfl (hb hby own_d10_86) rfl ((if0 _ _).trans (teq rfl).2) kS) ?_
  show OFin p e below s _ _ _ (T1553.setTop (mkF m 89 #[.val (.ref a), .val (.ref x), .val (.int d), .val (.ref sl)] []))
  refine own_st (fun _ kS => XS.aloadN X1553.here hx rfl (hb hby own_d10_89) rfl rfl kS) ?_
  show OFin p e below s _ _ _ (T1553.setTop (mkF m 90 #[.val (.ref a), .val (.ref x), .val (.int d), .val (.ref sl)] [(.ref x)]))
  obtain ⟨v1554, T1554, L1554, X1554, hQ1554, st1554⟩ := own_virtual X1553 hx hZ (y := (⟨"com/example/epicycle/epicycle/Timeout", "fireTick", "()J"⟩ : MethodName)) (z := (⟨"com/example/epicycle/epicycle/Timeout", "fireTick", "()J"⟩ : MethodName)) (rm := ⟨0, 0, 0, 0⟩) (W := 0) (a := x) (argsL := []) (rest := []) hown (own_w hw 83 rfl) (own_w hw 84 rfl) (notFace_of_selects (args := #[]) (mvT hZ (own_w hw 86 rfl))) (own_w hw 86 rfl) (own_w hw 85 rfl) (own_w hw 67 rfl) (own_w hw 87 rfl) (rmFT l Z a0 hw x h1519 ft 0 0 ⟨f1537, f1538, f1539, f1540⟩) e1553 f1537 (g := (mkF m 90 #[.val (.ref a), .val (.ref x), .val (.int d), .val (.ref sl)] [(.ref x)])) rfl (by rw [hml]; rfl) (lenOf own_pd11 rfl) rfl (by show 2 * 0 + _ ≤ _; exact Nat.le_of_eq rfl) (hb hby own_d10_90) (by decide) (by decide) (by decide) (by decide)
  obtain ⟨rfl, e1554, rfl⟩ := hQ1554
  rw [List.append_nil] at X1554
  refine own_st (st1554) ?_
  clear st1554 X1553 e1553
  show OFin p e below s _ _ _ (T1554.setTop (mkF m 93 #[.val (.ref a), .val (.ref x), .val (.int d), .val (.ref sl)] [(.long ft)]))
  refine own_st (fun _ kS => XS.aloadN X1554.here hx rfl (hb hby own_d10_93) rfl rfl kS) ?_
  show OFin p e below s _ _ _ (T1554.setTop (mkF m 94 #[.val (.ref a), .val (.ref x), .val (.int d), .val (.ref sl)] [(.ref sl), (.long ft)]))
  obtain ⟨T1555, X1555, e1555, st1555⟩ := getF X1554 hx hZ hown (host := "") (Or.inl (own_w hw 121 rfl)) Via.refl e1554 f1546 (g := (mkF m 94 #[.val (.ref a), .val (.ref x), .val (.int d), .val (.ref sl)] [(.ref sl), (.long ft)])) rfl rfl (hb hby own_d10_94)
  refine own_st (st1555) ?_
  clear st1555 X1554 e1554
  show OFin p e below s _ _ _ (T1555.setTop (mkF m 97 #[.val (.ref a), .val (.ref x), .val (.int d), .val (.ref sl)] [(.long ea), (.long ft)]))
  refine own_st (fun _ kS => XS.lsub X1555.here hx rfl (hb hby own_d10_97) rfl kS) ?_
  show OFin p e below s _ _ _ (T1555.setTop (mkF m 98 #[.val (.ref a), .val (.ref x), .val (.int d), .val (.ref sl)] [(.long (ft - ea))]))
  refine own_st (fun _ kS => XS.lconst X1555.here hx rfl (hb hby own_d10_98) kS) ?_
  show OFin p e below s _ _ _ (T1555.setTop (mkF m 99 #[.val (.ref a), .val (.ref x), .val (.int d), .val (.ref sl)] [(.long (0 : Int64)), (.long (ft - ea))]))
  refine own_st (fun _ kS => XS.lcmp X1555.here hx rfl (hb hby own_d10_99) rfl kS) ?_
  show OFin p e below s _ _ _ (T1555.setTop (mkF m 100 #[.val (.ref a), .val (.ref x), .val (.int d), .val (.ref sl)] [(.int (lcmpW (ft - ea) (0 : Int64)))]))
  by_cases ce : (lcmpW (ft - ea) (0 : Int64)) < (0 : Int32)
  · refine own_st (fun _ kS => XS.ifNo X1555.here hx rfl (hb hby own_d10_100) rfl ((if0 _ _).trans (tlt ce).2.1) kS) ?_
    show OFin p e below s _ _ _ (T1555.setTop (mkF m 103 #[.val (.ref a), .val (.ref x), .val (.int d), .val (.ref sl)] []))
    refine own_st (fun _ kS => XS.aloadN X1555.here hx rfl (hb hby own_d10_103) rfl rfl kS) ?_
    show OFin p e below s _ _ _ (T1555.setTop (mkF m 104 #[.val (.ref a), .val (.ref x), .val (.int d), .val (.ref sl)] [(.ref sl)]))
    refine own_st (fun _ kS => XS.aloadN X1555.here hx rfl (hb hby own_d10_104) rfl rfl kS) ?_
    show OFin p e below s _ _ _ (T1555.setTop (mkF m 105 #[.val (.ref a), .val (.ref x), .val (.int d), .val (.ref sl)] [(.ref x), (.ref sl)]))
    obtain ⟨v1556, T1556, L1556, X1556, hQ1556, st1556⟩ := own_virtual X1555 hx hZ (y := (⟨"com/example/epicycle/epicycle/Timeout", "fireTick", "()J"⟩ : MethodName)) (z := (⟨"com/example/epicycle/epicycle/Timeout", "fireTick", "()J"⟩ : MethodName)) (rm := ⟨0, 0, 0, 0⟩) (W := 1) (a := x) (argsL := []) (rest := [(.ref sl)]) hown (own_w hw 83 rfl) (own_w hw 84 rfl) (notFace_of_selects (args := #[]) (mvT hZ (own_w hw 86 rfl))) (own_w hw 86 rfl) (own_w hw 85 rfl) (own_w hw 67 rfl) (own_w hw 87 rfl) (rmFT l Z a0 hw x h1519 ft 0 0 ⟨f1537, f1538, f1539, f1540⟩) e1555 f1537 (g := (mkF m 105 #[.val (.ref a), .val (.ref x), .val (.int d), .val (.ref sl)] [(.ref x), (.ref sl)])) rfl (by rw [hml]; rfl) (lenOf own_pd11 rfl) rfl (by show 2 * 0 + _ ≤ _; exact Nat.le_of_eq rfl) (hb hby own_d10_105) (by decide) (by decide) (by decide) (by decide)
    obtain ⟨rfl, e1556, rfl⟩ := hQ1556
    rw [List.append_nil] at X1556
    refine own_st (st1556) ?_
    clear st1556 X1555 e1555
    show OFin p e below s _ _ _ (T1556.setTop (mkF m 108 #[.val (.ref a), .val (.ref x), .val (.int d), .val (.ref sl)] [(.long ft), (.ref sl)]))
    obtain ⟨T1557, h1557, X1557, e1557, W1557, st1557⟩ := putF X1556 hx hZ hown (host := "") (Or.inl (own_w hw 121 rfl)) Via.refl e1556 f1546 f1541 (Or.inl (own_w hw 122 rfl)) (own_w hw 91 rfl) (ty := .long) (by decide) rfl rfl (g := (mkF m 108 #[.val (.ref a), .val (.ref x), .val (.int d), .val (.ref sl)] [(.long ft), (.ref sl)])) rfl rfl (hb hby own_d10_108)
    have f1558 := f1546.same W1557
    have f1559 := f1521.wr W1557
    clear f1521
    have f1560 := f1522.other W1557 (Or.inl ne_a_sl)
    clear f1522
    have f1561 := f1523.other W1557 (Or.inl ne_a_sl)
    clear f1523
    have f1562 := f1524.other W1557 (Or.inl ne_a_sl)
    clear f1524
    have f1563 := f1520.other W1557 (Or.inl ne_a_sl)
    clear f1520
    have f1564 := f1526.other W1557 ne_sa_sl
    clear f1526
    have f1565 := f1527.wr W1557
    clear f1527
    have f1566 := f1528.other W1557 (Or.inl ne_tt_sl)
    clear f1528
    have f1567 := f1529.other W1557 (Or.inl ne_tt_sl)
    clear f1529
    have f1568 := f1530.other W1557 (Or.inl ne_tt_sl)
    clear f1530
    have f1569 := f1531.wr W1557
    clear f1531
    have f1570 := f1532.other W1557 (Or.inl ne_cl_sl)
    clear f1532
    have f1571 := f1533.other W1557 (Or.inl ne_cl_sl)
    clear f1533
    have f1572 := f1534.other W1557 (Or.inl ne_cl_sl)
    clear f1534
    have f1573 := f1535.other W1557 ne_ck_sl
    clear f1535
    have f1574 := f1536.other W1557 ne_c0_sl
    clear f1536
    have f1575 := f1537.wr W1557
    clear f1537
    have f1576 := f1538.other W1557 (Or.inl ne_x_sl)
    clear f1538
    have f1577 := f1539.other W1557 (Or.inl ne_x_sl)
    clear f1539
    have f1578 := f1540.other W1557 (Or.inl ne_x_sl)
    clear f1540
    have f1579 := f1541.wr W1557
    clear f1541
    have f1580 := f1542.other W1557 (Or.inr (slot_ne (Or.inl (own_w hw 103 rfl)) (Or.inl (own_w hw 122 rfl)) (by decide) (t := .int) (t' := .long) (by decide) (by decide)))
    clear f1542
    have f1581 := f1543.other W1557 (Or.inr (slot_ne (Or.inl (own_w hw 105 rfl)) (Or.inl (own_w hw 122 rfl)) (by decide) (t := .int) (t' := .long) (by decide) (by decide)))
    clear f1543
    have f1582 := f1544.other W1557 (Or.inr (slot_ne (Or.inr (own_w hw 107 rfl)) (Or.inl (own_w hw 122 rfl)) (by decide) (t := (.object "com/example/epicycle/epicycle/TimeoutTable")) (t' := .long) (by decide) (by decide)))
    clear f1544
    have f1583 := f1545.other W1557 (Or.inr (slot_ne (Or.inl (own_w hw 110 rfl)) (Or.inl (own_w hw 122 rfl)) (by decide) (t := .int) (t' := .long) (by decide) (by decide)))
    clear f1545
    have f1585 := f1547.other W1557 (Or.inr (slot_ne (Or.inl (own_w hw 114 rfl)) (Or.inl (own_w hw 122 rfl)) (by decide) (t := (.object "com/example/epicycle/epicycle/SlotRing")) (t' := .long) (by decide) (by decide)))
    clear f1547
    have f1586 := f1548.wr W1557
    clear f1548
    have f1587 := f1549.other W1557 (Or.inl (Ne.symm ne_sl_y))
    clear f1549
    have f1588 := f1550.other W1557 (Or.inl (Ne.symm ne_sl_y))
    clear f1550
    have f1589 := f1551.other W1557 (Or.inl (Ne.symm ne_sl_y))
    clear f1551
    have sz1557 : n0 ≤ h1557.size := by rw [W1557.size]; exact sz1519
    clear sz1519
    have fr1557 := Fr.snoc X1557 fr1519 g_sl
    clear fr1519
    have kp1557 := kp1519.wr W1557 (Or.inl (List.mem_of_getElem? (i := 1) rfl))
    clear kp1519
    refine own_st (st1557) ?_
    clear st1557 X1556 e1556 W1557 f1546
    show OFin p e below s _ _ _ (T1557.setTop (mkF m 111 #[.val (.ref a), .val (.ref x), .val (.int d), .val (.ref sl)] []))
    refine own_st (fun _ kS => XS.aloadN X1557.here hx rfl (hb hby own_d10_111) rfl rfl kS) ?_
    show OFin p e below s _ _ _ (T1557.setTop (mkF m 112 #[.val (.ref a), .val (.ref x), .val (.int d), .val (.ref sl)] [(.ref sl)]))
    refine own_st (fun _ kS => XS.aloadN X1557.here hx rfl (hb hby own_d10_112) rfl rfl kS) ?_
    show OFin p e below s _ _ _ (T1557.setTop (mkF m 113 #[.val (.ref a), .val (.ref x), .val (.int d), .val (.ref sl)] [(.ref x), (.ref sl)]))
    obtain ⟨v1590, T1590, L1590, X1590, hQ1590, st1590⟩ := own_virtualUp X1557 hx hZ (owner := "com/example/epicycle/epicycle/TimeoutList") (y := (⟨"com/example/epicycle/epicycle/SlotRing$Slot", "append", "(Lcom/example/epicycle/epicycle/Timeout;)V"⟩ : MethodName)) (z := (⟨"com/example/epicycle/epicycle/TimeoutList", "append", "(Lcom/example/epicycle/epicycle/Timeout;)V"⟩ : MethodName)) (rm := ⟨4, 0, 0, 53⟩) (W := 0) (a := sl) (argsL := [(.ref x)]) (rest := []) hown (own_w hw 123 rfl) (own_w hw 124 rfl) (own_w hw 125 rfl) (own_w hw 127 rfl) (own_w hw 126 rfl) (own_w hw 99 rfl) (own_w hw 128 rfl) (rmAP2 l Z a0 hw sl x h1557 n0 sz1557 tt cl ck c0 y (2 : Int32) ft ft fy f g ⟨f1579, f1580, f1581, f1582, f1583, f1558, f1585⟩ ⟨f1565, f1566, f1567, f1568⟩ ⟨f1569, f1570, f1571, f1572, f1573, f1574⟩ ⟨f1575, f1576, f1577, f1578⟩ ⟨f1586, f1587, f1588, f1589⟩ g_sl g_x g_cl g_c0 g_y (Ne.symm ne_tt_sl) (Ne.symm ne_cl_sl) (Ne.symm ne_ck_sl) (Ne.symm ne_c0_sl) (Ne.symm ne_x_sl) ne_sl_y ne_tt_cl ne_tt_ck ne_tt_c0 ne_tt_x ne_tt_y ne_cl_ck ne_cl_c0 ne_cl_x ne_cl_y ne_ck_c0 ne_ck_x ne_ck_y ne_c0_x ne_c0_y ne_x_y hf hg) e1557 f1579 (g := (mkF m 113 #[.val (.ref a), .val (.ref x), .val (.int d), .val (.ref sl)] [(.ref x), (.ref sl)])) rfl (by rw [hml]; rfl) (lenOf own_pd14 rfl) rfl (by show 2 * 0 + _ ≤ _; exact Nat.le_of_eq rfl) (hb hby own_d10_113) (by decide) (by decide) (by decide) (by decide)
    obtain ⟨rfl, N1590, K1590, B1590_0, B1590_1, B1590_2, B1590_3⟩ := hQ1590
    have fr1590 := Fr.app fr1557 N1590
    clear fr1557 N1590
    have kp1590 := kp1557.trans K1590 (allS (Or.inl (List.mem_of_getElem? (i := 1) rfl)) (allS (Or.inl (List.mem_of_getElem? (i := 2) rfl)) (allS (Or.inl (List.mem_of_getElem? (i := 3) rfl)) (allS (Or.inl (List.mem_of_getElem? (i := 4) rfl)) (allS (Or.inl (List.mem_of_getElem? (i := 5) rfl)) all0)))))
    clear kp1557
    have f1591 := f1559.keep K1590
    clear f1559
    have f1592 := f1560.keep K1590 (ninS ne_a_sl (ninS ne_a_x (ninS ne_a_cl (ninS ne_a_c0 (ninS ne_a_y nin0)))))
    clear f1560
    have f1593 := f1561.keep K1590 (ninS ne_a_sl (ninS ne_a_x (ninS ne_a_cl (ninS ne_a_c0 (ninS ne_a_y nin0)))))
    clear f1561
    have f1594 := f1562.keep K1590 (ninS ne_a_sl (ninS ne_a_x (ninS ne_a_cl (ninS ne_a_c0 (ninS ne_a_y nin0)))))
    clear f1562
    have f1595 := f1563.keep K1590 (ninS ne_a_sl (ninS ne_a_x (ninS ne_a_cl (ninS ne_a_c0 (ninS ne_a_y nin0)))))
    clear f1563
    have f1596 := f1564.keep K1590 (ninS ne_sa_sl (ninS ne_sa_x (ninS ne_sa_cl (ninS ne_sa_c0 (ninS ne_sa_y nin0)))))
    clear f1564
    have f1597 := f1565.keep K1590
    clear f1565
    have f1598 := f1566.keep K1590 (ninS ne_tt_sl (ninS ne_tt_x (ninS ne_tt_cl (ninS ne_tt_c0 (ninS ne_tt_y nin0)))))
    clear f1566
    have f1599 := f1567.keep K1590 (ninS ne_tt_sl (ninS ne_tt_x (ninS ne_tt_cl (ninS ne_tt_c0 (ninS ne_tt_y nin0)))))
    clear f1567
    have f1600 := f1568.keep K1590 (ninS ne_tt_sl (ninS ne_tt_x (ninS ne_tt_cl (ninS ne_tt_c0 (ninS ne_tt_y nin0)))))
    clear f1568
    have f1601 := f1569.keep K1590
    clear f1569
    clear f1570
    clear f1571
    clear f1572
    have f1605 := f1573.keep K1590 (ninS ne_ck_sl (ninS ne_ck_x (ninS (Ne.symm ne_cl_ck) (ninS ne_ck_c0 (ninS ne_ck_y nin0)))))
    clear f1573
    clear f1574
    have f1607 := f1575.keep K1590
    clear f1575
    clear f1576
    clear f1577
    clear f1578
    have f1611 := f1579.keep K1590
    clear f1579
    clear f1580
    clear f1581
    clear f1582
    clear f1583
    clear f1558
    clear f1585
    have f1618 := f1586.keep K1590
    clear f1586
    clear f1587
    clear f1588
    clear f1589
    have sz1590 : n0 ≤ T1590.heap.size := Nat.le_trans sz1557 K1590.1
    clear sz1557
    clear K1590
    obtain ⟨u1622, u1623, u1624, u1625, u1626, u1627, u1628⟩ := B1590_0
    obtain ⟨u1629, u1630, u1631, u1632, u1633, u1634⟩ := B1590_1
    obtain ⟨u1635, u1636, u1637, u1638⟩ := B1590_2
    obtain ⟨u1639, u1640, u1641, u1642⟩ := B1590_3
    refine own_st (st1590) ?_
    clear st1590 X1557 e1557
    show OFin p e below s _ _ _ (T1590.setTop (mkF m 116 #[.val (.ref a), .val (.ref x), .val (.int d), .val (.ref sl)] []))
    refine own_st (fun _ kS => XS.aloadN X1590.here hx rfl (hb hby own_d10_116) rfl rfl kS) ?_
    show OFin p e below s _ _ _ (T1590.setTop (mkF m 117 #[.val (.ref a), .val (.ref x), .val (.int d), .val (.ref sl)] [(.ref a)]))
    obtain ⟨T1643, X1643, e1643, st1643⟩ := getF X1590 hx hZ hown (host := "") (Or.inl (own_w hw 61 rfl)) Via.refl rfl f1593 (g := (mkF m 117 #[.val (.ref a), .val (.ref x), .val (.int d), .val (.ref sl)] [(.ref a)])) rfl rfl (hb hby own_d10_117)
    refine own_st (st1643) ?_
    clear st1643 X1590
    show OFin p e below s _ _ _ (T1643.setTop (mkF m 120 #[.val (.ref a), .val (.ref x), .val (.int d), .val (.ref sl)] [(.int lv)]))
    by_cases cl1644 : (0 : Int32) < lv
    · refine own_st (fun _ kS => XS.ifNo X1643.here hx rfl (hb hby own_d10_120) rfl ((if0 _ _).trans (tlt cl1644).2.2.2) kS) ?_
      show OFin p e below s _ _ _ (T1643.setTop (mkF m 123 #[.val (.ref a), .val (.ref x), .val (.int d), .val (.ref sl)] []))
      refine own_st (fun _ kS => XS.aloadN X1643.here hx rfl (hb hby own_d10_123) rfl rfl kS) ?_
      show OFin p e below s _ _ _ (T1643.setTop (mkF m 124 #[.val (.ref a), .val (.ref x), .val (.int d), .val (.ref sl)] [(.ref sl)]))
      obtain ⟨T1645, X1645, e1645, st1645⟩ := getF X1643 hx hZ hown (host := "") (Or.inl (own_w hw 109 rfl)) Via.refl e1643 u1626 (g := (mkF m 124 #[.val (.ref a), .val (.ref x), .val (.int d), .val (.ref sl)] [(.ref sl)])) rfl rfl (hb hby own_d10_124)
      refine own_st (st1645) ?_
      clear st1645 X1643 e1643
      show OFin p e below s _ _ _ (T1645.setTop (mkF m 127 #[.val (.ref a), .val (.ref x), .val (.int d), .val (.ref sl)] [(.int (2 : Int32))]))
      refine own_st (fun _ kS => XS.sipush X1645.here hx rfl (hb hby own_d10_127) kS) ?_
      show OFin p e below s _ _ _ (T1645.setTop (mkF m 130 #[.val (.ref a), .val (.ref x), .val (.int d), .val (.ref sl)] [(.int (2048 : Int32)), (.int (2 : Int32))]))
      refine own_st (fun _ kS => XS.icmpYes X1645.here hx rfl (pc0 := 130) (pc' := 138) rfl (hb hby own_d10_130) rfl (flt (by decide)).2.2.2 (by decide) (by decide) kS) ?_
      show OFin p e below s _ _ _ (T1645.setTop (mkF m 138 #[.val (.ref a), .val (.ref x), .val (.int d), .val (.ref sl)] []))
      exact own_retV X1645 hx hret hlk (hb hby own_d10_138) (by decide) (by decide) (by show _ ∧ _ ∧ Keep h0 T1645.heap [a, sl, x, cl, c0, y] ∧ _; rw [e1645]; exact ⟨rfl, fr1590, kp1590, _, ⟨f1591, f1592, f1593, f1594, f1595, f1596⟩, ⟨u1622, u1623, u1624, u1625, u1626, u1627, u1628⟩, ⟨u1629, u1630, u1631, u1632, u1633, u1634⟩, ⟨u1635, u1636, u1637, u1638⟩, ⟨u1639, u1640, u1641, u1642⟩⟩)
    · refine own_st (fun _ kS => XS.ifYes X1643.here hx rfl (pc0 := 120) (pc' := 138) rfl (hb hby own_d10_120) rfl ((if0 _ _).trans (flt cl1644).2.2.2) (by decide) (by decide) kS) ?_
      show OFin p e below s _ _ _ (T1643.setTop (mkF m 138 #[.val (.ref a), .val (.ref x), .val (.int d), .val (.ref sl)] []))
      exact own_retV X1643 hx hret hlk (hb hby own_d10_138) (by decide) (by decide) (by show _ ∧ _ ∧ Keep h0 T1643.heap [a, sl, x, cl, c0, y] ∧ _; rw [e1643]; exact ⟨rfl, fr1590, kp1590, _, ⟨f1591, f1592, f1593, f1594, f1595, f1596⟩, ⟨u1622, u1623, u1624, u1625, u1626, u1627, u1628⟩, ⟨u1629, u1630, u1631, u1632, u1633, u1634⟩, ⟨u1635, u1636, u1637, u1638⟩, ⟨u1639, u1640, u1641, u1642⟩⟩)
  · refine own_st (fun _ kS => XS.ifYes X1555.here hx rfl (pc0 := 100) (pc' := 111) rfl (hb hby own_d10_100) rfl ((if0 _ _).trans (flt ce).2.1) (by decide) (by decide) kS) ?_
    show OFin p e below s _ _ _ (T1555.setTop (mkF m 111 #[.val (.ref a), .val (.ref x), .val (.int d), .val (.ref sl)] []))
    refine own_st (fun _ kS => XS.aloadN X1555.here hx rfl (hb hby own_d10_111) rfl rfl kS) ?_
    show OFin p e below s _ _ _ (T1555.setTop (mkF m 112 #[.val (.ref a), .val (.ref x), .val (.int d), .val (.ref sl)] [(.ref sl)]))
    refine own_st (fun _ kS => XS.aloadN X1555.here hx rfl (hb hby own_d10_112) rfl rfl kS) ?_
    show OFin p e below s _ _ _ (T1555.setTop (mkF m 113 #[.val (.ref a), .val (.ref x), .val (.int d), .val (.ref sl)] [(.ref x), (.ref sl)]))
    obtain ⟨v1646, T1646, L1646, X1646, hQ1646, st1646⟩ := own_virtualUp X1555 hx hZ (owner := "com/example/epicycle/epicycle/TimeoutList") (y := (⟨"com/example/epicycle/epicycle/SlotRing$Slot", "append", "(Lcom/example/epicycle/epicycle/Timeout;)V"⟩ : MethodName)) (z := (⟨"com/example/epicycle/epicycle/TimeoutList", "append", "(Lcom/example/epicycle/epicycle/Timeout;)V"⟩ : MethodName)) (rm := ⟨4, 0, 0, 53⟩) (W := 0) (a := sl) (argsL := [(.ref x)]) (rest := []) hown (own_w hw 123 rfl) (own_w hw 124 rfl) (own_w hw 125 rfl) (own_w hw 127 rfl) (own_w hw 126 rfl) (own_w hw 99 rfl) (own_w hw 128 rfl) (rmAP2 l Z a0 hw sl x h1519 n0 sz1519 tt cl ck c0 y (2 : Int32) ea ft fy f g ⟨f1541, f1542, f1543, f1544, f1545, f1546, f1547⟩ ⟨f1527, f1528, f1529, f1530⟩ ⟨f1531, f1532, f1533, f1534, f1535, f1536⟩ ⟨f1537, f1538, f1539, f1540⟩ ⟨f1548, f1549, f1550, f1551⟩ g_sl g_x g_cl g_c0 g_y (Ne.symm ne_tt_sl) (Ne.symm ne_cl_sl) (Ne.symm ne_ck_sl) (Ne.symm ne_c0_sl) (Ne.symm ne_x_sl) ne_sl_y ne_tt_cl ne_tt_ck ne_tt_c0 ne_tt_x ne_tt_y ne_cl_ck ne_cl_c0 ne_cl_x ne_cl_y ne_ck_c0 ne_ck_x ne_ck_y ne_c0_x ne_c0_y ne_x_y hf hg) e1555 f1541 (g := (mkF m 113 #[.val (.ref a), .val (.ref x), .val (.int d), .val (.ref sl)] [(.ref x), (.ref sl)])) rfl (by rw [hml]; rfl) (lenOf own_pd14 rfl) rfl (by show 2 * 0 + _ ≤ _; exact Nat.le_of_eq rfl) (hb hby own_d10_113) (by decide) (by decide) (by decide) (by decide)
    obtain ⟨rfl, N1646, K1646, B1646_0, B1646_1, B1646_2, B1646_3⟩ := hQ1646
    have fr1646 := Fr.app fr1519 N1646
    clear fr1519 N1646
    have kp1646 := kp1519.trans K1646 (allS (Or.inl (List.mem_of_getElem? (i := 1) rfl)) (allS (Or.inl (List.mem_of_getElem? (i := 2) rfl)) (allS (Or.inl (List.mem_of_getElem? (i := 3) rfl)) (allS (Or.inl (List.mem_of_getElem? (i := 4) rfl)) (allS (Or.inl (List.mem_of_getElem? (i := 5) rfl)) all0)))))
    clear kp1519
    have f1647 := f1521.keep K1646
    clear f1521
    have f1648 := f1522.keep K1646 (ninS ne_a_sl (ninS ne_a_x (ninS ne_a_cl (ninS ne_a_c0 (ninS ne_a_y nin0)))))
    clear f1522
    have f1649 := f1523.keep K1646 (ninS ne_a_sl (ninS ne_a_x (ninS ne_a_cl (ninS ne_a_c0 (ninS ne_a_y nin0)))))
    clear f1523
    have f1650 := f1524.keep K1646 (ninS ne_a_sl (ninS ne_a_x (ninS ne_a_cl (ninS ne_a_c0 (ninS ne_a_y nin0)))))
    clear f1524
    have f1651 := f1520.keep K1646 (ninS ne_a_sl (ninS ne_a_x (ninS ne_a_cl (ninS ne_a_c0 (ninS ne_a_y nin0)))))
    clear f1520
    have f1652 := f1526.keep K1646 (ninS ne_sa_sl (ninS ne_sa_x (ninS ne_sa_cl (ninS ne_sa_c0 (ninS ne_sa_y nin0)))))
    clear f1526
    have f1653 := f1527.keep K1646
    clear f1527
    have f1654 := f1528.keep K1646 (ninS ne_tt_sl (ninS ne_tt_x (ninS ne_tt_cl (ninS ne_tt_c0 (ninS ne_tt_y nin0)))))
    clear f1528
    have f1655 := f1529.keep K1646 (ninS ne_tt_sl (ninS ne_tt_x (ninS ne_tt_cl (ninS ne_tt_c0 (ninS ne_tt_y nin0)))))
    clear f1529
    have f1656 := f1530.keep K1646 (ninS ne_tt_sl (ninS ne_tt_x (ninS ne_tt_cl (ninS ne_tt_c0 (ninS ne_tt_y nin0)))))
    clear f1530
    have f1657 := f1531.keep K1646
    clear f1531
    clear f1532
    clear f1533
    clear f1534
    have f1661 := f1535.keep K1646 (ninS ne_ck_sl (ninS ne_ck_x (ninS (Ne.symm ne_cl_ck) (ninS ne_ck_c0 (ninS ne_ck_y nin0)))))
    clear f1535
    clear f1536
    have f1663 := f1537.keep K1646
    clear f1537
    clear f1538
    clear f1539
    clear f1540
    have f1667 := f1541.keep K1646
    clear f1541
    clear f1542
    clear f1543
    clear f1544
    clear f1545
    clear f1546
    clear f1547
    have f1674 := f1548.keep K1646
    clear f1548
    clear f1549
    clear f1550
    clear f1551
    have sz1646 : n0 ≤ T1646.heap.size := Nat.le_trans sz1519 K1646.1
    clear sz1519
    clear K1646
    obtain ⟨u1678, u1679, u1680, u1681, u1682, u1683, u1684⟩ := B1646_0
    obtain ⟨u1685, u1686, u1687, u1688, u1689, u1690⟩ := B1646_1
    obtain ⟨u1691, u1692, u1693, u1694⟩ := B1646_2
    obtain ⟨u1695, u1696, u1697, u1698⟩ := B1646_3
    refine own_st (st1646) ?_
    clear st1646 X1555 e1555
    show OFin p e below s _ _ _ (T1646.setTop (mkF m 116 #[.val (.ref a), .val (.ref x), .val (.int d), .val (.ref sl)] []))
    refine own_st (fun _ kS => XS.aloadN X1646.here hx rfl (hb hby own_d10_116) rfl rfl kS) ?_
    show OFin p e below s _ _ _ (T1646.setTop (mkF m 117 #[.val (.ref a), .val (.ref x), .val (.int d), .val (.ref sl)] [(.ref a)]))
    obtain ⟨T1699, X1699, e1699, st1699⟩ := getF X1646 hx hZ hown (host := "") (Or.inl (own_w hw 61 rfl)) Via.refl rfl f1649 (g := (mkF m 117 #[.val (.ref a), .val (.ref x), .val (.int d), .val (.ref sl)] [(.ref a)])) rfl rfl (hb hby own_d10_117)
    refine own_st (st1699) ?_
    clear st1699 X1646
    show OFin p e below s _ _ _ (T1699.setTop (mkF m 120 #[.val (.ref a), .val (.ref x), .val (.int d), .val (.ref sl)] [(.int lv)]))
    by_cases cl1700 : (0 : Int32) < lv
    · refine own_st (fun _ kS => XS.ifNo X1699.here hx rfl (hb hby own_d10_120) rfl ((if0 _ _).trans (tlt cl1700).2.2.2) kS) ?_
      show OFin p e below s _ _ _ (T1699.setTop (mkF m 123 #[.val (.ref a), .val (.ref x), .val (.int d), .val (.ref sl)] []))
      refine own_st (fun _ kS => XS.aloadN X1699.here hx rfl (hb hby own_d10_123) rfl rfl kS) ?_
      show OFin p e below s _ _ _ (T1699.setTop (mkF m 124 #[.val (.ref a), .val (.ref x), .val (.int d), .val (.ref sl)] [(.ref sl)]))
      obtain ⟨T1701, X1701, e1701, st1701⟩ := getF X1699 hx hZ hown (host := "") (Or.inl (own_w hw 109 rfl)) Via.refl e1699 u1682 (g := (mkF m 124 #[.val (.ref a), .val (.ref x), .val (.int d), .val (.ref sl)] [(.ref sl)])) rfl rfl (hb hby own_d10_124)
      refine own_st (st1701) ?_
      clear st1701 X1699 e1699
      show OFin p e below s _ _ _ (T1701.setTop (mkF m 127 #[.val (.ref a), .val (.ref x), .val (.int d), .val (.ref sl)] [(.int (2 : Int32))]))
      refine own_st (fun _ kS => XS.sipush X1701.here hx rfl (hb hby own_d10_127) kS) ?_
      show OFin p e below s _ _ _ (T1701.setTop (mkF m 130 #[.val (.ref a), .val (.ref x), .val (.int d), .val (.ref sl)] [(.int (2048 : Int32)), (.int (2 : Int32))]))
      refine own_st (fun _ kS => XS.icmpYes X1701.here hx rfl (pc0 := 130) (pc' := 138) rfl (hb hby own_d10_130) rfl (flt (by decide)).2.2.2 (by decide) (by decide) kS) ?_
      show OFin p e below s _ _ _ (T1701.setTop (mkF m 138 #[.val (.ref a), .val (.ref x), .val (.int d), .val (.ref sl)] []))
      exact own_retV X1701 hx hret hlk (hb hby own_d10_138) (by decide) (by decide) (by show _ ∧ _ ∧ Keep h0 T1701.heap [a, sl, x, cl, c0, y] ∧ _; rw [e1701]; exact ⟨rfl, fr1646, kp1646, _, ⟨f1647, f1648, f1649, f1650, f1651, f1652⟩, ⟨u1678, u1679, u1680, u1681, u1682, u1683, u1684⟩, ⟨u1685, u1686, u1687, u1688, u1689, u1690⟩, ⟨u1691, u1692, u1693, u1694⟩, ⟨u1695, u1696, u1697, u1698⟩⟩)
    · refine own_st (fun _ kS => XS.ifYes X1699.here hx rfl (pc0 := 120) (pc' := 138) rfl (hb hby own_d10_120) rfl ((if0 _ _).trans (flt cl1700).2.2.2) (by decide) (by decide) kS) ?_
      show OFin p e below s _ _ _ (T1699.setTop (mkF m 138 #[.val (.ref a), .val (.ref x), .val (.int d), .val (.ref sl)] []))
      exact own_retV X1699 hx hret hlk (hb hby own_d10_138) (by decide) (by decide) (by show _ ∧ _ ∧ Keep h0 T1699.heap [a, sl, x, cl, c0, y] ∧ _; rw [e1699]; exact ⟨rfl, fr1646, kp1646, _, ⟨f1647, f1648, f1649, f1650, f1651, f1652⟩, ⟨u1678, u1679, u1680, u1681, u1682, u1683, u1684⟩, ⟨u1685, u1686, u1687, u1688, u1689, u1690⟩, ⟨u1691, u1692, u1693, u1694⟩, ⟨u1695, u1696, u1697, u1698⟩⟩)
set_option maxRecDepth 65536 in
set_option maxHeartbeats 40000000 in
theorem rmTK (l : Launch) (Z : State) (a0 : Array Value) (hw : ∀ d ∈ tables_1, d.before a0 Z = true) (a : Addr) (d : Int32) (h0 : Heap) (n0 : Nat) (Z0 : n0 ≤ h0.size) (sa tt sl : Addr) (lv : Int32) (dn : Nat) (oc : Int64) (fs : Nat → Value) (B_OSR0 : OSR Z h0 a sa tt lv oc fs) (g_a : n0 ≤ a) (g_sa : n0 ≤ sa) (ne_a_sa : a ≠ sa) (hdn : d.toInt = dn) (hd64 : dn < 64) (hs : fs dn = .ref sl) :
    OMet l Z (⟨"com/example/epicycle/epicycle/SlotRing", "take", "(I)Lcom/example/epicycle/epicycle/TimeoutList;"⟩ : MethodName) prog_7_method_11_code 3 (some (.object "com/example/epicycle/epicycle/TimeoutList")) (⟨0, 0, 0, 0⟩ : Room) #[(.ref a), (.int d)] h0 (fun v h L => v = some (.ref sl) ∧ Fr n0 L ∧ Keep h0 h [a, sa] ∧ OSR Z h a sa tt lv (oc &&& (own_bit d ^^^ (-1 : Int64))) (fun i => if i = dn then .null else fs i)) := by
  refine own_enter own_pn21 ?_
  intro p e s m below meth c T0 X0 hC e0
  obtain ⟨hx, hZ, hby, hml, hown, hret, hlk, hnm⟩ := hC
  have hown : s.vm.findClass "com/example/epicycle/epicycle/SlotRing" = some m.cls := hown
  refine own_at (own_ef21_RI m a d) ?_
  show OFin p e below s _ _ _ (T0.setTop (mkF m 0 #[.val (.ref a), .val (.int d), .unset] []))
  have N0 := Fr.nil n0
  have kp0 := Keep.refl h0 [a, sa]
  obtain ⟨u1702, u1703, u1704, u1705, u1706, u1707⟩ := B_OSR0
  obtain ⟨q0, q1⟩ := own_cl hdn
  refine own_st (fun _ kS => XS.aloadN X0.here hx rfl (hb hby own_d21_0) rfl rfl kS) ?_
  show OFin p e below s _ _ _ (T0.setTop (mkF m 1 #[.val (.ref a), .val (.int d), .unset] [(.ref a)]))
  obtain ⟨T1708, X1708, e1708, st1708⟩ := getF X0 hx hZ hown (host := "") (Or.inl (own_w hw 59 rfl)) Via.refl e0 u1703 (g := (mkF m 1 #[.val (.ref a), .val (.int d), .unset] [(.ref a)])) rfl rfl (hb hby own_d21_1)
  refine own_st (st1708) ?_
  clear st1708 X0 e0
  show OFin p e below s _ _ _ (T1708.setTop (mkF m 4 #[.val (.ref a), .val (.int d), .unset] [(.ref sa)]))
  refine own_st (fun _ kS => XS.iloadN X1708.here hx rfl (hb hby own_d21_4) rfl kS) ?_
  show OFin p e below s _ _ _ (T1708.setTop (mkF m 5 #[.val (.ref a), .val (.int d), .unset] [(.int d), (.ref sa)]))
  obtain ⟨cl1709, Ar1709, S1709, B1709, H1709, O1709⟩ := id u1707
  refine own_st (X1708.aaload hx (j := d) (v := (.ref sl)) (by rw [e1708]; exact Ar1709.1) (State.isArrayOf_alike hZ.alike Ar1709.2.1) rfl Ar1709.2.2 (own_inb S1709 q0 q1 hd64) ((own_hv H1709 q1 hd64).trans (congrArg some (hs))) (g := (mkF m 5 #[.val (.ref a), .val (.int d), .unset] [(.int d), (.ref sa)])) rfl rfl (hb hby own_d21_5)) ?_
  clear Ar1709 S1709 B1709 H1709 O1709
  show OFin p e below s _ _ _ (T1708.setTop (mkF m 6 #[.val (.ref a), .val (.int d), .unset] [(.ref sl)]))
  refine own_st (fun _ kS => XS.astoreN X1708.here hx rfl (hb hby own_d21_6) rfl rfl (l' := #[.val (.ref a), .val (.int d), .val (.ref sl)]) rfl kS) ?_
  show OFin p e below s _ _ _ (T1708.setTop (mkF m 7 #[.val (.ref a), .val (.int d), .val (.ref sl)] []))
  refine own_st (fun _ kS => XS.aloadN X1708.here hx rfl (hb hby own_d21_7) rfl rfl kS) ?_
  show OFin p e below s _ _ _ (T1708.setTop (mkF m 8 #[.val (.ref a), .val (.int d), .val (.ref sl)] [(.ref a)]))
  obtain ⟨T1710, X1710, e1710, st1710⟩ := getF X1708 hx hZ hown (host := "") (Or.inl (own_w hw 59 rfl)) Via.refl e1708 u1703 (g := (mkF m 8 #[.val (.ref a), .val (.int d), .val (.ref sl)] [(.ref a)])) rfl rfl (hb hby own_d21_8)
  refine own_st (st1710) ?_
  clear st1710 X1708 e1708
  show OFin p e below s _ _ _ (T1710.setTop (mkF m 11 #[.val (.ref a), .val (.int d), .val (.ref sl)] [(.ref sa)]))
  refine own_st (fun _ kS => XS.iloadN X1710.here hx rfl (hb hby own_d21_11) rfl kS) ?_
  show OFin p e below s _ _ _ (T1710.setTop (mkF m 12 #[.val (.ref a), .val (.int d), .val (.ref sl)] [(.int d), (.ref sa)]))
  refine own_st (fun _ kS => XS.aconstNull X1710.here hx rfl (hb hby own_d21_12) kS) ?_
  show OFin p e below s _ _ _ (T1710.setTop (mkF m 13 #[.val (.ref a), .val (.int d), .val (.ref sl)] [.null, (.int d), (.ref sa)]))
  obtain ⟨cl1711, Ar1711, S1711, B1711, H1711, O1711⟩ := id u1707
  obtain ⟨T1711, h1711, X1711, e1711, W1711, st1711⟩ := stR X1710 hx hZ e1710 Ar1711 (j := d) (own_inb S1711 q0 q1 hd64) rfl (Or.inl rfl) (g := (mkF m 13 #[.val (.ref a), .val (.int d), .val (.ref sl)] [.null, (.int d), (.ref sa)])) rfl rfl (hb hby own_d21_13)
  have V1711 := own_wrj W1711 q1
  have f1712 := (u1707).set V1711
  have f1713 := u1702.wr W1711
  clear u1702
  have f1714 := u1703.other W1711 (Or.inl ne_a_sa)
  clear u1703
  have f1715 := u1704.other W1711 (Or.inl ne_a_sa)
  clear u1704
  have f1716 := u1705.other W1711 (Or.inl ne_a_sa)
  clear u1705
  have f1717 := u1706.other W1711 (Or.inl ne_a_sa)
  clear u1706
  have sz1711 : n0 ≤ h1711.size := by rw [W1711.size]; exact Z0
  have fr1711 := Fr.snoc X1711 N0 g_sa
  clear N0
  have kp1711 := kp0.wr W1711 (Or.inl (List.mem_of_getElem? (i := 1) rfl))
  clear kp0
  refine own_st (st1711) ?_
  clear st1711 X1710 e1710 W1711 V1711 Ar1711 S1711 B1711 H1711 O1711 u1707
  show OFin p e below s _ _ _ (T1711.setTop (mkF m 14 #[.val (.ref a), .val (.int d), .val (.ref sl)] []))
  refine own_st (fun _ kS => XS.aloadN X1711.here hx rfl (hb hby own_d21_14) rfl rfl kS) ?_
  show OFin p e below s _ _ _ (T1711.setTop (mkF m 15 #[.val (.ref a), .val (.int d), .val (.ref sl)] [(.ref a)]))
  refine own_st (fun _ kS => XS.dup X1711.here hx rfl (hb hby own_d21_15) rfl rfl kS) ?_
  show OFin p e below s _ _ _ (T1711.setTop (mkF m 16 #[.val (.ref a), .val (.int d), .val (.ref sl)] [(.ref a), (.ref a)]))
  obtain ⟨T1719, X1719, e1719, st1719⟩ := getF X1711 hx hZ hown (host := "") (Or.inl (own_w hw 111 rfl)) Via.refl e1711 f1717 (g := (mkF m 16 #[.val (.ref a), .val (.int d), .val (.ref sl)] [(.ref a), (.ref a)])) rfl rfl (hb hby own_d21_16)
  refine own_st (st1719) ?_
  clear st1719 X1711 e1711
  show OFin p e below s _ _ _ (T1719.setTop (mkF m 19 #[.val (.ref a), .val (.int d), .val (.ref sl)] [(.long oc), (.ref a)]))
  refine own_st (fun _ kS => XS.lconst X1719.here hx rfl (hb hby own_d21_19) kS) ?_
  show OFin p e below s _ _ _ (T1719.setTop (mkF m 20 #[.val (.ref a), .val (.int d), .val (.ref sl)] [(.long (1 : Int64)), (.long oc), (.ref a)]))
  refine own_st (fun _ kS => XS.iloadN X1719.here hx rfl (hb hby own_d21_20) rfl kS) ?_
  show OFin p e below s _ _ _ (T1719.setTop (mkF m 21 #[.val (.ref a), .val (.int d), .val (.ref sl)] [(.int d), (.long (1 : Int64)), (.long oc), (.ref a)]))
  refine own_st (fun _ kS => XS.lshl X1719.here hx rfl (hb hby own_d21_21) rfl kS) ?_
  show OFin p e below s _ _ _ (T1719.setTop (mkF m 22 #[.val (.ref a), .val (.int d), .val (.ref sl)] [(.long ((1 : Int64) <<< (d &&& 0x3f).toInt64)), (.long oc), (.ref a)]))
  refine own_st (X1719.ldc2Long hx hown (mvT hZ (own_w hw 167 rfl)) (g := (mkF m 22 #[.val (.ref a), .val (.int d), .val (.ref sl)] [(.long ((1 : Int64) <<< (d &&& 0x3f).toInt64)), (.long oc), (.ref a)])) rfl (hb hby own_d21_22)) ?_
  show OFin p e below s _ _ _ (T1719.setTop (mkF m 25 #[.val (.ref a), .val (.int d), .val (.ref sl)] [(.long (-1 : Int64)), (.long ((1 : Int64) <<< (d &&& 0x3f).toInt64)), (.long oc), (.ref a)]))
  refine own_st (fun _ kS => XS.lxor X1719.here hx rfl (hb hby own_d21_25) rfl kS) ?_
  show OFin p e below s _ _ _ (T1719.setTop (mkF m 26 #[.val (.ref a), .val (.int d), .val (.ref sl)] [(.long (((1 : Int64) <<< (d &&& 0x3f).toInt64) ^^^ (-1 : Int64))), (.long oc), (.ref a)]))
  refine own_st (fun _ kS => XS.land X1719.here hx rfl (hb hby own_d21_26) rfl kS) ?_
  show OFin p e below s _ _ _ (T1719.setTop (mkF m 27 #[.val (.ref a), .val (.int d), .val (.ref sl)] [(.long (oc &&& (((1 : Int64) <<< (d &&& 0x3f).toInt64) ^^^ (-1 : Int64)))), (.ref a)]))
  show OFin p e below s _ _ _ (T1719.setTop (mkF m 27 #[.val (.ref a), .val (.int d), .val (.ref sl)] [(.long (oc &&& (own_bit d ^^^ (-1 : Int64)))), (.ref a)]))
  obtain ⟨T1720, h1720, X1720, e1720, W1720, st1720⟩ := putF X1719 hx hZ hown (host := "") (Or.inl (own_w hw 111 rfl)) Via.refl e1719 f1717 f1713 (Or.inl (own_w hw 112 rfl)) (own_w hw 51 rfl) (ty := .long) (by decide) rfl rfl (g := (mkF m 27 #[.val (.ref a), .val (.int d), .val (.ref sl)] [(.long (oc &&& (own_bit d ^^^ (-1 : Int64)))), (.ref a)])) rfl rfl (hb hby own_d21_27)
  have f1721 := f1717.same W1720
  have f1722 := f1713.wr W1720
  clear f1713
  have f1723 := f1714.other W1720 (Or.inr (slot_ne (Or.inr (own_w hw 60 rfl)) (Or.inl (own_w hw 112 rfl)) (by decide) (t := (.array (.object "com/example/epicycle/epicycle/SlotRing$Slot"))) (t' := .long) (by decide) (by decide)))
  clear f1714
  have f1724 := f1715.other W1720 (Or.inr (slot_ne (Or.inr (own_w hw 62 rfl)) (Or.inl (own_w hw 112 rfl)) (by decide) (t := .int) (t' := .long) (by decide) (by decide)))
  clear f1715
  have f1725 := f1716.other W1720 (Or.inr (slot_ne (Or.inr (own_w hw 64 rfl)) (Or.inl (own_w hw 112 rfl)) (by decide) (t := (.object "com/example/epicycle/epicycle/TimeoutTable")) (t' := .long) (by decide) (by decide)))
  clear f1716
  have f1727 := f1712.other W1720 (Ne.symm ne_a_sa)
  clear f1712
  have sz1720 : n0 ≤ h1720.size := by rw [W1720.size]; exact sz1711
  clear sz1711
  have fr1720 := Fr.snoc X1720 fr1711 g_a
  clear fr1711
  have kp1720 := kp1711.wr W1720 (Or.inl (List.mem_of_getElem? (i := 0) rfl))
  clear kp1711
  refine own_st (st1720) ?_
  clear st1720 X1719 e1719 W1720 f1717
  show OFin p e below s _ _ _ (T1720.setTop (mkF m 30 #[.val (.ref a), .val (.int d), .val (.ref sl)] []))
  refine own_st (fun _ kS => XS.aloadN X1720.here hx rfl (hb hby own_d21_30) rfl rfl kS) ?_
  show OFin p e below s _ _ _ (T1720.setTop (mkF m 31 #[.val (.ref a), .val (.int d), .val (.ref sl)] [(.ref sl)]))
  exact own_ret X1720 hx (t := (.object "com/example/epicycle/epicycle/TimeoutList")) hret hlk rfl (Or.inr (Or.inr (Or.inr (Or.inr ⟨rfl, rfl, rfl⟩)))) (hb hby own_d21_31) (by decide) (by decide) (by show _ ∧ _ ∧ Keep h0 T1720.heap [a, sa] ∧ _; rw [e1720]; exact ⟨rfl, fr1720, kp1720, ⟨f1722, f1723, f1724, f1725, f1721, f1727⟩⟩)
set_option maxRecDepth 65536 in
set_option maxHeartbeats 40000000 in
theorem rmTM0 (l : Launch) (Z : State) (a0 : Array Value) (hw : ∀ d ∈ tables_1, d.before a0 Z = true) (a : Addr) (pp : Int32) (h0 : Heap) (tt cl ck c0 x : Addr) (n hd tl ct : Int32) (ea : Int64) (f g : Nat → Value) (B0 : OSL Z h0 a tt hd tl ct ea) (B1 : OTT Z h0 tt cl) (B2 : OCL1 Z h0 cl ck c0 n f g) (E_x : Exa Z h0 x "com/example/epicycle/epicycle/Timeout") (hp : pp = (1 : Int32)) (hn : (0 : Int32) < n) (hf : f 0 = .ref c0) (hg : g 0 = .ref x) :
    OMet l Z (⟨"com/example/epicycle/epicycle/TimeoutList", "timeoutAt", "(I)Lcom/example/epicycle/epicycle/Timeout;"⟩ : MethodName) prog_13_method_12_code 2 (some (.object "com/example/epicycle/epicycle/Timeout")) (⟨4, 0, 0, 53⟩ : Room) #[(.ref a), (.int pp)] h0 (fun v h L => v = some (.ref x) ∧ h = h0 ∧ L = []) := by
  refine own_enter own_pn23 ?_
  intro p e s m below meth c T0 X0 hC e0
  obtain ⟨hx, hZ, hby, hml, hown, hret, hlk, hnm⟩ := hC
  have hown : s.vm.findClass "com/example/epicycle/epicycle/TimeoutList" = some m.cls := hown
  refine own_at (own_ef23_RI m a pp) ?_
  show OFin p e below s _ _ _ (T0.setTop (mkF m 0 #[.val (.ref a), .val (.int pp)] []))
  subst hp
  show OFin p e below s _ _ _ (T0.setTop (mkF m 0 #[.val (.ref a), .val (.int (1 : Int32))] []))
  obtain ⟨u1728, u1729, u1730, u1731, u1732, u1733, u1734⟩ := B0
  obtain ⟨u1735, u1736, u1737, u1738⟩ := B1
  obtain ⟨u1739, u1740, u1741, u1742, u1743, u1744⟩ := B2
  refine own_st (fun _ kS => XS.iloadN X0.here hx rfl (hb hby own_d23_0) rfl kS) ?_
  show OFin p e below s _ _ _ (T0.setTop (mkF m 1 #[.val (.ref a), .val (.int (1 : Int32))] [(.int (1 : Int32))]))
  refine own_st (fun _ kS => XS.ifYes X0.here hx rfl (pc0 := 1) (pc' := 8) rfl (hb hby own_d23_1) rfl ((if0 _ _).trans (feq (by decide)).2) (by decide) (by decide) kS) ?_
  show OFin p e below s _ _ _ (T0.setTop (mkF m 8 #[.val (.ref a), .val (.int (1 : Int32))] []))
  refine own_st (fun _ kS => XS.aloadN X0.here hx rfl (hb hby own_d23_8) rfl rfl kS) ?_
  show OFin p e below s _ _ _ (T0.setTop (mkF m 9 #[.val (.ref a), .val (.int (1 : Int32))] [(.ref a)]))
  obtain ⟨T1745, X1745, e1745, st1745⟩ := getF X0 hx hZ hown (host := "") (Or.inl (own_w hw 106 rfl)) Via.refl e0 u1731 (g := (mkF m 9 #[.val (.ref a), .val (.int (1 : Int32))] [(.ref a)])) rfl rfl (hb hby own_d23_9)
  refine own_st (st1745) ?_
  clear st1745 X0 e0
  show OFin p e below s _ _ _ (T1745.setTop (mkF m 12 #[.val (.ref a), .val (.int (1 : Int32))] [(.ref tt)]))
  refine own_st (fun _ kS => XS.iloadN X1745.here hx rfl (hb hby own_d23_12) rfl kS) ?_
  show OFin p e below s _ _ _ (T1745.setTop (mkF m 13 #[.val (.ref a), .val (.int (1 : Int32))] [(.int (1 : Int32)), (.ref tt)]))
  obtain ⟨v1746, T1746, L1746, X1746, hQ1746, st1746⟩ := own_virtual X1745 hx hZ (y := (⟨"com/example/epicycle/epicycle/TimeoutTable", "get", "(I)Lcom/example/epicycle/epicycle/Timeout;"⟩ : MethodName)) (z := (⟨"com/example/epicycle/epicycle/TimeoutTable", "get", "(I)Lcom/example/epicycle/epicycle/Timeout;"⟩ : MethodName)) (rm := ⟨3, 0, 0, 40⟩) (W := 0) (a := tt) (argsL := [(.int (1 : Int32))]) (rest := []) hown (own_w hw 177 rfl) (own_w hw 178 rfl) (notFace_of_selects (args := #[]) (mvT hZ (own_w hw 180 rfl))) (own_w hw 180 rfl) (own_w hw 179 rfl) (own_w hw 2 rfl) (own_w hw 181 rfl) (rmTG0 l Z a0 hw tt (1 : Int32) h0 cl ck c0 x n f g ⟨u1735, u1736, u1737, u1738⟩ ⟨u1739, u1740, u1741, u1742, u1743, u1744⟩ E_x rfl hn hf hg) e1745 u1735 (g := (mkF m 13 #[.val (.ref a), .val (.int (1 : Int32))] [(.int (1 : Int32)), (.ref tt)])) rfl (by rw [hml]; rfl) (lenOf own_pd10 rfl) rfl (by show 2 * 0 + _ ≤ _; exact Nat.le_of_eq rfl) (hb hby own_d23_13) (by decide) (by decide) (by decide) (by decide)
  obtain ⟨rfl, e1746, rfl⟩ := hQ1746
  rw [List.append_nil] at X1746
  refine own_st (st1746) ?_
  clear st1746 X1745 e1745
  show OFin p e below s _ _ _ (T1746.setTop (mkF m 16 #[.val (.ref a), .val (.int (1 : Int32))] [(.ref x)]))
  exact own_ret X1746 hx (t := (.object "com/example/epicycle/epicycle/Timeout")) hret hlk rfl (Or.inr (Or.inr (Or.inr (Or.inr ⟨rfl, rfl, rfl⟩)))) (hb hby own_d23_16) (by decide) (by decide) ⟨rfl, e1746, rfl⟩
set_option maxRecDepth 65536 in
set_option maxHeartbeats 40000000 in
theorem rmFI0 (l : Launch) (Z : State) (a0 : Array Value) (hw : ∀ d ∈ tables_1, d.before a0 Z = true) (a : Addr) (h0 : Heap) (tt cl ck c0 x : Addr) (n hd tl ct : Int32) (ea : Int64) (f g : Nat → Value) (B0 : OSL Z h0 a tt hd tl ct ea) (B1 : OTT Z h0 tt cl) (B2 : OCL1 Z h0 cl ck c0 n f g) (E_x : Exa Z h0 x "com/example/epicycle/epicycle/Timeout") (hp : hd = (1 : Int32)) (hn : (0 : Int32) < n) (hf : f 0 = .ref c0) (hg : g 0 = .ref x) :
    OMet l Z (⟨"com/example/epicycle/epicycle/TimeoutList", "first", "()Lcom/example/epicycle/epicycle/Timeout;"⟩ : MethodName) prog_13_method_3_code 1 (some (.object "com/example/epicycle/epicycle/Timeout")) (⟨5, 0, 0, 66⟩ : Room) #[(.ref a)] h0 (fun v h L => v = some (.ref x) ∧ h = h0 ∧ L = []) := by
  refine own_enter own_pn22 ?_
  intro p e s m below meth c T0 X0 hC e0
  obtain ⟨hx, hZ, hby, hml, hown, hret, hlk, hnm⟩ := hC
  have hown : s.vm.findClass "com/example/epicycle/epicycle/TimeoutList" = some m.cls := hown
  refine own_at (own_ef22_R m a) ?_
  show OFin p e below s _ _ _ (T0.setTop (mkF m 0 #[.val (.ref a)] []))
  obtain ⟨u1747, u1748, u1749, u1750, u1751, u1752, u1753⟩ := B0
  obtain ⟨u1754, u1755, u1756, u1757⟩ := B1
  obtain ⟨u1758, u1759, u1760, u1761, u1762, u1763⟩ := B2
  refine own_st (fun _ kS => XS.aloadN X0.here hx rfl (hb hby own_d22_0) rfl rfl kS) ?_
  show OFin p e below s _ _ _ (T0.setTop (mkF m 1 #[.val (.ref a)] [(.ref a)]))
  refine own_st (fun _ kS => XS.aloadN X0.here hx rfl (hb hby own_d22_1) rfl rfl kS) ?_
  show OFin p e below s _ _ _ (T0.setTop (mkF m 2 #[.val (.ref a)] [(.ref a), (.ref a)]))
  obtain ⟨T1764, X1764, e1764, st1764⟩ := getF X0 hx hZ hown (host := "") (Or.inl (own_w hw 102 rfl)) Via.refl e0 u1748 (g := (mkF m 2 #[.val (.ref a)] [(.ref a), (.ref a)])) rfl rfl (hb hby own_d22_2)
  refine own_st (st1764) ?_
  clear st1764 X0 e0
  show OFin p e below s _ _ _ (T1764.setTop (mkF m 5 #[.val (.ref a)] [(.int hd), (.ref a)]))
  obtain ⟨v1765, T1765, L1765, X1765, hQ1765, st1765⟩ := own_private X1764 hx hZ (y := (⟨"com/example/epicycle/epicycle/TimeoutList", "timeoutAt", "(I)Lcom/example/epicycle/epicycle/Timeout;"⟩ : MethodName)) (rm := ⟨4, 0, 0, 53⟩) (W := 0) (a := a) (argsL := [(.int hd)]) (rest := []) hown (own_w hw 173 rfl) (own_w hw 174 rfl) (own_w hw 175 rfl) (own_w hw 171 rfl) rfl (own_w hw 99 rfl) (own_w hw 176 rfl) (rmTM0 l Z a0 hw a hd h0 tt cl ck c0 x n hd tl ct ea f g ⟨u1747, u1748, u1749, u1750, u1751, u1752, u1753⟩ ⟨u1754, u1755, u1756, u1757⟩ ⟨u1758, u1759, u1760, u1761, u1762, u1763⟩ E_x hp hn hf hg) e1764 u1747 (g := (mkF m 5 #[.val (.ref a)] [(.int hd), (.ref a)])) rfl (by rw [hml]; rfl) (lenOf own_pd10 rfl) rfl (by show 2 * 0 + _ ≤ _; exact Nat.le_of_eq rfl) (hb hby own_d22_5) (by decide) (by decide) (by decide) (by decide)
  obtain ⟨rfl, e1765, rfl⟩ := hQ1765
  rw [List.append_nil] at X1765
  refine own_st (st1765) ?_
  clear st1765 X1764 e1764
  show OFin p e below s _ _ _ (T1765.setTop (mkF m 8 #[.val (.ref a)] [(.ref x)]))
  exact own_ret X1765 hx (t := (.object "com/example/epicycle/epicycle/Timeout")) hret hlk rfl (Or.inr (Or.inr (Or.inr (Or.inr ⟨rfl, rfl, rfl⟩)))) (hb hby own_d22_8) (by decide) (by decide) ⟨rfl, e1765, rfl⟩
set_option maxRecDepth 65536 in
set_option maxHeartbeats 40000000 in
theorem rmLA0 (l : Launch) (Z : State) (a0 : Array Value) (hw : ∀ d ∈ tables_1, d.before a0 Z = true) (a : Addr) (h0 : Heap) (tt cl ck c0 x : Addr) (n hd tl ct : Int32) (ea : Int64) (f g : Nat → Value) (B0 : OSL Z h0 a tt hd tl ct ea) (B1 : OTT Z h0 tt cl) (B2 : OCL1 Z h0 cl ck c0 n f g) (E_x : Exa Z h0 x "com/example/epicycle/epicycle/Timeout") (hp : tl = (1 : Int32)) (hn : (0 : Int32) < n) (hf : f 0 = .ref c0) (hg : g 0 = .ref x) :
    OMet l Z (⟨"com/example/epicycle/epicycle/TimeoutList", "last", "()Lcom/example/epicycle/epicycle/Timeout;"⟩ : MethodName) prog_13_method_4_code 1 (some (.object "com/example/epicycle/epicycle/Timeout")) (⟨5, 0, 0, 66⟩ : Room) #[(.ref a)] h0 (fun v h L => v = some (.ref x) ∧ h = h0 ∧ L = []) := by
  refine own_enter own_pn28 ?_
  intro p e s m below meth c T0 X0 hC e0
  obtain ⟨hx, hZ, hby, hml, hown, hret, hlk, hnm⟩ := hC
  have hown : s.vm.findClass "com/example/epicycle/epicycle/TimeoutList" = some m.cls := hown
  refine own_at (own_ef28_R m a) ?_
  show OFin p e below s _ _ _ (T0.setTop (mkF m 0 #[.val (.ref a)] []))
  obtain ⟨u1766, u1767, u1768, u1769, u1770, u1771, u1772⟩ := B0
  obtain ⟨u1773, u1774, u1775, u1776⟩ := B1
  obtain ⟨u1777, u1778, u1779, u1780, u1781, u1782⟩ := B2
  refine own_st (fun _ kS => XS.aloadN X0.here hx rfl (hb hby own_d28_0) rfl rfl kS) ?_
  show OFin p e below s _ _ _ (T0.setTop (mkF m 1 #[.val (.ref a)] [(.ref a)]))
  refine own_st (fun _ kS => XS.aloadN X0.here hx rfl (hb hby own_d28_1) rfl rfl kS) ?_
  show OFin p e below s _ _ _ (T0.setTop (mkF m 2 #[.val (.ref a)] [(.ref a), (.ref a)]))
  obtain ⟨T1783, X1783, e1783, st1783⟩ := getF X0 hx hZ hown (host := "") (Or.inl (own_w hw 104 rfl)) Via.refl e0 u1768 (g := (mkF m 2 #[.val (.ref a)] [(.ref a), (.ref a)])) rfl rfl (hb hby own_d28_2)
  refine own_st (st1783) ?_
  clear st1783 X0 e0
  show OFin p e below s _ _ _ (T1783.setTop (mkF m 5 #[.val (.ref a)] [(.int tl), (.ref a)]))
  obtain ⟨v1784, T1784, L1784, X1784, hQ1784, st1784⟩ := own_private X1783 hx hZ (y := (⟨"com/example/epicycle/epicycle/TimeoutList", "timeoutAt", "(I)Lcom/example/epicycle/epicycle/Timeout;"⟩ : MethodName)) (rm := ⟨4, 0, 0, 53⟩) (W := 0) (a := a) (argsL := [(.int tl)]) (rest := []) hown (own_w hw 173 rfl) (own_w hw 174 rfl) (own_w hw 175 rfl) (own_w hw 171 rfl) rfl (own_w hw 99 rfl) (own_w hw 176 rfl) (rmTM0 l Z a0 hw a tl h0 tt cl ck c0 x n hd tl ct ea f g ⟨u1766, u1767, u1768, u1769, u1770, u1771, u1772⟩ ⟨u1773, u1774, u1775, u1776⟩ ⟨u1777, u1778, u1779, u1780, u1781, u1782⟩ E_x hp hn hf hg) e1783 u1766 (g := (mkF m 5 #[.val (.ref a)] [(.int tl), (.ref a)])) rfl (by rw [hml]; rfl) (lenOf own_pd10 rfl) rfl (by show 2 * 0 + _ ≤ _; exact Nat.le_of_eq rfl) (hb hby own_d28_5) (by decide) (by decide) (by decide) (by decide)
  obtain ⟨rfl, e1784, rfl⟩ := hQ1784
  rw [List.append_nil] at X1784
  refine own_st (st1784) ?_
  clear st1784 X1783 e1783
  show OFin p e below s _ _ _ (T1784.setTop (mkF m 8 #[.val (.ref a)] [(.ref x)]))
  exact own_ret X1784 hx (t := (.object "com/example/epicycle/epicycle/Timeout")) hret hlk rfl (Or.inr (Or.inr (Or.inr (Or.inr ⟨rfl, rfl, rfl⟩)))) (hb hby own_d28_8) (by decide) (by decide) ⟨rfl, e1784, rfl⟩
set_option maxRecDepth 65536 in
set_option maxHeartbeats 40000000 in
theorem rmTM1 (l : Launch) (Z : State) (a0 : Array Value) (hw : ∀ d ∈ tables_1, d.before a0 Z = true) (a : Addr) (pp : Int32) (h0 : Heap) (tt cl ck c0 x : Addr) (n hd tl ct : Int32) (ea : Int64) (f g : Nat → Value) (B0 : OSL Z h0 a tt hd tl ct ea) (B1 : OTT Z h0 tt cl) (B2 : OCL1 Z h0 cl ck c0 n f g) (E_x : Exa Z h0 x "com/example/epicycle/epicycle/Timeout") (hp : pp = (2 : Int32)) (hn : (1 : Int32) < n) (hf : f 0 = .ref c0) (hg : g 1 = .ref x) :
    OMet l Z (⟨"com/example/epicycle/epicycle/TimeoutList", "timeoutAt", "(I)Lcom/example/epicycle/epicycle/Timeout;"⟩ : MethodName) prog_13_method_12_code 2 (some (.object "com/example/epicycle/epicycle/Timeout")) (⟨4, 0, 0, 53⟩ : Room) #[(.ref a), (.int pp)] h0 (fun v h L => v = some (.ref x) ∧ h = h0 ∧ L = []) := by
  refine own_enter own_pn23 ?_
  intro p e s m below meth c T0 X0 hC e0
  obtain ⟨hx, hZ, hby, hml, hown, hret, hlk, hnm⟩ := hC
  have hown : s.vm.findClass "com/example/epicycle/epicycle/TimeoutList" = some m.cls := hown
  refine own_at (own_ef23_RI m a pp) ?_
  show OFin p e below s _ _ _ (T0.setTop (mkF m 0 #[.val (.ref a), .val (.int pp)] []))
  subst hp
  show OFin p e below s _ _ _ (T0.setTop (mkF m 0 #[.val (.ref a), .val (.int (2 : Int32))] []))
  obtain ⟨u1785, u1786, u1787, u1788, u1789, u1790, u1791⟩ := B0
  obtain ⟨u1792, u1793, u1794, u1795⟩ := B1
  obtain ⟨u1796, u1797, u1798, u1799, u1800, u1801⟩ := B2
  refine own_st (fun _ kS => XS.iloadN X0.here hx rfl (hb hby own_d23_0) rfl kS) ?_
  show OFin p e below s _ _ _ (T0.setTop (mkF m 1 #[.val (.ref a), .val (.int (2 : Int32))] [(.int (2 : Int32))]))
  refine own_st (fun _ kS => XS.ifYes X0.here hx rfl (pc0 := 1) (pc' := 8) rfl (hb hby own_d23_1) rfl ((if0 _ _).trans (feq (by decide)).2) (by decide) (by decide) kS) ?_
  show OFin p e below s _ _ _ (T0.setTop (mkF m 8 #[.val (.ref a), .val (.int (2 : Int32))] []))
  refine own_st (fun _ kS => XS.aloadN X0.here hx rfl (hb hby own_d23_8) rfl rfl kS) ?_
  show OFin p e below s _ _ _ (T0.setTop (mkF m 9 #[.val (.ref a), .val (.int (2 : Int32))] [(.ref a)]))
  obtain ⟨T1802, X1802, e1802, st1802⟩ := getF X0 hx hZ hown (host := "") (Or.inl (own_w hw 106 rfl)) Via.refl e0 u1788 (g := (mkF m 9 #[.val (.ref a), .val (.int (2 : Int32))] [(.ref a)])) rfl rfl (hb hby own_d23_9)
  refine own_st (st1802) ?_
  clear st1802 X0 e0
  show OFin p e below s _ _ _ (T1802.setTop (mkF m 12 #[.val (.ref a), .val (.int (2 : Int32))] [(.ref tt)]))
  refine own_st (fun _ kS => XS.iloadN X1802.here hx rfl (hb hby own_d23_12) rfl kS) ?_
  show OFin p e below s _ _ _ (T1802.setTop (mkF m 13 #[.val (.ref a), .val (.int (2 : Int32))] [(.int (2 : Int32)), (.ref tt)]))
  obtain ⟨v1803, T1803, L1803, X1803, hQ1803, st1803⟩ := own_virtual X1802 hx hZ (y := (⟨"com/example/epicycle/epicycle/TimeoutTable", "get", "(I)Lcom/example/epicycle/epicycle/Timeout;"⟩ : MethodName)) (z := (⟨"com/example/epicycle/epicycle/TimeoutTable", "get", "(I)Lcom/example/epicycle/epicycle/Timeout;"⟩ : MethodName)) (rm := ⟨3, 0, 0, 40⟩) (W := 0) (a := tt) (argsL := [(.int (2 : Int32))]) (rest := []) hown (own_w hw 177 rfl) (own_w hw 178 rfl) (notFace_of_selects (args := #[]) (mvT hZ (own_w hw 180 rfl))) (own_w hw 180 rfl) (own_w hw 179 rfl) (own_w hw 2 rfl) (own_w hw 181 rfl) (rmTG1 l Z a0 hw tt (2 : Int32) h0 cl ck c0 x n f g ⟨u1792, u1793, u1794, u1795⟩ ⟨u1796, u1797, u1798, u1799, u1800, u1801⟩ E_x rfl hn hf hg) e1802 u1792 (g := (mkF m 13 #[.val (.ref a), .val (.int (2 : Int32))] [(.int (2 : Int32)), (.ref tt)])) rfl (by rw [hml]; rfl) (lenOf own_pd10 rfl) rfl (by show 2 * 0 + _ ≤ _; exact Nat.le_of_eq rfl) (hb hby own_d23_13) (by decide) (by decide) (by decide) (by decide)
  obtain ⟨rfl, e1803, rfl⟩ := hQ1803
  rw [List.append_nil] at X1803
  refine own_st (st1803) ?_
  clear st1803 X1802 e1802
  show OFin p e below s _ _ _ (T1803.setTop (mkF m 16 #[.val (.ref a), .val (.int (2 : Int32))] [(.ref x)]))
  exact own_ret X1803 hx (t := (.object "com/example/epicycle/epicycle/Timeout")) hret hlk rfl (Or.inr (Or.inr (Or.inr (Or.inr ⟨rfl, rfl, rfl⟩)))) (hb hby own_d23_16) (by decide) (by decide) ⟨rfl, e1803, rfl⟩
set_option maxRecDepth 65536 in
set_option maxHeartbeats 40000000 in
theorem rmFI1 (l : Launch) (Z : State) (a0 : Array Value) (hw : ∀ d ∈ tables_1, d.before a0 Z = true) (a : Addr) (h0 : Heap) (tt cl ck c0 x : Addr) (n hd tl ct : Int32) (ea : Int64) (f g : Nat → Value) (B0 : OSL Z h0 a tt hd tl ct ea) (B1 : OTT Z h0 tt cl) (B2 : OCL1 Z h0 cl ck c0 n f g) (E_x : Exa Z h0 x "com/example/epicycle/epicycle/Timeout") (hp : hd = (2 : Int32)) (hn : (1 : Int32) < n) (hf : f 0 = .ref c0) (hg : g 1 = .ref x) :
    OMet l Z (⟨"com/example/epicycle/epicycle/TimeoutList", "first", "()Lcom/example/epicycle/epicycle/Timeout;"⟩ : MethodName) prog_13_method_3_code 1 (some (.object "com/example/epicycle/epicycle/Timeout")) (⟨5, 0, 0, 66⟩ : Room) #[(.ref a)] h0 (fun v h L => v = some (.ref x) ∧ h = h0 ∧ L = []) := by
  refine own_enter own_pn22 ?_
  intro p e s m below meth c T0 X0 hC e0
  obtain ⟨hx, hZ, hby, hml, hown, hret, hlk, hnm⟩ := hC
  have hown : s.vm.findClass "com/example/epicycle/epicycle/TimeoutList" = some m.cls := hown
  refine own_at (own_ef22_R m a) ?_
  show OFin p e below s _ _ _ (T0.setTop (mkF m 0 #[.val (.ref a)] []))
  obtain ⟨u1804, u1805, u1806, u1807, u1808, u1809, u1810⟩ := B0
  obtain ⟨u1811, u1812, u1813, u1814⟩ := B1
  obtain ⟨u1815, u1816, u1817, u1818, u1819, u1820⟩ := B2
  refine own_st (fun _ kS => XS.aloadN X0.here hx rfl (hb hby own_d22_0) rfl rfl kS) ?_
  show OFin p e below s _ _ _ (T0.setTop (mkF m 1 #[.val (.ref a)] [(.ref a)]))
  refine own_st (fun _ kS => XS.aloadN X0.here hx rfl (hb hby own_d22_1) rfl rfl kS) ?_
  show OFin p e below s _ _ _ (T0.setTop (mkF m 2 #[.val (.ref a)] [(.ref a), (.ref a)]))
  obtain ⟨T1821, X1821, e1821, st1821⟩ := getF X0 hx hZ hown (host := "") (Or.inl (own_w hw 102 rfl)) Via.refl e0 u1805 (g := (mkF m 2 #[.val (.ref a)] [(.ref a), (.ref a)])) rfl rfl (hb hby own_d22_2)
  refine own_st (st1821) ?_
  clear st1821 X0 e0
  show OFin p e below s _ _ _ (T1821.setTop (mkF m 5 #[.val (.ref a)] [(.int hd), (.ref a)]))
  obtain ⟨v1822, T1822, L1822, X1822, hQ1822, st1822⟩ := own_private X1821 hx hZ (y := (⟨"com/example/epicycle/epicycle/TimeoutList", "timeoutAt", "(I)Lcom/example/epicycle/epicycle/Timeout;"⟩ : MethodName)) (rm := ⟨4, 0, 0, 53⟩) (W := 0) (a := a) (argsL := [(.int hd)]) (rest := []) hown (own_w hw 173 rfl) (own_w hw 174 rfl) (own_w hw 175 rfl) (own_w hw 171 rfl) rfl (own_w hw 99 rfl) (own_w hw 176 rfl) (rmTM1 l Z a0 hw a hd h0 tt cl ck c0 x n hd tl ct ea f g ⟨u1804, u1805, u1806, u1807, u1808, u1809, u1810⟩ ⟨u1811, u1812, u1813, u1814⟩ ⟨u1815, u1816, u1817, u1818, u1819, u1820⟩ E_x hp hn hf hg) e1821 u1804 (g := (mkF m 5 #[.val (.ref a)] [(.int hd), (.ref a)])) rfl (by rw [hml]; rfl) (lenOf own_pd10 rfl) rfl (by show 2 * 0 + _ ≤ _; exact Nat.le_of_eq rfl) (hb hby own_d22_5) (by decide) (by decide) (by decide) (by decide)
  obtain ⟨rfl, e1822, rfl⟩ := hQ1822
  rw [List.append_nil] at X1822
  refine own_st (st1822) ?_
  clear st1822 X1821 e1821
  show OFin p e below s _ _ _ (T1822.setTop (mkF m 8 #[.val (.ref a)] [(.ref x)]))
  exact own_ret X1822 hx (t := (.object "com/example/epicycle/epicycle/Timeout")) hret hlk rfl (Or.inr (Or.inr (Or.inr (Or.inr ⟨rfl, rfl, rfl⟩)))) (hb hby own_d22_8) (by decide) (by decide) ⟨rfl, e1822, rfl⟩
set_option maxRecDepth 65536 in
set_option maxHeartbeats 40000000 in
theorem rmLA1 (l : Launch) (Z : State) (a0 : Array Value) (hw : ∀ d ∈ tables_1, d.before a0 Z = true) (a : Addr) (h0 : Heap) (tt cl ck c0 x : Addr) (n hd tl ct : Int32) (ea : Int64) (f g : Nat → Value) (B0 : OSL Z h0 a tt hd tl ct ea) (B1 : OTT Z h0 tt cl) (B2 : OCL1 Z h0 cl ck c0 n f g) (E_x : Exa Z h0 x "com/example/epicycle/epicycle/Timeout") (hp : tl = (2 : Int32)) (hn : (1 : Int32) < n) (hf : f 0 = .ref c0) (hg : g 1 = .ref x) :
    OMet l Z (⟨"com/example/epicycle/epicycle/TimeoutList", "last", "()Lcom/example/epicycle/epicycle/Timeout;"⟩ : MethodName) prog_13_method_4_code 1 (some (.object "com/example/epicycle/epicycle/Timeout")) (⟨5, 0, 0, 66⟩ : Room) #[(.ref a)] h0 (fun v h L => v = some (.ref x) ∧ h = h0 ∧ L = []) := by
  refine own_enter own_pn28 ?_
  intro p e s m below meth c T0 X0 hC e0
  obtain ⟨hx, hZ, hby, hml, hown, hret, hlk, hnm⟩ := hC
  have hown : s.vm.findClass "com/example/epicycle/epicycle/TimeoutList" = some m.cls := hown
  refine own_at (own_ef28_R m a) ?_
  show OFin p e below s _ _ _ (T0.setTop (mkF m 0 #[.val (.ref a)] []))
  obtain ⟨u1823, u1824, u1825, u1826, u1827, u1828, u1829⟩ := B0
  obtain ⟨u1830, u1831, u1832, u1833⟩ := B1
  obtain ⟨u1834, u1835, u1836, u1837, u1838, u1839⟩ := B2
  refine own_st (fun _ kS => XS.aloadN X0.here hx rfl (hb hby own_d28_0) rfl rfl kS) ?_
  show OFin p e below s _ _ _ (T0.setTop (mkF m 1 #[.val (.ref a)] [(.ref a)]))
  refine own_st (fun _ kS => XS.aloadN X0.here hx rfl (hb hby own_d28_1) rfl rfl kS) ?_
  show OFin p e below s _ _ _ (T0.setTop (mkF m 2 #[.val (.ref a)] [(.ref a), (.ref a)]))
  obtain ⟨T1840, X1840, e1840, st1840⟩ := getF X0 hx hZ hown (host := "") (Or.inl (own_w hw 104 rfl)) Via.refl e0 u1825 (g := (mkF m 2 #[.val (.ref a)] [(.ref a), (.ref a)])) rfl rfl (hb hby own_d28_2)
  refine own_st (st1840) ?_
  clear st1840 X0 e0
  show OFin p e below s _ _ _ (T1840.setTop (mkF m 5 #[.val (.ref a)] [(.int tl), (.ref a)]))
  obtain ⟨v1841, T1841, L1841, X1841, hQ1841, st1841⟩ := own_private X1840 hx hZ (y := (⟨"com/example/epicycle/epicycle/TimeoutList", "timeoutAt", "(I)Lcom/example/epicycle/epicycle/Timeout;"⟩ : MethodName)) (rm := ⟨4, 0, 0, 53⟩) (W := 0) (a := a) (argsL := [(.int tl)]) (rest := []) hown (own_w hw 173 rfl) (own_w hw 174 rfl) (own_w hw 175 rfl) (own_w hw 171 rfl) rfl (own_w hw 99 rfl) (own_w hw 176 rfl) (rmTM1 l Z a0 hw a tl h0 tt cl ck c0 x n hd tl ct ea f g ⟨u1823, u1824, u1825, u1826, u1827, u1828, u1829⟩ ⟨u1830, u1831, u1832, u1833⟩ ⟨u1834, u1835, u1836, u1837, u1838, u1839⟩ E_x hp hn hf hg) e1840 u1823 (g := (mkF m 5 #[.val (.ref a)] [(.int tl), (.ref a)])) rfl (by rw [hml]; rfl) (lenOf own_pd10 rfl) rfl (by show 2 * 0 + _ ≤ _; exact Nat.le_of_eq rfl) (hb hby own_d28_5) (by decide) (by decide) (by decide) (by decide)
  obtain ⟨rfl, e1841, rfl⟩ := hQ1841
  rw [List.append_nil] at X1841
  refine own_st (st1841) ?_
  clear st1841 X1840 e1840
  show OFin p e below s _ _ _ (T1841.setTop (mkF m 8 #[.val (.ref a)] [(.ref x)]))
  exact own_ret X1841 hx (t := (.object "com/example/epicycle/epicycle/Timeout")) hret hlk rfl (Or.inr (Or.inr (Or.inr (Or.inr ⟨rfl, rfl, rfl⟩)))) (hb hby own_d28_8) (by decide) (by decide) ⟨rfl, e1841, rfl⟩
set_option maxRecDepth 65536 in
set_option maxHeartbeats 40000000 in
theorem rmTH (l : Launch) (Z : State) (a0 : Array Value) (hw : ∀ d ∈ tables_1, d.before a0 Z = true) (a : Addr) (x : Addr) (h0 : Heap) (tt cl ck c0 : Addr) (n hd tl ct : Int32) (ea : Int64) (f g : Nat → Value) (ft : Int64) (nx : Int32) (B0 : OSL Z h0 a tt hd tl ct ea) (B1 : OTT Z h0 tt cl) (B2 : OCL1 Z h0 cl ck c0 n f g) (B3 : OTO Z h0 x ft (0 : Int32) nx) (hp : hd = 1) (hn : (0 : Int32) < n) (hf : f 0 = .ref c0) (hg : g 0 = .ref x) :
    OMet l Z (⟨"com/example/epicycle/epicycle/TimeoutList", "holds", "(Lcom/example/epicycle/epicycle/Timeout;)Z"⟩ : MethodName) prog_13_method_11_code 2 (some .boolean) (⟨4, 0, 0, 53⟩ : Room) #[(.ref a), (.ref x)] h0 (fun v h L => v = some (.int (1 : Int32)) ∧ h = h0 ∧ L = []) := by
  refine own_enter own_pn33 ?_
  intro p e s m below meth c T0 X0 hC e0
  obtain ⟨hx, hZ, hby, hml, hown, hret, hlk, hnm⟩ := hC
  have hown : s.vm.findClass "com/example/epicycle/epicycle/TimeoutList" = some m.cls := hown
  refine own_at (own_ef33_RR m a x) ?_
  show OFin p e below s _ _ _ (T0.setTop (mkF m 0 #[.val (.ref a), .val (.ref x)] []))
  obtain ⟨u1842, u1843, u1844, u1845, u1846, u1847, u1848⟩ := B0
  obtain ⟨u1849, u1850, u1851, u1852⟩ := B1
  obtain ⟨u1853, u1854, u1855, u1856, u1857, u1858⟩ := B2
  obtain ⟨u1859, u1860, u1861, u1862⟩ := B3
  subst hp
  refine own_st (fun _ kS => XS.aloadN X0.here hx rfl (hb hby own_d33_0) rfl rfl kS) ?_
  show OFin p e below s _ _ _ (T0.setTop (mkF m 1 #[.val (.ref a), .val (.ref x)] [(.ref x)]))
  obtain ⟨T1863, X1863, e1863, st1863⟩ := getF X0 hx hZ hown (host := "") (Or.inl (own_w hw 155 rfl)) Via.refl e0 u1861 (g := (mkF m 1 #[.val (.ref a), .val (.ref x)] [(.ref x)])) rfl rfl (hb hby own_d33_1)
  refine own_st (st1863) ?_
  clear st1863 X0 e0
  show OFin p e below s _ _ _ (T1863.setTop (mkF m 4 #[.val (.ref a), .val (.ref x)] [(.int (0 : Int32))]))
  refine own_st (fun _ kS => XS.ifNo X1863.here hx rfl (hb hby own_d33_4) rfl ((if0 _ _).trans (teq rfl).2) kS) ?_
  show OFin p e below s _ _ _ (T1863.setTop (mkF m 7 #[.val (.ref a), .val (.ref x)] []))
  refine own_st (fun _ kS => XS.aloadN X1863.here hx rfl (hb hby own_d33_7) rfl rfl kS) ?_
  show OFin p e below s _ _ _ (T1863.setTop (mkF m 8 #[.val (.ref a), .val (.ref x)] [(.ref a)]))
  obtain ⟨T1864, X1864, e1864, st1864⟩ := getF X1863 hx hZ hown (host := "") (Or.inl (own_w hw 102 rfl)) Via.refl e1863 u1843 (g := (mkF m 8 #[.val (.ref a), .val (.ref x)] [(.ref a)])) rfl rfl (hb hby own_d33_8)
  refine own_st (st1864) ?_
  clear st1864 X1863 e1863
  show OFin p e below s _ _ _ (T1864.setTop (mkF m 11 #[.val (.ref a), .val (.ref x)] [(.int (1 : Int32))]))
  refine own_st (fun _ kS => XS.ifNo X1864.here hx rfl (hb hby own_d33_11) rfl ((if0 _ _).trans (feq (by decide)).1) kS) ?_
  show OFin p e below s _ _ _ (T1864.setTop (mkF m 14 #[.val (.ref a), .val (.ref x)] []))
  refine own_st (fun _ kS => XS.aloadN X1864.here hx rfl (hb hby own_d33_14) rfl rfl kS) ?_
  show OFin p e below s _ _ _ (T1864.setTop (mkF m 15 #[.val (.ref a), .val (.ref x)] [(.ref a)]))
  obtain ⟨T1865, X1865, e1865, st1865⟩ := getF X1864 hx hZ hown (host := "") (Or.inl (own_w hw 106 rfl)) Via.refl e1864 u1845 (g := (mkF m 15 #[.val (.ref a), .val (.ref x)] [(.ref a)])) rfl rfl (hb hby own_d33_15)
  refine own_st (st1865) ?_
  clear st1865 X1864 e1864
  show OFin p e below s _ _ _ (T1865.setTop (mkF m 18 #[.val (.ref a), .val (.ref x)] [(.ref tt)]))
  refine own_st (fun _ kS => XS.aloadN X1865.here hx rfl (hb hby own_d33_18) rfl rfl kS) ?_
  show OFin p e below s _ _ _ (T1865.setTop (mkF m 19 #[.val (.ref a), .val (.ref x)] [(.ref a), (.ref tt)]))
  obtain ⟨T1866, X1866, e1866, st1866⟩ := getF X1865 hx hZ hown (host := "") (Or.inl (own_w hw 102 rfl)) Via.refl e1865 u1843 (g := (mkF m 19 #[.val (.ref a), .val (.ref x)] [(.ref a), (.ref tt)])) rfl rfl (hb hby own_d33_19)
  refine own_st (st1866) ?_
  clear st1866 X1865 e1865
  show OFin p e below s _ _ _ (T1866.setTop (mkF m 22 #[.val (.ref a), .val (.ref x)] [(.int (1 : Int32)), (.ref tt)]))
  obtain ⟨v1867, T1867, L1867, X1867, hQ1867, st1867⟩ := own_virtual X1866 hx hZ (y := (⟨"com/example/epicycle/epicycle/TimeoutTable", "get", "(I)Lcom/example/epicycle/epicycle/Timeout;"⟩ : MethodName)) (z := (⟨"com/example/epicycle/epicycle/TimeoutTable", "get", "(I)Lcom/example/epicycle/epicycle/Timeout;"⟩ : MethodName)) (rm := ⟨3, 0, 0, 40⟩) (W := 0) (a := tt) (argsL := [(.int (1 : Int32))]) (rest := []) hown (own_w hw 177 rfl) (own_w hw 178 rfl) (notFace_of_selects (args := #[]) (mvT hZ (own_w hw 180 rfl))) (own_w hw 180 rfl) (own_w hw 179 rfl) (own_w hw 2 rfl) (own_w hw 181 rfl) (rmTG0 l Z a0 hw tt (1 : Int32) h0 cl ck c0 x n f g ⟨u1849, u1850, u1851, u1852⟩ ⟨u1853, u1854, u1855, u1856, u1857, u1858⟩ u1859 rfl hn hf hg) e1866 u1849 (g := (mkF m 22 #[.val (.ref a), .val (.ref x)] [(.int (1 : Int32)), (.ref tt)])) rfl (by rw [hml]; rfl) (lenOf own_pd10 rfl) rfl (by show 2 * 0 + _ ≤ _; exact Nat.le_of_eq rfl) (hb hby own_d33_22) (by decide) (by decide) (by decide) (by decide)
  obtain ⟨rfl, e1867, rfl⟩ := hQ1867
  rw [List.append_nil] at X1867
  refine own_st (st1867) ?_
  clear st1867 X1866 e1866
  show OFin p e below s _ _ _ (T1867.setTop (mkF m 25 #[.val (.ref a), .val (.ref x)] [(.ref x)]))
  refine own_st (fun _ kS => XS.aloadN X1867.here hx rfl (hb hby own_d33_25) rfl rfl kS) ?_
  show OFin p e below s _ _ _ (T1867.setTop (mkF m 26 #[.val (.ref a), .val (.ref x)] [(.ref x), (.ref x)]))
  refine own_st (fun _ kS => Jvm.RoadKit.acmp (g := (mkF m 26 #[.val (.ref a), .val (.ref x)] [(.ref x), (.ref x)])) X1867 hx rfl rfl rfl (pc0 := 26) (pc' := 29) (same := true) rfl (hb hby own_d33_26) rfl (decide_eq_true rfl) (by decide) (by decide) kS) ?_
  show OFin p e below s _ _ _ (T1867.setTop (mkF m 29 #[.val (.ref a), .val (.ref x)] []))
  refine own_st (fun _ kS => XS.iconst X1867.here hx rfl (hb hby own_d33_29) kS) ?_
  show OFin p e below s _ _ _ (T1867.setTop (mkF m 30 #[.val (.ref a), .val (.ref x)] [(.int (1 : Int32))]))
  refine own_st (fun _ kS => XS.goto X1867.here hx rfl (pc0 := 30) (pc' := 34) rfl (hb hby own_d33_30) (by decide) (by decide) kS) ?_
  show OFin p e below s _ _ _ (T1867.setTop (mkF m 34 #[.val (.ref a), .val (.ref x)] [(.int (1 : Int32))]))
  exact own_ret X1867 hx (t := .boolean) hret hlk rfl (Or.inl ⟨rfl, by simp, _, rfl⟩) (hb hby own_d33_34) (by decide) (by decide) ⟨rfl, e1867, rfl⟩
set_option maxRecDepth 65536 in
set_option maxHeartbeats 40000000 in
theorem rmHN (l : Launch) (Z : State) (a0 : Array Value) (hw : ∀ d ∈ tables_1, d.before a0 Z = true) (a : Addr) (x : Addr) (h0 : Heap) (sa tt : Addr) (lv d nx : Int32) (dn : Nat) (oc ft : Int64) (fs : Nat → Value)  (B0 : OSR Z h0 a sa tt lv oc fs) (B3 : OTO Z h0 x ft (0 : Int32) nx) (hd : own_dig ft lv = d) (hdn : d.toInt = dn) (hd64 : dn < 64) (hs : fs dn = .null)  :
    OMet l Z (⟨"com/example/epicycle/epicycle/SlotRing", "holds", "(Lcom/example/epicycle/epicycle/Timeout;)Z"⟩ : MethodName) prog_7_method_7_code 4 (some .boolean) (⟨5, 0, 0, 66⟩ : Room) #[(.ref a), (.ref x)] h0 (fun v h L => v = some (.int (0 : Int32)) ∧ h = h0 ∧ L = []) := by
  refine own_enter own_pn32 ?_
  intro p e s m below meth c T0 X0 hC e0
  obtain ⟨hx, hZ, hby, hml, hown, hret, hlk, hnm⟩ := hC
  have hown : s.vm.findClass "com/example/epicycle/epicycle/SlotRing" = some m.cls := hown
  refine own_at (own_ef32_RR m a x) ?_
  show OFin p e below s _ _ _ (T0.setTop (mkF m 0 #[.val (.ref a), .val (.ref x), .unset, .unset] []))
  obtain ⟨u1868, u1869, u1870, u1871, u1872, u1873⟩ := B0
  obtain ⟨u1874, u1875, u1876, u1877⟩ := B3
  obtain ⟨q0, q1⟩ := own_cl hdn
  refine own_st (fun _ kS => XS.aloadN X0.here hx rfl (hb hby own_d32_0) rfl rfl kS) ?_
  show OFin p e below s _ _ _ (T0.setTop (mkF m 1 #[.val (.ref a), .val (.ref x), .unset, .unset] [(.ref a)]))
  obtain ⟨T1878, X1878, e1878, st1878⟩ := getF X0 hx hZ hown (host := "") (Or.inl (own_w hw 59 rfl)) Via.refl e0 u1869 (g := (mkF m 1 #[.val (.ref a), .val (.ref x), .unset, .unset] [(.ref a)])) rfl rfl (hb hby own_d32_1)
  refine own_st (st1878) ?_
  clear st1878 X0 e0
  show OFin p e below s _ _ _ (T1878.setTop (mkF m 4 #[.val (.ref a), .val (.ref x), .unset, .unset] [(.ref sa)]))
  refine own_st (fun _ kS => XS.aloadN X1878.here hx rfl (hb hby own_d32_4) rfl rfl kS) ?_
  show OFin p e below s _ _ _ (T1878.setTop (mkF m 5 #[.val (.ref a), .val (.ref x), .unset, .unset] [(.ref x), (.ref sa)]))
  obtain ⟨v1879, T1879, L1879, X1879, hQ1879, st1879⟩ := own_virtual X1878 hx hZ (y := (⟨"com/example/epicycle/epicycle/Timeout", "fireTick", "()J"⟩ : MethodName)) (z := (⟨"com/example/epicycle/epicycle/Timeout", "fireTick", "()J"⟩ : MethodName)) (rm := ⟨0, 0, 0, 0⟩) (W := 1) (a := x) (argsL := []) (rest := [(.ref sa)]) hown (own_w hw 83 rfl) (own_w hw 84 rfl) (notFace_of_selects (args := #[]) (mvT hZ (own_w hw 86 rfl))) (own_w hw 86 rfl) (own_w hw 85 rfl) (own_w hw 67 rfl) (own_w hw 87 rfl) (rmFT l Z a0 hw x h0 ft 0 nx ⟨u1874, u1875, u1876, u1877⟩) e1878 u1874 (g := (mkF m 5 #[.val (.ref a), .val (.ref x), .unset, .unset] [(.ref x), (.ref sa)])) rfl (by rw [hml]; rfl) (lenOf own_pd11 rfl) rfl (by show 2 * 0 + _ ≤ _; exact Nat.le_of_eq rfl) (hb hby own_d32_5) (by decide) (by decide) (by decide) (by decide)
  obtain ⟨rfl, e1879, rfl⟩ := hQ1879
  rw [List.append_nil] at X1879
  refine own_st (st1879) ?_
  clear st1879 X1878 e1878
  show OFin p e below s _ _ _ (T1879.setTop (mkF m 8 #[.val (.ref a), .val (.ref x), .unset, .unset] [(.long ft), (.ref sa)]))
  refine own_st (fun _ kS => XS.aloadN X1879.here hx rfl (hb hby own_d32_8) rfl rfl kS) ?_
  show OFin p e below s _ _ _ (T1879.setTop (mkF m 9 #[.val (.ref a), .val (.ref x), .unset, .unset] [(.ref a), (.long ft), (.ref sa)]))
  obtain ⟨T1880, X1880, e1880, st1880⟩ := getF X1879 hx hZ hown (host := "") (Or.inl (own_w hw 61 rfl)) Via.refl e1879 u1870 (g := (mkF m 9 #[.val (.ref a), .val (.ref x), .unset, .unset] [(.ref a), (.long ft), (.ref sa)])) rfl rfl (hb hby own_d32_9)
  refine own_st (st1880) ?_
  clear st1880 X1879 e1879
  show OFin p e below s _ _ _ (T1880.setTop (mkF m 12 #[.val (.ref a), .val (.ref x), .unset, .unset] [(.int lv), (.long ft), (.ref sa)]))
  obtain ⟨v1881, T1881, L1881, X1881, hQ1881, st1881⟩ := own_static X1880 hx hZ (y := (⟨"com/example/epicycle/epicycle/SlotRing", "digit", "(JI)I"⟩ : MethodName)) (rm := ⟨0, 0, 0, 0⟩) (W := 1) (argsL := [(.long ft), (.int lv)]) (rest := [(.ref sa)]) hown (own_w hw 88 rfl) (own_w hw 89 rfl) (own_w hw 52 rfl) (own_w hw 90 rfl) (rmDG l Z a0 hw ft lv h0) e1880 (g := (mkF m 12 #[.val (.ref a), .val (.ref x), .unset, .unset] [(.int lv), (.long ft), (.ref sa)])) rfl (by rw [hml]; rfl) (lenOf own_pd12 rfl) rfl (by show 2 * 0 + _ ≤ _; exact Nat.le_of_eq rfl) (hb hby own_d32_12) (by decide) (by decide) (by decide) (by decide)
  obtain ⟨rfl, e1881, rfl⟩ := hQ1881
  rw [List.append_nil] at X1881
  refine own_st (st1881) ?_
  clear st1881 X1880 e1880
  show OFin p e below s _ _ _ (T1881.setTop (mkF m 15 #[.val (.ref a), .val (.ref x), .unset, .unset] [(.int (own_dig ft lv)), (.ref sa)]))
  rw [hd]
  show OFin p e below s _ _ _ (T1881.setTop (mkF m 15 #[.val (.ref a), .val (.ref x), .unset, .unset] [(.int d), (.ref sa)]))
  obtain ⟨cl1882, Ar1882, S1882, B1882, H1882, O1882⟩ := id u1873
  refine own_st (X1881.aaload hx (j := d) (v := .null) (by rw [e1881]; exact Ar1882.1) (State.isArrayOf_alike hZ.alike Ar1882.2.1) rfl Ar1882.2.2 (own_inb S1882 q0 q1 hd64) ((own_hv H1882 q1 hd64).trans (congrArg some (hs))) (g := (mkF m 15 #[.val (.ref a), .val (.ref x), .unset, .unset] [(.int d), (.ref sa)])) rfl rfl (hb hby own_d32_15)) ?_
  clear Ar1882 S1882 B1882 H1882 O1882
  show OFin p e below s _ _ _ (T1881.setTop (mkF m 16 #[.val (.ref a), .val (.ref x), .unset, .unset] [.null]))
  refine own_st (fun _ kS => XS.astoreN X1881.here hx rfl (hb hby own_d32_16) rfl rfl (l' := #[.val (.ref a), .val (.ref x), .val .null, .unset]) rfl kS) ?_
  show OFin p e below s _ _ _ (T1881.setTop (mkF m 17 #[.val (.ref a), .val (.ref x), .val .null, .unset] []))
  refine own_st (fun _ kS => XS.aloadN X1881.here hx rfl (hb hby own_d32_17) rfl rfl kS) ?_
  show OFin p e below s _ _ _ (T1881.setTop (mkF m 18 #[.val (.ref a), .val (.ref x), .val .null, .unset] [.null]))
  refine own_st (fun _ kS => XS.ifnonnullNo X1881.here hx rfl (hb hby own_d32_18) rfl kS) ?_
  show OFin p e below s _ _ _ (T1881.setTop (mkF m 21 #[.val (.ref a), .val (.ref x), .val .null, .unset] []))
  refine own_st (fun _ kS => XS.iconst X1881.here hx rfl (hb hby own_d32_21) kS) ?_
  show OFin p e below s _ _ _ (T1881.setTop (mkF m 22 #[.val (.ref a), .val (.ref x), .val .null, .unset] [(.int (0 : Int32))]))
  refine own_st (fun _ kS => XS.istoreN X1881.here hx rfl (hb hby own_d32_22) rfl (l' := #[.val (.ref a), .val (.ref x), .val .null, .val (.int (0 : Int32))]) rfl kS) ?_
  show OFin p e below s _ _ _ (T1881.setTop (mkF m 23 #[.val (.ref a), .val (.ref x), .val .null, .val (.int (0 : Int32))] []))
  refine own_st (fun _ kS => XS.goto X1881.here hx rfl (pc0 := 23) (pc' := 51) rfl (hb hby own_d32_23) (by decide) (by decide) kS) ?_
  show OFin p e below s _ _ _ (T1881.setTop (mkF m 51 #[.val (.ref a), .val (.ref x), .val .null, .val (.int (0 : Int32))] []))
  refine own_st (fun _ kS => XS.iloadN X1881.here hx rfl (hb hby own_d32_51) rfl kS) ?_
  show OFin p e below s _ _ _ (T1881.setTop (mkF m 52 #[.val (.ref a), .val (.ref x), .val .null, .val (.int (0 : Int32))] [(.int (0 : Int32))]))
  exact own_ret X1881 hx (t := .boolean) hret hlk rfl (Or.inl ⟨rfl, by simp, _, rfl⟩) (hb hby own_d32_52) (by decide) (by decide) ⟨rfl, e1881, rfl⟩
set_option maxRecDepth 65536 in
set_option maxHeartbeats 40000000 in
theorem rmHS (l : Launch) (Z : State) (a0 : Array Value) (hw : ∀ d ∈ tables_1, d.before a0 Z = true) (a : Addr) (x : Addr) (h0 : Heap) (sa tt cl ck c0 sl : Addr) (lv d nx : Int32) (dn : Nat) (oc ft : Int64) (fs : Nat → Value) (n tl ct : Int32) (ea : Int64) (f g : Nat → Value) (B0 : OSR Z h0 a sa tt lv oc fs) (B3 : OTO Z h0 x ft (0 : Int32) nx) (hd : own_dig ft lv = d) (hdn : d.toInt = dn) (hd64 : dn < 64) (hs : fs dn = .ref sl) (B4 : OSL Z h0 sl tt (1 : Int32) tl ct ea) (B1 : OTT Z h0 tt cl) (B2 : OCL1 Z h0 cl ck c0 n f g) (hn : (0 : Int32) < n) (hf : f 0 = .ref c0) (hg : g 0 = .ref x) :
    OMet l Z (⟨"com/example/epicycle/epicycle/SlotRing", "holds", "(Lcom/example/epicycle/epicycle/Timeout;)Z"⟩ : MethodName) prog_7_method_7_code 4 (some .boolean) (⟨5, 0, 0, 66⟩ : Room) #[(.ref a), (.ref x)] h0 (fun v h L => v = some (.int (1 : Int32)) ∧ h = h0 ∧ L = []) := by
  refine own_enter own_pn32 ?_
  intro p e s m below meth c T0 X0 hC e0
  obtain ⟨hx, hZ, hby, hml, hown, hret, hlk, hnm⟩ := hC
  have hown : s.vm.findClass "com/example/epicycle/epicycle/SlotRing" = some m.cls := hown
  refine own_at (own_ef32_RR m a x) ?_
  show OFin p e below s _ _ _ (T0.setTop (mkF m 0 #[.val (.ref a), .val (.ref x), .unset, .unset] []))
  obtain ⟨u1883, u1884, u1885, u1886, u1887, u1888⟩ := B0
  obtain ⟨u1889, u1890, u1891, u1892⟩ := B3
  obtain ⟨u1893, u1894, u1895, u1896, u1897, u1898, u1899⟩ := B4
  obtain ⟨u1900, u1901, u1902, u1903⟩ := B1
  obtain ⟨u1904, u1905, u1906, u1907, u1908, u1909⟩ := B2
  obtain ⟨q0, q1⟩ := own_cl hdn
  refine own_st (fun _ kS => XS.aloadN X0.here hx rfl (hb hby own_d32_0) rfl rfl kS) ?_
  show OFin p e below s _ _ _ (T0.setTop (mkF m 1 #[.val (.ref a), .val (.ref x), .unset, .unset] [(.ref a)]))
  obtain ⟨T1910, X1910, e1910, st1910⟩ := getF X0 hx hZ hown (host := "") (Or.inl (own_w hw 59 rfl)) Via.refl e0 u1884 (g := (mkF m 1 #[.val (.ref a), .val (.ref x), .unset, .unset] [(.ref a)])) rfl rfl (hb hby own_d32_1)
  refine own_st (st1910) ?_
  clear st1910 X0 e0
  show OFin p e below s _ _ _ (T1910.setTop (mkF m 4 #[.val (.ref a), .val (.ref x), .unset, .unset] [(.ref sa)]))
  refine own_st (fun _ kS => XS.aloadN X1910.here hx rfl (hb hby own_d32_4) rfl rfl kS) ?_
  show OFin p e below s _ _ _ (T1910.setTop (mkF m 5 #[.val (.ref a), .val (.ref x), .unset, .unset] [(.ref x), (.ref sa)]))
  obtain ⟨v1911, T1911, L1911, X1911, hQ1911, st1911⟩ := own_virtual X1910 hx hZ (y := (⟨"com/example/epicycle/epicycle/Timeout", "fireTick", "()J"⟩ : MethodName)) (z := (⟨"com/example/epicycle/epicycle/Timeout", "fireTick", "()J"⟩ : MethodName)) (rm := ⟨0, 0, 0, 0⟩) (W := 1) (a := x) (argsL := []) (rest := [(.ref sa)]) hown (own_w hw 83 rfl) (own_w hw 84 rfl) (notFace_of_selects (args := #[]) (mvT hZ (own_w hw 86 rfl))) (own_w hw 86 rfl) (own_w hw 85 rfl) (own_w hw 67 rfl) (own_w hw 87 rfl) (rmFT l Z a0 hw x h0 ft 0 nx ⟨u1889, u1890, u1891, u1892⟩) e1910 u1889 (g := (mkF m 5 #[.val (.ref a), .val (.ref x), .unset, .unset] [(.ref x), (.ref sa)])) rfl (by rw [hml]; rfl) (lenOf own_pd11 rfl) rfl (by show 2 * 0 + _ ≤ _; exact Nat.le_of_eq rfl) (hb hby own_d32_5) (by decide) (by decide) (by decide) (by decide)
  obtain ⟨rfl, e1911, rfl⟩ := hQ1911
  rw [List.append_nil] at X1911
  refine own_st (st1911) ?_
  clear st1911 X1910 e1910
  show OFin p e below s _ _ _ (T1911.setTop (mkF m 8 #[.val (.ref a), .val (.ref x), .unset, .unset] [(.long ft), (.ref sa)]))
  refine own_st (fun _ kS => XS.aloadN X1911.here hx rfl (hb hby own_d32_8) rfl rfl kS) ?_
  show OFin p e below s _ _ _ (T1911.setTop (mkF m 9 #[.val (.ref a), .val (.ref x), .unset, .unset] [(.ref a), (.long ft), (.ref sa)]))
  obtain ⟨T1912, X1912, e1912, st1912⟩ := getF X1911 hx hZ hown (host := "") (Or.inl (own_w hw 61 rfl)) Via.refl e1911 u1885 (g := (mkF m 9 #[.val (.ref a), .val (.ref x), .unset, .unset] [(.ref a), (.long ft), (.ref sa)])) rfl rfl (hb hby own_d32_9)
  refine own_st (st1912) ?_
  clear st1912 X1911 e1911
  show OFin p e below s _ _ _ (T1912.setTop (mkF m 12 #[.val (.ref a), .val (.ref x), .unset, .unset] [(.int lv), (.long ft), (.ref sa)]))
  obtain ⟨v1913, T1913, L1913, X1913, hQ1913, st1913⟩ := own_static X1912 hx hZ (y := (⟨"com/example/epicycle/epicycle/SlotRing", "digit", "(JI)I"⟩ : MethodName)) (rm := ⟨0, 0, 0, 0⟩) (W := 1) (argsL := [(.long ft), (.int lv)]) (rest := [(.ref sa)]) hown (own_w hw 88 rfl) (own_w hw 89 rfl) (own_w hw 52 rfl) (own_w hw 90 rfl) (rmDG l Z a0 hw ft lv h0) e1912 (g := (mkF m 12 #[.val (.ref a), .val (.ref x), .unset, .unset] [(.int lv), (.long ft), (.ref sa)])) rfl (by rw [hml]; rfl) (lenOf own_pd12 rfl) rfl (by show 2 * 0 + _ ≤ _; exact Nat.le_of_eq rfl) (hb hby own_d32_12) (by decide) (by decide) (by decide) (by decide)
  obtain ⟨rfl, e1913, rfl⟩ := hQ1913
  rw [List.append_nil] at X1913
  refine own_st (st1913) ?_
  clear st1913 X1912 e1912
  show OFin p e below s _ _ _ (T1913.setTop (mkF m 15 #[.val (.ref a), .val (.ref x), .unset, .unset] [(.int (own_dig ft lv)), (.ref sa)]))
  rw [hd]
  show OFin p e below s _ _ _ (T1913.setTop (mkF m 15 #[.val (.ref a), .val (.ref x), .unset, .unset] [(.int d), (.ref sa)]))
  obtain ⟨cl1914, Ar1914, S1914, B1914, H1914, O1914⟩ := id u1888
  refine own_st (X1913.aaload hx (j := d) (v := (.ref sl)) (by rw [e1913]; exact Ar1914.1) (State.isArrayOf_alike hZ.alike Ar1914.2.1) rfl Ar1914.2.2 (own_inb S1914 q0 q1 hd64) ((own_hv H1914 q1 hd64).trans (congrArg some (hs))) (g := (mkF m 15 #[.val (.ref a), .val (.ref x), .unset, .unset] [(.int d), (.ref sa)])) rfl rfl (hb hby own_d32_15)) ?_
  clear Ar1914 S1914 B1914 H1914 O1914
  show OFin p e below s _ _ _ (T1913.setTop (mkF m 16 #[.val (.ref a), .val (.ref x), .unset, .unset] [(.ref sl)]))
  refine own_st (fun _ kS => XS.astoreN X1913.here hx rfl (hb hby own_d32_16) rfl rfl (l' := #[.val (.ref a), .val (.ref x), .val (.ref sl), .unset]) rfl kS) ?_
  show OFin p e below s _ _ _ (T1913.setTop (mkF m 17 #[.val (.ref a), .val (.ref x), .val (.ref sl), .unset] []))
  refine own_st (fun _ kS => XS.aloadN X1913.here hx rfl (hb hby own_d32_17) rfl rfl kS) ?_
  show OFin p e below s _ _ _ (T1913.setTop (mkF m 18 #[.val (.ref a), .val (.ref x), .val (.ref sl), .unset] [(.ref sl)]))
  refine own_st (fun _ kS => XS.ifnonnullYes X1913.here hx rfl (pc0 := 18) (pc' := 26) rfl (hb hby own_d32_18) rfl (by decide) (by decide) kS) ?_
  show OFin p e below s _ _ _ (T1913.setTop (mkF m 26 #[.val (.ref a), .val (.ref x), .val (.ref sl), .unset] []))
  refine own_st (fun _ kS => XS.aloadN X1913.here hx rfl (hb hby own_d32_26) rfl rfl kS) ?_
  show OFin p e below s _ _ _ (T1913.setTop (mkF m 27 #[.val (.ref a), .val (.ref x), .val (.ref sl), .unset] [(.ref sl)]))
  obtain ⟨T1915, X1915, e1915, st1915⟩ := getF X1913 hx hZ hown (host := "") (Or.inl (own_w hw 113 rfl)) Via.refl e1913 u1899 (g := (mkF m 27 #[.val (.ref a), .val (.ref x), .val (.ref sl), .unset] [(.ref sl)])) rfl rfl (hb hby own_d32_27)
  refine own_st (st1915) ?_
  clear st1915 X1913 e1913
  show OFin p e below s _ _ _ (T1915.setTop (mkF m 30 #[.val (.ref a), .val (.ref x), .val (.ref sl), .unset] [.null]))
  refine own_st (fun _ kS => XS.ifnullYes X1915.here hx rfl (pc0 := 30) (pc' := 45) rfl (hb hby own_d32_30) rfl (by decide) (by decide) kS) ?_
  show OFin p e below s _ _ _ (T1915.setTop (mkF m 45 #[.val (.ref a), .val (.ref x), .val (.ref sl), .unset] []))
  refine own_st (fun _ kS => XS.aloadN X1915.here hx rfl (hb hby own_d32_45) rfl rfl kS) ?_
  show OFin p e below s _ _ _ (T1915.setTop (mkF m 46 #[.val (.ref a), .val (.ref x), .val (.ref sl), .unset] [(.ref sl)]))
  refine own_st (fun _ kS => XS.aloadN X1915.here hx rfl (hb hby own_d32_46) rfl rfl kS) ?_
  show OFin p e below s _ _ _ (T1915.setTop (mkF m 47 #[.val (.ref a), .val (.ref x), .val (.ref sl), .unset] [(.ref x), (.ref sl)]))
  obtain ⟨v1916, T1916, L1916, X1916, hQ1916, st1916⟩ := own_virtualUp X1915 hx hZ (owner := "com/example/epicycle/epicycle/TimeoutList") (y := (⟨"com/example/epicycle/epicycle/SlotRing$Slot", "holds", "(Lcom/example/epicycle/epicycle/Timeout;)Z"⟩ : MethodName)) (z := (⟨"com/example/epicycle/epicycle/TimeoutList", "holds", "(Lcom/example/epicycle/epicycle/Timeout;)Z"⟩ : MethodName)) (rm := ⟨4, 0, 0, 53⟩) (W := 0) (a := sl) (argsL := [(.ref x)]) (rest := []) hown (own_w hw 223 rfl) (own_w hw 224 rfl) (own_w hw 225 rfl) (own_w hw 227 rfl) (own_w hw 226 rfl) (own_w hw 99 rfl) (own_w hw 228 rfl) (rmTH l Z a0 hw sl x h0 tt cl ck c0 n (1 : Int32) tl ct ea f g ft nx ⟨u1893, u1894, u1895, u1896, u1897, u1898, u1899⟩ ⟨u1900, u1901, u1902, u1903⟩ ⟨u1904, u1905, u1906, u1907, u1908, u1909⟩ ⟨u1889, u1890, u1891, u1892⟩ rfl hn hf hg) e1915 u1893 (g := (mkF m 47 #[.val (.ref a), .val (.ref x), .val (.ref sl), .unset] [(.ref x), (.ref sl)])) rfl (by rw [hml]; rfl) (lenOf own_pd15 rfl) rfl (by show 2 * 0 + _ ≤ _; exact Nat.le_of_eq rfl) (hb hby own_d32_47) (by decide) (by decide) (by decide) (by decide)
  obtain ⟨rfl, e1916, rfl⟩ := hQ1916
  rw [List.append_nil] at X1916
  refine own_st (st1916) ?_
  clear st1916 X1915 e1915
  show OFin p e below s _ _ _ (T1916.setTop (mkF m 50 #[.val (.ref a), .val (.ref x), .val (.ref sl), .unset] [(.int (1 : Int32))]))
  refine own_st (fun _ kS => XS.istoreN X1916.here hx rfl (hb hby own_d32_50) rfl (l' := #[.val (.ref a), .val (.ref x), .val (.ref sl), .val (.int (1 : Int32))]) rfl kS) ?_
  show OFin p e below s _ _ _ (T1916.setTop (mkF m 51 #[.val (.ref a), .val (.ref x), .val (.ref sl), .val (.int (1 : Int32))] []))
  refine own_st (fun _ kS => XS.iloadN X1916.here hx rfl (hb hby own_d32_51) rfl kS) ?_
  show OFin p e below s _ _ _ (T1916.setTop (mkF m 52 #[.val (.ref a), .val (.ref x), .val (.ref sl), .val (.int (1 : Int32))] [(.int (1 : Int32))]))
  exact own_ret X1916 hx (t := .boolean) hret hlk rfl (Or.inl ⟨rfl, by simp, _, rfl⟩) (hb hby own_d32_52) (by decide) (by decide) ⟨rfl, e1916, rfl⟩
def own_ush (x k : Int32) : Int32 := (x.toUInt32 >>> (k &&& 31).toUInt32).toInt32
def own_z4 (n x : Int32) : Int32 := if 4 < x then (n + 2) + own_ush (own_ush x 2) 1 else n + own_ush x 1
def own_z3 (n x : Int32) : Int32 := if 16 < x then own_z4 (n + 4) (own_ush x 4) else own_z4 n x
def own_z2 (n x : Int32) : Int32 := if 256 < x then own_z3 (n + 8) (own_ush x 8) else own_z3 n x
def own_z1 (n x : Int32) : Int32 := if 65536 < x then own_z2 (n + 16) (own_ush x 16) else own_z2 n x
def own_zi (p : Int32) : Int32 := if 0 < ((p ^^^ (-1)) &&& (p - 1)) then own_z1 1 ((p ^^^ (-1)) &&& (p - 1)) else ((p ^^^ (-1)) &&& (p - 1)) &&& 32
def own_zl (q : Int64) : Int32 := if q.toInt32 = 0 then 32 + own_zi ((q.toUInt64 >>> ((32 : Int32) &&& 0x3f).toInt64.toUInt64).toInt64).toInt32 else own_zi q.toInt32
set_option maxRecDepth 65536 in
set_option maxHeartbeats 40000000 in
theorem rmZI (l : Launch) (Z : State) (a0 : Array Value) (hw : ∀ d ∈ tables_1, d.before a0 Z = true) (p1 : Int32) (h0 : Heap)  :
    OMet l Z (⟨"java/lang/Integer", "numberOfTrailingZeros", "(I)I"⟩ : MethodName) jdk_33_method_48_code 2 (some .int) (⟨0, 0, 0, 0⟩ : Room) #[(.int p1)] h0 (fun v h L => v = some (.int (own_zi p1)) ∧ h = h0 ∧ L = []) := by
  refine own_enter own_pn31 ?_
  intro p e s m below meth c T0 X0 hC e0
  obtain ⟨hx, hZ, hby, hml, hown, hret, hlk, hnm⟩ := hC
  have hown : s.vm.findClass "java/lang/Integer" = some m.cls := hown
  refine own_at (own_ef31_I m p1) ?_
  show OFin p e below s _ _ _ (T0.setTop (mkF m 0 #[.val (.int p1), .unset] []))
  refine own_st (fun _ kS => XS.iloadN X0.here hx rfl (hb hby own_d31_0) rfl kS) ?_
  show OFin p e below s _ _ _ (T0.setTop (mkF m 1 #[.val (.int p1), .unset] [(.int p1)]))
  refine own_st (fun _ kS => XS.iconst X0.here hx rfl (hb hby own_d31_1) kS) ?_
  show OFin p e below s _ _ _ (T0.setTop (mkF m 2 #[.val (.int p1), .unset] [(.int (-1 : Int32)), (.int p1)]))
  refine own_st (fun _ kS => XS.ixor X0.here hx rfl (hb hby own_d31_2) rfl kS) ?_
  show OFin p e below s _ _ _ (T0.setTop (mkF m 3 #[.val (.int p1), .unset] [(.int (p1 ^^^ (-1 : Int32)))]))
  refine own_st (fun _ kS => XS.iloadN X0.here hx rfl (hb hby own_d31_3) rfl kS) ?_
  show OFin p e below s _ _ _ (T0.setTop (mkF m 4 #[.val (.int p1), .unset] [(.int p1), (.int (p1 ^^^ (-1 : Int32)))]))
  refine own_st (fun _ kS => XS.iconst X0.here hx rfl (hb hby own_d31_4) kS) ?_
  show OFin p e below s _ _ _ (T0.setTop (mkF m 5 #[.val (.int p1), .unset] [(.int (1 : Int32)), (.int p1), (.int (p1 ^^^ (-1 : Int32)))]))
  refine own_st (fun _ kS => XS.isub X0.here hx rfl (hb hby own_d31_5) rfl kS) ?_
  show OFin p e below s _ _ _ (T0.setTop (mkF m 6 #[.val (.int p1), .unset] [(.int (p1 - (1 : Int32))), (.int (p1 ^^^ (-1 : Int32)))]))
  refine own_st (fun _ kS => XS.iand X0.here hx rfl (hb hby own_d31_6) rfl kS) ?_
  show OFin p e below s _ _ _ (T0.setTop (mkF m 7 #[.val (.int p1), .unset] [(.int ((p1 ^^^ (-1 : Int32)) &&& (p1 - (1 : Int32))))]))
  refine own_st (fun _ kS => XS.istoreN X0.here hx rfl (hb hby own_d31_7) rfl (l' := #[.val (.int ((p1 ^^^ (-1 : Int32)) &&& (p1 - (1 : Int32)))), .unset]) rfl kS) ?_
  show OFin p e below s _ _ _ (T0.setTop (mkF m 8 #[.val (.int ((p1 ^^^ (-1 : Int32)) &&& (p1 - (1 : Int32)))), .unset] []))
  refine own_st (fun _ kS => XS.iloadN X0.here hx rfl (hb hby own_d31_8) rfl kS) ?_
  show OFin p e below s _ _ _ (T0.setTop (mkF m 9 #[.val (.int ((p1 ^^^ (-1 : Int32)) &&& (p1 - (1 : Int32)))), .unset] [(.int ((p1 ^^^ (-1 : Int32)) &&& (p1 - (1 : Int32))))]))
  by_cases c1 : (0 : Int32) < ((p1 ^^^ (-1 : Int32)) &&& (p1 - (1 : Int32)))
  · refine own_st (fun _ kS => XS.ifYes X0.here hx rfl (pc0 := 9) (pc' := 17) rfl (hb hby own_d31_9) rfl ((if0 _ _).trans (tlt c1).2.2.1) (by decide) (by decide) kS) ?_
    show OFin p e below s _ _ _ (T0.setTop (mkF m 17 #[.val (.int ((p1 ^^^ (-1 : Int32)) &&& (p1 - (1 : Int32)))), .unset] []))
    refine own_st (fun _ kS => XS.iconst X0.here hx rfl (hb hby own_d31_17) kS) ?_
    show OFin p e below s _ _ _ (T0.setTop (mkF m 18 #[.val (.int ((p1 ^^^ (-1 : Int32)) &&& (p1 - (1 : Int32)))), .unset] [(.int (1 : Int32))]))
    refine own_st (fun _ kS => XS.istoreN X0.here hx rfl (hb hby own_d31_18) rfl (l' := #[.val (.int ((p1 ^^^ (-1 : Int32)) &&& (p1 - (1 : Int32)))), .val (.int (1 : Int32))]) rfl kS) ?_
    show OFin p e below s _ _ _ (T0.setTop (mkF m 19 #[.val (.int ((p1 ^^^ (-1 : Int32)) &&& (p1 - (1 : Int32)))), .val (.int (1 : Int32))] []))
    refine own_st (fun _ kS => XS.iloadN X0.here hx rfl (hb hby own_d31_19) rfl kS) ?_
    show OFin p e below s _ _ _ (T0.setTop (mkF m 20 #[.val (.int ((p1 ^^^ (-1 : Int32)) &&& (p1 - (1 : Int32)))), .val (.int (1 : Int32))] [(.int ((p1 ^^^ (-1 : Int32)) &&& (p1 - (1 : Int32))))]))
    refine own_st (X0.ldcwInt hx hown (mvT hZ (own_w hw 215 rfl)) (g := (mkF m 20 #[.val (.int ((p1 ^^^ (-1 : Int32)) &&& (p1 - (1 : Int32)))), .val (.int (1 : Int32))] [(.int ((p1 ^^^ (-1 : Int32)) &&& (p1 - (1 : Int32))))])) rfl (hb hby own_d31_20)) ?_
    show OFin p e below s _ _ _ (T0.setTop (mkF m 23 #[.val (.int ((p1 ^^^ (-1 : Int32)) &&& (p1 - (1 : Int32)))), .val (.int (1 : Int32))] [(.int (65536 : Int32)), (.int ((p1 ^^^ (-1 : Int32)) &&& (p1 - (1 : Int32))))]))
    by_cases c2 : (65536 : Int32) < ((p1 ^^^ (-1 : Int32)) &&& (p1 - (1 : Int32)))
    · refine own_st (fun _ kS => XS.icmpNo X0.here hx rfl (hb hby own_d31_23) rfl (tlt c2).2.2.2 kS) ?_
      show OFin p e below s _ _ _ (T0.setTop (mkF m 26 #[.val (.int ((p1 ^^^ (-1 : Int32)) &&& (p1 - (1 : Int32)))), .val (.int (1 : Int32))] []))
      refine own_st (fun _ kS => XS.iinc X0.here hx rfl (hb hby own_d31_26) rfl (l' := #[.val (.int ((p1 ^^^ (-1 : Int32)) &&& (p1 - (1 : Int32)))), .val (.int ((1 : Int32) + (16 : Int32)))]) rfl kS) ?_
      show OFin p e below s _ _ _ (T0.setTop (mkF m 29 #[.val (.int ((p1 ^^^ (-1 : Int32)) &&& (p1 - (1 : Int32)))), .val (.int ((1 : Int32) + (16 : Int32)))] []))
      refine own_st (fun _ kS => XS.iloadN X0.here hx rfl (hb hby own_d31_29) rfl kS) ?_
      show OFin p e below s _ _ _ (T0.setTop (mkF m 30 #[.val (.int ((p1 ^^^ (-1 : Int32)) &&& (p1 - (1 : Int32)))), .val (.int ((1 : Int32) + (16 : Int32)))] [(.int ((p1 ^^^ (-1 : Int32)) &&& (p1 - (1 : Int32))))]))
      refine own_st (fun _ kS => XS.bipush X0.here hx rfl (hb hby own_d31_30) kS) ?_
      show OFin p e below s _ _ _ (T0.setTop (mkF m 32 #[.val (.int ((p1 ^^^ (-1 : Int32)) &&& (p1 - (1 : Int32)))), .val (.int ((1 : Int32) + (16 : Int32)))] [(.int (16 : Int32)), (.int ((p1 ^^^ (-1 : Int32)) &&& (p1 - (1 : Int32))))]))
      refine own_st (fun _ kS => XS.iushr X0.here hx rfl (hb hby own_d31_32) rfl kS) ?_
      show OFin p e below s _ _ _ (T0.setTop (mkF m 33 #[.val (.int ((p1 ^^^ (-1 : Int32)) &&& (p1 - (1 : Int32)))), .val (.int ((1 : Int32) + (16 : Int32)))] [(.int ((((p1 ^^^ (-1 : Int32)) &&& (p1 - (1 : Int32))).toUInt32 >>> ((16 : Int32) &&& 31).toUInt32).toInt32))]))
      refine own_st (fun _ kS => XS.istoreN X0.here hx rfl (hb hby own_d31_33) rfl (l' := #[.val (.int ((((p1 ^^^ (-1 : Int32)) &&& (p1 - (1 : Int32))).toUInt32 >>> ((16 : Int32) &&& 31).toUInt32).toInt32)), .val (.int ((1 : Int32) + (16 : Int32)))]) rfl kS) ?_
      show OFin p e below s _ _ _ (T0.setTop (mkF m 34 #[.val (.int ((((p1 ^^^ (-1 : Int32)) &&& (p1 - (1 : Int32))).toUInt32 >>> ((16 : Int32) &&& 31).toUInt32).toInt32)), .val (.int ((1 : Int32) + (16 : Int32)))] []))
      refine own_st (fun _ kS => XS.iloadN X0.here hx rfl (hb hby own_d31_34) rfl kS) ?_
      show OFin p e below s _ _ _ (T0.setTop (mkF m 35 #[.val (.int ((((p1 ^^^ (-1 : Int32)) &&& (p1 - (1 : Int32))).toUInt32 >>> ((16 : Int32) &&& 31).toUInt32).toInt32)), .val (.int ((1 : Int32) + (16 : Int32)))] [(.int ((((p1 ^^^ (-1 : Int32)) &&& (p1 - (1 : Int32))).toUInt32 >>> ((16 : Int32) &&& 31).toUInt32).toInt32))]))
      refine own_st (fun _ kS => XS.sipush X0.here hx rfl (hb hby own_d31_35) kS) ?_
      show OFin p e below s _ _ _ (T0.setTop (mkF m 38 #[.val (.int ((((p1 ^^^ (-1 : Int32)) &&& (p1 - (1 : Int32))).toUInt32 >>> ((16 : Int32) &&& 31).toUInt32).toInt32)), .val (.int ((1 : Int32) + (16 : Int32)))] [(.int (256 : Int32)), (.int ((((p1 ^^^ (-1 : Int32)) &&& (p1 - (1 : Int32))).toUInt32 >>> ((16 : Int32) &&& 31).toUInt32).toInt32))]))
      by_cases c3 : (256 : Int32) < ((((p1 ^^^ (-1 : Int32)) &&& (p1 - (1 : Int32))).toUInt32 >>> ((16 : Int32) &&& 31).toUInt32).toInt32)
      · refine own_st (fun _ kS => XS.icmpNo X0.here hx rfl (hb hby own_d31_38) rfl (tlt c3).2.2.2 kS) ?_
        show OFin p e below s _ _ _ (T0.setTop (mkF m 41 #[.val (.int ((((p1 ^^^ (-1 : Int32)) &&& (p1 - (1 : Int32))).toUInt32 >>> ((16 : Int32) &&& 31).toUInt32).toInt32)), .val (.int ((1 : Int32) + (16 : Int32)))] []))
        refine own_st (fun _ kS => XS.iinc X0.here hx rfl (hb hby own_d31_41) rfl (l' := #[.val (.int ((((p1 ^^^ (-1 : Int32)) &&& (p1 - (1 : Int32))).toUInt32 >>> ((16 : Int32) &&& 31).toUInt32).toInt32)), .val (.int (((1 : Int32) + (16 : Int32)) + (8 : Int32)))]) rfl kS) ?_
        show OFin p e below s _ _ _ (T0.setTop (mkF m 44 #[.val (.int ((((p1 ^^^ (-1 : Int32)) &&& (p1 - (1 : Int32))).toUInt32 >>> ((16 : Int32) &&& 31).toUInt32).toInt32)), .val (.int (((1 : Int32) + (16 : Int32)) + (8 : Int32)))] []))
        refine own_st (fun _ kS => XS.iloadN X0.here hx rfl (hb hby own_d31_44) rfl kS) ?_
        show OFin p e below s _ _ _ (T0.setTop (mkF m 45 #[.val (.int ((((p1 ^^^ (-1 : Int32)) &&& (p1 - (1 : Int32))).toUInt32 >>> ((16 : Int32) &&& 31).toUInt32).toInt32)), .val (.int (((1 : Int32) + (16 : Int32)) + (8 : Int32)))] [(.int ((((p1 ^^^ (-1 : Int32)) &&& (p1 - (1 : Int32))).toUInt32 >>> ((16 : Int32) &&& 31).toUInt32).toInt32))]))
        refine own_st (fun _ kS => XS.bipush X0.here hx rfl (hb hby own_d31_45) kS) ?_
        show OFin p e below s _ _ _ (T0.setTop (mkF m 47 #[.val (.int ((((p1 ^^^ (-1 : Int32)) &&& (p1 - (1 : Int32))).toUInt32 >>> ((16 : Int32) &&& 31).toUInt32).toInt32)), .val (.int (((1 : Int32) + (16 : Int32)) + (8 : Int32)))] [(.int (8 : Int32)), (.int ((((p1 ^^^ (-1 : Int32)) &&& (p1 - (1 : Int32))).toUInt32 >>> ((16 : Int32) &&& 31).toUInt32).toInt32))]))
        refine own_st (fun _ kS => XS.iushr X0.here hx rfl (hb hby own_d31_47) rfl kS) ?_
        show OFin p e below s _ _ _ (T0.setTop (mkF m 48 #[.val (.int ((((p1 ^^^ (-1 : Int32)) &&& (p1 - (1 : Int32))).toUInt32 >>> ((16 : Int32) &&& 31).toUInt32).toInt32)), .val (.int (((1 : Int32) + (16 : Int32)) + (8 : Int32)))] [(.int ((((((p1 ^^^ (-1 : Int32)) &&& (p1 - (1 : Int32))).toUInt32 >>> ((16 : Int32) &&& 31).toUInt32).toInt32).toUInt32 >>> ((8 : Int32) &&& 31).toUInt32).toInt32))]))
        refine own_st (fun _ kS => XS.istoreN X0.here hx rfl (hb hby own_d31_48) rfl (l' := #[.val (.int ((((((p1 ^^^ (-1 : Int32)) &&& (p1 - (1 : Int32))).toUInt32 >>> ((16 : Int32) &&& 31).toUInt32).toInt32).toUInt32 >>> ((8 : Int32) &&& 31).toUInt32).toInt32)), .val (.int (((1 : Int32) + (16 : Int32)) + (8 : Int32)))]) rfl kS) ?_
        show OFin p e below s _ _ _ (T0.setTop (mkF m 49 #[.val (.int ((((((p1 ^^^ (-1 : Int32)) &&& (p1 - (1 : Int32))).toUInt32 >>> ((16 : Int32) &&& 31).toUInt32).toInt32).toUInt32 >>> ((8 : Int32) &&& 31).toUInt32).toInt32)), .val (.int (((1 : Int32) + (16 : Int32)) + (8 : Int32)))] []))
        refine own_st (fun _ kS => XS.iloadN X0.here hx rfl (hb hby own_d31_49) rfl kS) ?_
        show OFin p e below s _ _ _ (T0.setTop (mkF m 50 #[.val (.int ((((((p1 ^^^ (-1 : Int32)) &&& (p1 - (1 : Int32))).toUInt32 >>> ((16 : Int32) &&& 31).toUInt32).toInt32).toUInt32 >>> ((8 : Int32) &&& 31).toUInt32).toInt32)), .val (.int (((1 : Int32) + (16 : Int32)) + (8 : Int32)))] [(.int ((((((p1 ^^^ (-1 : Int32)) &&& (p1 - (1 : Int32))).toUInt32 >>> ((16 : Int32) &&& 31).toUInt32).toInt32).toUInt32 >>> ((8 : Int32) &&& 31).toUInt32).toInt32))]))
        refine own_st (fun _ kS => XS.bipush X0.here hx rfl (hb hby own_d31_50) kS) ?_
        show OFin p e below s _ _ _ (T0.setTop (mkF m 52 #[.val (.int ((((((p1 ^^^ (-1 : Int32)) &&& (p1 - (1 : Int32))).toUInt32 >>> ((16 : Int32) &&& 31).toUInt32).toInt32).toUInt32 >>> ((8 : Int32) &&& 31).toUInt32).toInt32)), .val (.int (((1 : Int32) + (16 : Int32)) + (8 : Int32)))] [(.int (16 : Int32)), (.int ((((((p1 ^^^ (-1 : Int32)) &&& (p1 - (1 : Int32))).toUInt32 >>> ((16 : Int32) &&& 31).toUInt32).toInt32).toUInt32 >>> ((8 : Int32) &&& 31).toUInt32).toInt32))]))
        by_cases c4 : (16 : Int32) < ((((((p1 ^^^ (-1 : Int32)) &&& (p1 - (1 : Int32))).toUInt32 >>> ((16 : Int32) &&& 31).toUInt32).toInt32).toUInt32 >>> ((8 : Int32) &&& 31).toUInt32).toInt32)
        · refine own_st (fun _ kS => XS.icmpNo X0.here hx rfl (hb hby own_d31_52) rfl (tlt c4).2.2.2 kS) ?_
          show OFin p e below s _ _ _ (T0.setTop (mkF m 55 #[.val (.int ((((((p1 ^^^ (-1 : Int32)) &&& (p1 - (1 : Int32))).toUInt32 >>> ((16 : Int32) &&& 31).toUInt32).toInt32).toUInt32 >>> ((8 : Int32) &&& 31).toUInt32).toInt32)), .val (.int (((1 : Int32) + (16 : Int32)) + (8 : Int32)))] []))
          refine own_st (fun _ kS => XS.iinc X0.here hx rfl (hb hby own_d31_55) rfl (l' := #[.val (.int ((((((p1 ^^^ (-1 : Int32)) &&& (p1 - (1 : Int32))).toUInt32 >>> ((16 : Int32) &&& 31).toUInt32).toInt32).toUInt32 >>> ((8 : Int32) &&& 31).toUInt32).toInt32)), .val (.int ((((1 : Int32) + (16 : Int32)) + (8 : Int32)) + (4 : Int32)))]) rfl kS) ?_
          show OFin p e below s _ _ _ (T0.setTop (mkF m 58 #[.val (.int ((((((p1 ^^^ (-1 : Int32)) &&& (p1 - (1 : Int32))).toUInt32 >>> ((16 : Int32) &&& 31).toUInt32).toInt32).toUInt32 >>> ((8 : Int32) &&& 31).toUInt32).toInt32)), .val (.int ((((1 : Int32) + (16 : Int32)) + (8 : Int32)) + (4 : Int32)))] []))
          refine own_st (fun _ kS => XS.iloadN X0.here hx rfl (hb hby own_d31_58) rfl kS) ?_
          show OFin p e below s _ _ _ (T0.setTop (mkF m 59 #[.val (.int ((((((p1 ^^^ (-1 : Int32)) &&& (p1 - (1 : Int32))).toUInt32 >>> ((16 : Int32) &&& 31).toUInt32).toInt32).toUInt32 >>> ((8 : Int32) &&& 31).toUInt32).toInt32)), .val (.int ((((1 : Int32) + (16 : Int32)) + (8 : Int32)) + (4 : Int32)))] [(.int ((((((p1 ^^^ (-1 : Int32)) &&& (p1 - (1 : Int32))).toUInt32 >>> ((16 : Int32) &&& 31).toUInt32).toInt32).toUInt32 >>> ((8 : Int32) &&& 31).toUInt32).toInt32))]))
          refine own_st (fun _ kS => XS.iconst X0.here hx rfl (hb hby own_d31_59) kS) ?_
          show OFin p e below s _ _ _ (T0.setTop (mkF m 60 #[.val (.int ((((((p1 ^^^ (-1 : Int32)) &&& (p1 - (1 : Int32))).toUInt32 >>> ((16 : Int32) &&& 31).toUInt32).toInt32).toUInt32 >>> ((8 : Int32) &&& 31).toUInt32).toInt32)), .val (.int ((((1 : Int32) + (16 : Int32)) + (8 : Int32)) + (4 : Int32)))] [(.int (4 : Int32)), (.int ((((((p1 ^^^ (-1 : Int32)) &&& (p1 - (1 : Int32))).toUInt32 >>> ((16 : Int32) &&& 31).toUInt32).toInt32).toUInt32 >>> ((8 : Int32) &&& 31).toUInt32).toInt32))]))
          refine own_st (fun _ kS => XS.iushr X0.here hx rfl (hb hby own_d31_60) rfl kS) ?_
          show OFin p e below s _ _ _ (T0.setTop (mkF m 61 #[.val (.int ((((((p1 ^^^ (-1 : Int32)) &&& (p1 - (1 : Int32))).toUInt32 >>> ((16 : Int32) &&& 31).toUInt32).toInt32).toUInt32 >>> ((8 : Int32) &&& 31).toUInt32).toInt32)), .val (.int ((((1 : Int32) + (16 : Int32)) + (8 : Int32)) + (4 : Int32)))] [(.int ((((((((p1 ^^^ (-1 : Int32)) &&& (p1 - (1 : Int32))).toUInt32 >>> ((16 : Int32) &&& 31).toUInt32).toInt32).toUInt32 >>> ((8 : Int32) &&& 31).toUInt32).toInt32).toUInt32 >>> ((4 : Int32) &&& 31).toUInt32).toInt32))]))
          refine own_st (fun _ kS => XS.istoreN X0.here hx rfl (hb hby own_d31_61) rfl (l' := #[.val (.int ((((((((p1 ^^^ (-1 : Int32)) &&& (p1 - (1 : Int32))).toUInt32 >>> ((16 : Int32) &&& 31).toUInt32).toInt32).toUInt32 >>> ((8 : Int32) &&& 31).toUInt32).toInt32).toUInt32 >>> ((4 : Int32) &&& 31).toUInt32).toInt32)), .val (.int ((((1 : Int32) + (16 : Int32)) + (8 : Int32)) + (4 : Int32)))]) rfl kS) ?_
          show OFin p e below s _ _ _ (T0.setTop (mkF m 62 #[.val (.int ((((((((p1 ^^^ (-1 : Int32)) &&& (p1 - (1 : Int32))).toUInt32 >>> ((16 : Int32) &&& 31).toUInt32).toInt32).toUInt32 >>> ((8 : Int32) &&& 31).toUInt32).toInt32).toUInt32 >>> ((4 : Int32) &&& 31).toUInt32).toInt32)), .val (.int ((((1 : Int32) + (16 : Int32)) + (8 : Int32)) + (4 : Int32)))] []))
          refine own_st (fun _ kS => XS.iloadN X0.here hx rfl (hb hby own_d31_62) rfl kS) ?_
          show OFin p e below s _ _ _ (T0.setTop (mkF m 63 #[.val (.int ((((((((p1 ^^^ (-1 : Int32)) &&& (p1 - (1 : Int32))).toUInt32 >>> ((16 : Int32) &&& 31).toUInt32).toInt32).toUInt32 >>> ((8 : Int32) &&& 31).toUInt32).toInt32).toUInt32 >>> ((4 : Int32) &&& 31).toUInt32).toInt32)), .val (.int ((((1 : Int32) + (16 : Int32)) + (8 : Int32)) + (4 : Int32)))] [(.int ((((((((p1 ^^^ (-1 : Int32)) &&& (p1 - (1 : Int32))).toUInt32 >>> ((16 : Int32) &&& 31).toUInt32).toInt32).toUInt32 >>> ((8 : Int32) &&& 31).toUInt32).toInt32).toUInt32 >>> ((4 : Int32) &&& 31).toUInt32).toInt32))]))
          refine own_st (fun _ kS => XS.iconst X0.here hx rfl (hb hby own_d31_63) kS) ?_
          show OFin p e below s _ _ _ (T0.setTop (mkF m 64 #[.val (.int ((((((((p1 ^^^ (-1 : Int32)) &&& (p1 - (1 : Int32))).toUInt32 >>> ((16 : Int32) &&& 31).toUInt32).toInt32).toUInt32 >>> ((8 : Int32) &&& 31).toUInt32).toInt32).toUInt32 >>> ((4 : Int32) &&& 31).toUInt32).toInt32)), .val (.int ((((1 : Int32) + (16 : Int32)) + (8 : Int32)) + (4 : Int32)))] [(.int (4 : Int32)), (.int ((((((((p1 ^^^ (-1 : Int32)) &&& (p1 - (1 : Int32))).toUInt32 >>> ((16 : Int32) &&& 31).toUInt32).toInt32).toUInt32 >>> ((8 : Int32) &&& 31).toUInt32).toInt32).toUInt32 >>> ((4 : Int32) &&& 31).toUInt32).toInt32))]))
          by_cases c5 : (4 : Int32) < ((((((((p1 ^^^ (-1 : Int32)) &&& (p1 - (1 : Int32))).toUInt32 >>> ((16 : Int32) &&& 31).toUInt32).toInt32).toUInt32 >>> ((8 : Int32) &&& 31).toUInt32).toInt32).toUInt32 >>> ((4 : Int32) &&& 31).toUInt32).toInt32)
          · refine own_st (fun _ kS => XS.icmpNo X0.here hx rfl (hb hby own_d31_64) rfl (tlt c5).2.2.2 kS) ?_
            show OFin p e below s _ _ _ (T0.setTop (mkF m 67 #[.val (.int ((((((((p1 ^^^ (-1 : Int32)) &&& (p1 - (1 : Int32))).toUInt32 >>> ((16 : Int32) &&& 31).toUInt32).toInt32).toUInt32 >>> ((8 : Int32) &&& 31).toUInt32).toInt32).toUInt32 >>> ((4 : Int32) &&& 31).toUInt32).toInt32)), .val (.int ((((1 : Int32) + (16 : Int32)) + (8 : Int32)) + (4 : Int32)))] []))
            refine own_st (fun _ kS => XS.iinc X0.here hx rfl (hb hby own_d31_67) rfl (l' := #[.val (.int ((((((((p1 ^^^ (-1 : Int32)) &&& (p1 - (1 : Int32))).toUInt32 >>> ((16 : Int32) &&& 31).toUInt32).toInt32).toUInt32 >>> ((8 : Int32) &&& 31).toUInt32).toInt32).toUInt32 >>> ((4 : Int32) &&& 31).toUInt32).toInt32)), .val (.int (((((1 : Int32) + (16 : Int32)) + (8 : Int32)) + (4 : Int32)) + (2 : Int32)))]) rfl kS) ?_
            show OFin p e below s _ _ _ (T0.setTop (mkF m 70 #[.val (.int ((((((((p1 ^^^ (-1 : Int32)) &&& (p1 - (1 : Int32))).toUInt32 >>> ((16 : Int32) &&& 31).toUInt32).toInt32).toUInt32 >>> ((8 : Int32) &&& 31).toUInt32).toInt32).toUInt32 >>> ((4 : Int32) &&& 31).toUInt32).toInt32)), .val (.int (((((1 : Int32) + (16 : Int32)) + (8 : Int32)) + (4 : Int32)) + (2 : Int32)))] []))
            refine own_st (fun _ kS => XS.iloadN X0.here hx rfl (hb hby own_d31_70) rfl kS) ?_
            show OFin p e below s _ _ _ (T0.setTop (mkF m 71 #[.val (.int ((((((((p1 ^^^ (-1 : Int32)) &&& (p1 - (1 : Int32))).toUInt32 >>> ((16 : Int32) &&& 31).toUInt32).toInt32).toUInt32 >>> ((8 : Int32) &&& 31).toUInt32).toInt32).toUInt32 >>> ((4 : Int32) &&& 31).toUInt32).toInt32)), .val (.int (((((1 : Int32) + (16 : Int32)) + (8 : Int32)) + (4 : Int32)) + (2 : Int32)))] [(.int ((((((((p1 ^^^ (-1 : Int32)) &&& (p1 - (1 : Int32))).toUInt32 >>> ((16 : Int32) &&& 31).toUInt32).toInt32).toUInt32 >>> ((8 : Int32) &&& 31).toUInt32).toInt32).toUInt32 >>> ((4 : Int32) &&& 31).toUInt32).toInt32))]))
            refine own_st (fun _ kS => XS.iconst X0.here hx rfl (hb hby own_d31_71) kS) ?_
            show OFin p e below s _ _ _ (T0.setTop (mkF m 72 #[.val (.int ((((((((p1 ^^^ (-1 : Int32)) &&& (p1 - (1 : Int32))).toUInt32 >>> ((16 : Int32) &&& 31).toUInt32).toInt32).toUInt32 >>> ((8 : Int32) &&& 31).toUInt32).toInt32).toUInt32 >>> ((4 : Int32) &&& 31).toUInt32).toInt32)), .val (.int (((((1 : Int32) + (16 : Int32)) + (8 : Int32)) + (4 : Int32)) + (2 : Int32)))] [(.int (2 : Int32)), (.int ((((((((p1 ^^^ (-1 : Int32)) &&& (p1 - (1 : Int32))).toUInt32 >>> ((16 : Int32) &&& 31).toUInt32).toInt32).toUInt32 >>> ((8 : Int32) &&& 31).toUInt32).toInt32).toUInt32 >>> ((4 : Int32) &&& 31).toUInt32).toInt32))]))
            refine own_st (fun _ kS => XS.iushr X0.here hx rfl (hb hby own_d31_72) rfl kS) ?_
            show OFin p e below s _ _ _ (T0.setTop (mkF m 73 #[.val (.int ((((((((p1 ^^^ (-1 : Int32)) &&& (p1 - (1 : Int32))).toUInt32 >>> ((16 : Int32) &&& 31).toUInt32).toInt32).toUInt32 >>> ((8 : Int32) &&& 31).toUInt32).toInt32).toUInt32 >>> ((4 : Int32) &&& 31).toUInt32).toInt32)), .val (.int (((((1 : Int32) + (16 : Int32)) + (8 : Int32)) + (4 : Int32)) + (2 : Int32)))] [(.int ((((((((((p1 ^^^ (-1 : Int32)) &&& (p1 - (1 : Int32))).toUInt32 >>> ((16 : Int32) &&& 31).toUInt32).toInt32).toUInt32 >>> ((8 : Int32) &&& 31).toUInt32).toInt32).toUInt32 >>> ((4 : Int32) &&& 31).toUInt32).toInt32).toUInt32 >>> ((2 : Int32) &&& 31).toUInt32).toInt32))]))
            refine own_st (fun _ kS => XS.istoreN X0.here hx rfl (hb hby own_d31_73) rfl (l' := #[.val (.int ((((((((((p1 ^^^ (-1 : Int32)) &&& (p1 - (1 : Int32))).toUInt32 >>> ((16 : Int32) &&& 31).toUInt32).toInt32).toUInt32 >>> ((8 : Int32) &&& 31).toUInt32).toInt32).toUInt32 >>> ((4 : Int32) &&& 31).toUInt32).toInt32).toUInt32 >>> ((2 : Int32) &&& 31).toUInt32).toInt32)), .val (.int (((((1 : Int32) + (16 : Int32)) + (8 : Int32)) + (4 : Int32)) + (2 : Int32)))]) rfl kS) ?_
            show OFin p e below s _ _ _ (T0.setTop (mkF m 74 #[.val (.int ((((((((((p1 ^^^ (-1 : Int32)) &&& (p1 - (1 : Int32))).toUInt32 >>> ((16 : Int32) &&& 31).toUInt32).toInt32).toUInt32 >>> ((8 : Int32) &&& 31).toUInt32).toInt32).toUInt32 >>> ((4 : Int32) &&& 31).toUInt32).toInt32).toUInt32 >>> ((2 : Int32) &&& 31).toUInt32).toInt32)), .val (.int (((((1 : Int32) + (16 : Int32)) + (8 : Int32)) + (4 : Int32)) + (2 : Int32)))] []))
            refine own_st (fun _ kS => XS.iloadN X0.here hx rfl (hb hby own_d31_74) rfl kS) ?_
            show OFin p e below s _ _ _ (T0.setTop (mkF m 75 #[.val (.int ((((((((((p1 ^^^ (-1 : Int32)) &&& (p1 - (1 : Int32))).toUInt32 >>> ((16 : Int32) &&& 31).toUInt32).toInt32).toUInt32 >>> ((8 : Int32) &&& 31).toUInt32).toInt32).toUInt32 >>> ((4 : Int32) &&& 31).toUInt32).toInt32).toUInt32 >>> ((2 : Int32) &&& 31).toUInt32).toInt32)), .val (.int (((((1 : Int32) + (16 : Int32)) + (8 : Int32)) + (4 : Int32)) + (2 : Int32)))] [(.int (((((1 : Int32) + (16 : Int32)) + (8 : Int32)) + (4 : Int32)) + (2 : Int32)))]))
            refine own_st (fun _ kS => XS.iloadN X0.here hx rfl (hb hby own_d31_75) rfl kS) ?_
            show OFin p e below s _ _ _ (T0.setTop (mkF m 76 #[.val (.int ((((((((((p1 ^^^ (-1 : Int32)) &&& (p1 - (1 : Int32))).toUInt32 >>> ((16 : Int32) &&& 31).toUInt32).toInt32).toUInt32 >>> ((8 : Int32) &&& 31).toUInt32).toInt32).toUInt32 >>> ((4 : Int32) &&& 31).toUInt32).toInt32).toUInt32 >>> ((2 : Int32) &&& 31).toUInt32).toInt32)), .val (.int (((((1 : Int32) + (16 : Int32)) + (8 : Int32)) + (4 : Int32)) + (2 : Int32)))] [(.int ((((((((((p1 ^^^ (-1 : Int32)) &&& (p1 - (1 : Int32))).toUInt32 >>> ((16 : Int32) &&& 31).toUInt32).toInt32).toUInt32 >>> ((8 : Int32) &&& 31).toUInt32).toInt32).toUInt32 >>> ((4 : Int32) &&& 31).toUInt32).toInt32).toUInt32 >>> ((2 : Int32) &&& 31).toUInt32).toInt32)), (.int (((((1 : Int32) + (16 : Int32)) + (8 : Int32)) + (4 : Int32)) + (2 : Int32)))]))
            refine own_st (fun _ kS => XS.iconst X0.here hx rfl (hb hby own_d31_76) kS) ?_
            show OFin p e below s _ _ _ (T0.setTop (mkF m 77 #[.val (.int ((((((((((p1 ^^^ (-1 : Int32)) &&& (p1 - (1 : Int32))).toUInt32 >>> ((16 : Int32) &&& 31).toUInt32).toInt32).toUInt32 >>> ((8 : Int32) &&& 31).toUInt32).toInt32).toUInt32 >>> ((4 : Int32) &&& 31).toUInt32).toInt32).toUInt32 >>> ((2 : Int32) &&& 31).toUInt32).toInt32)), .val (.int (((((1 : Int32) + (16 : Int32)) + (8 : Int32)) + (4 : Int32)) + (2 : Int32)))] [(.int (1 : Int32)), (.int ((((((((((p1 ^^^ (-1 : Int32)) &&& (p1 - (1 : Int32))).toUInt32 >>> ((16 : Int32) &&& 31).toUInt32).toInt32).toUInt32 >>> ((8 : Int32) &&& 31).toUInt32).toInt32).toUInt32 >>> ((4 : Int32) &&& 31).toUInt32).toInt32).toUInt32 >>> ((2 : Int32) &&& 31).toUInt32).toInt32)), (.int (((((1 : Int32) + (16 : Int32)) + (8 : Int32)) + (4 : Int32)) + (2 : Int32)))]))
            refine own_st (fun _ kS => XS.iushr X0.here hx rfl (hb hby own_d31_77) rfl kS) ?_
            show OFin p e below s _ _ _ (T0.setTop (mkF m 78 #[.val (.int ((((((((((p1 ^^^ (-1 : Int32)) &&& (p1 - (1 : Int32))).toUInt32 >>> ((16 : Int32) &&& 31).toUInt32).toInt32).toUInt32 >>> ((8 : Int32) &&& 31).toUInt32).toInt32).toUInt32 >>> ((4 : Int32) &&& 31).toUInt32).toInt32).toUInt32 >>> ((2 : Int32) &&& 31).toUInt32).toInt32)), .val (.int (((((1 : Int32) + (16 : Int32)) + (8 : Int32)) + (4 : Int32)) + (2 : Int32)))] [(.int ((((((((((((p1 ^^^ (-1 : Int32)) &&& (p1 - (1 : Int32))).toUInt32 >>> ((16 : Int32) &&& 31).toUInt32).toInt32).toUInt32 >>> ((8 : Int32) &&& 31).toUInt32).toInt32).toUInt32 >>> ((4 : Int32) &&& 31).toUInt32).toInt32).toUInt32 >>> ((2 : Int32) &&& 31).toUInt32).toInt32).toUInt32 >>> ((1 : Int32) &&& 31).toUInt32).toInt32)), (.int (((((1 : Int32) + (16 : Int32)) + (8 : Int32)) + (4 : Int32)) + (2 : Int32)))]))
            refine own_st (fun _ kS => XS.iadd X0.here hx rfl (hb hby own_d31_78) rfl kS) ?_
            show OFin p e below s _ _ _ (T0.setTop (mkF m 79 #[.val (.int ((((((((((p1 ^^^ (-1 : Int32)) &&& (p1 - (1 : Int32))).toUInt32 >>> ((16 : Int32) &&& 31).toUInt32).toInt32).toUInt32 >>> ((8 : Int32) &&& 31).toUInt32).toInt32).toUInt32 >>> ((4 : Int32) &&& 31).toUInt32).toInt32).toUInt32 >>> ((2 : Int32) &&& 31).toUInt32).toInt32)), .val (.int (((((1 : Int32) + (16 : Int32)) + (8 : Int32)) + (4 : Int32)) + (2 : Int32)))] [(.int ((((((1 : Int32) + (16 : Int32)) + (8 : Int32)) + (4 : Int32)) + (2 : Int32)) + ((((((((((((p1 ^^^ (-1 : Int32)) &&& (p1 - (1 : Int32))).toUInt32 >>> ((16 : Int32) &&& 31).toUInt32).toInt32).toUInt32 >>> ((8 : Int32) &&& 31).toUInt32).toInt32).toUInt32 >>> ((4 : Int32) &&& 31).toUInt32).toInt32).toUInt32 >>> ((2 : Int32) &&& 31).toUInt32).toInt32).toUInt32 >>> ((1 : Int32) &&& 31).toUInt32).toInt32)))]))
            exact own_ret X0 hx (t := .int) hret hlk rfl (Or.inl ⟨rfl, by simp, _, rfl⟩) (hb hby own_d31_79) (by decide) (by decide) ⟨by simp only [own_zi, own_z1, own_z2, own_z3, own_z4, own_ush, c1, c2, c3, c4, c5, if_true, if_false], e0, rfl⟩
          · refine own_st (fun _ kS => XS.icmpYes X0.here hx rfl (pc0 := 64) (pc' := 74) rfl (hb hby own_d31_64) rfl (flt c5).2.2.2 (by decide) (by decide) kS) ?_
            show OFin p e below s _ _ _ (T0.setTop (mkF m 74 #[.val (.int ((((((((p1 ^^^ (-1 : Int32)) &&& (p1 - (1 : Int32))).toUInt32 >>> ((16 : Int32) &&& 31).toUInt32).toInt32).toUInt32 >>> ((8 : Int32) &&& 31).toUInt32).toInt32).toUInt32 >>> ((4 : Int32) &&& 31).toUInt32).toInt32)), .val (.int ((((1 : Int32) + (16 : Int32)) + (8 : Int32)) + (4 : Int32)))] []))
            refine own_st (fun _ kS => XS.iloadN X0.here hx rfl (hb hby own_d31_74) rfl kS) ?_
            show OFin p e below s _ _ _ (T0.setTop (mkF m 75 #[.val (.int ((((((((p1 ^^^ (-1 : Int32)) &&& (p1 - (1 : Int32))).toUInt32 >>> ((16 : Int32) &&& 31).toUInt32).toInt32).toUInt32 >>> ((8 : Int32) &&& 31).toUInt32).toInt32).toUInt32 >>> ((4 : Int32) &&& 31).toUInt32).toInt32)), .val (.int ((((1 : Int32) + (16 : Int32)) + (8 : Int32)) + (4 : Int32)))] [(.int ((((1 : Int32) + (16 : Int32)) + (8 : Int32)) + (4 : Int32)))]))
            refine own_st (fun _ kS => XS.iloadN X0.here hx rfl (hb hby own_d31_75) rfl kS) ?_
            show OFin p e below s _ _ _ (T0.setTop (mkF m 76 #[.val (.int ((((((((p1 ^^^ (-1 : Int32)) &&& (p1 - (1 : Int32))).toUInt32 >>> ((16 : Int32) &&& 31).toUInt32).toInt32).toUInt32 >>> ((8 : Int32) &&& 31).toUInt32).toInt32).toUInt32 >>> ((4 : Int32) &&& 31).toUInt32).toInt32)), .val (.int ((((1 : Int32) + (16 : Int32)) + (8 : Int32)) + (4 : Int32)))] [(.int ((((((((p1 ^^^ (-1 : Int32)) &&& (p1 - (1 : Int32))).toUInt32 >>> ((16 : Int32) &&& 31).toUInt32).toInt32).toUInt32 >>> ((8 : Int32) &&& 31).toUInt32).toInt32).toUInt32 >>> ((4 : Int32) &&& 31).toUInt32).toInt32)), (.int ((((1 : Int32) + (16 : Int32)) + (8 : Int32)) + (4 : Int32)))]))
            refine own_st (fun _ kS => XS.iconst X0.here hx rfl (hb hby own_d31_76) kS) ?_
            show OFin p e below s _ _ _ (T0.setTop (mkF m 77 #[.val (.int ((((((((p1 ^^^ (-1 : Int32)) &&& (p1 - (1 : Int32))).toUInt32 >>> ((16 : Int32) &&& 31).toUInt32).toInt32).toUInt32 >>> ((8 : Int32) &&& 31).toUInt32).toInt32).toUInt32 >>> ((4 : Int32) &&& 31).toUInt32).toInt32)), .val (.int ((((1 : Int32) + (16 : Int32)) + (8 : Int32)) + (4 : Int32)))] [(.int (1 : Int32)), (.int ((((((((p1 ^^^ (-1 : Int32)) &&& (p1 - (1 : Int32))).toUInt32 >>> ((16 : Int32) &&& 31).toUInt32).toInt32).toUInt32 >>> ((8 : Int32) &&& 31).toUInt32).toInt32).toUInt32 >>> ((4 : Int32) &&& 31).toUInt32).toInt32)), (.int ((((1 : Int32) + (16 : Int32)) + (8 : Int32)) + (4 : Int32)))]))
            refine own_st (fun _ kS => XS.iushr X0.here hx rfl (hb hby own_d31_77) rfl kS) ?_
            show OFin p e below s _ _ _ (T0.setTop (mkF m 78 #[.val (.int ((((((((p1 ^^^ (-1 : Int32)) &&& (p1 - (1 : Int32))).toUInt32 >>> ((16 : Int32) &&& 31).toUInt32).toInt32).toUInt32 >>> ((8 : Int32) &&& 31).toUInt32).toInt32).toUInt32 >>> ((4 : Int32) &&& 31).toUInt32).toInt32)), .val (.int ((((1 : Int32) + (16 : Int32)) + (8 : Int32)) + (4 : Int32)))] [(.int ((((((((((p1 ^^^ (-1 : Int32)) &&& (p1 - (1 : Int32))).toUInt32 >>> ((16 : Int32) &&& 31).toUInt32).toInt32).toUInt32 >>> ((8 : Int32) &&& 31).toUInt32).toInt32).toUInt32 >>> ((4 : Int32) &&& 31).toUInt32).toInt32).toUInt32 >>> ((1 : Int32) &&& 31).toUInt32).toInt32)), (.int ((((1 : Int32) + (16 : Int32)) + (8 : Int32)) + (4 : Int32)))]))
            refine own_st (fun _ kS => XS.iadd X0.here hx rfl (hb hby own_d31_78) rfl kS) ?_
            show OFin p e below s _ _ _ (T0.setTop (mkF m 79 #[.val (.int ((((((((p1 ^^^ (-1 : Int32)) &&& (p1 - (1 : Int32))).toUInt32 >>> ((16 : Int32) &&& 31).toUInt32).toInt32).toUInt32 >>> ((8 : Int32) &&& 31).toUInt32).toInt32).toUInt32 >>> ((4 : Int32) &&& 31).toUInt32).toInt32)), .val (.int ((((1 : Int32) + (16 : Int32)) + (8 : Int32)) + (4 : Int32)))] [(.int (((((1 : Int32) + (16 : Int32)) + (8 : Int32)) + (4 : Int32)) + ((((((((((p1 ^^^ (-1 : Int32)) &&& (p1 - (1 : Int32))).toUInt32 >>> ((16 : Int32) &&& 31).toUInt32).toInt32).toUInt32 >>> ((8 : Int32) &&& 31).toUInt32).toInt32).toUInt32 >>> ((4 : Int32) &&& 31).toUInt32).toInt32).toUInt32 >>> ((1 : Int32) &&& 31).toUInt32).toInt32)))]))
            exact own_ret X0 hx (t := .int) hret hlk rfl (Or.inl ⟨rfl, by simp, _, rfl⟩) (hb hby own_d31_79) (by decide) (by decide) ⟨by simp only [own_zi, own_z1, own_z2, own_z3, own_z4, own_ush, c1, c2, c3, c4, c5, if_true, if_false], e0, rfl⟩
        · refine own_st (fun _ kS => XS.icmpYes X0.here hx rfl (pc0 := 52) (pc' := 62) rfl (hb hby own_d31_52) rfl (flt c4).2.2.2 (by decide) (by decide) kS) ?_
          show OFin p e below s _ _ _ (T0.setTop (mkF m 62 #[.val (.int ((((((p1 ^^^ (-1 : Int32)) &&& (p1 - (1 : Int32))).toUInt32 >>> ((16 : Int32) &&& 31).toUInt32).toInt32).toUInt32 >>> ((8 : Int32) &&& 31).toUInt32).toInt32)), .val (.int (((1 : Int32) + (16 : Int32)) + (8 : Int32)))] []))
          refine own_st (fun _ kS => XS.iloadN X0.here hx rfl (hb hby own_d31_62) rfl kS) ?_
          show OFin p e below s _ _ _ (T0.setTop (mkF m 63 #[.val (.int ((((((p1 ^^^ (-1 : Int32)) &&& (p1 - (1 : Int32))).toUInt32 >>> ((16 : Int32) &&& 31).toUInt32).toInt32).toUInt32 >>> ((8 : Int32) &&& 31).toUInt32).toInt32)), .val (.int (((1 : Int32) + (16 : Int32)) + (8 : Int32)))] [(.int ((((((p1 ^^^ (-1 : Int32)) &&& (p1 - (1 : Int32))).toUInt32 >>> ((16 : Int32) &&& 31).toUInt32).toInt32).toUInt32 >>> ((8 : Int32) &&& 31).toUInt32).toInt32))]))
          refine own_st (fun _ kS => XS.iconst X0.here hx rfl (hb hby own_d31_63) kS) ?_
          show OFin p e below s _ _ _ (T0.setTop (mkF m 64 #[.val (.int ((((((p1 ^^^ (-1 : Int32)) &&& (p1 - (1 : Int32))).toUInt32 >>> ((16 : Int32) &&& 31).toUInt32).toInt32).toUInt32 >>> ((8 : Int32) &&& 31).toUInt32).toInt32)), .val (.int (((1 : Int32) + (16 : Int32)) + (8 : Int32)))] [(.int (4 : Int32)), (.int ((((((p1 ^^^ (-1 : Int32)) &&& (p1 - (1 : Int32))).toUInt32 >>> ((16 : Int32) &&& 31).toUInt32).toInt32).toUInt32 >>> ((8 : Int32) &&& 31).toUInt32).toInt32))]))
          by_cases c5 : (4 : Int32) < ((((((p1 ^^^ (-1 : Int32)) &&& (p1 - (1 : Int32))).toUInt32 >>> ((16 : Int32) &&& 31).toUInt32).toInt32).toUInt32 >>> ((8 : Int32) &&& 31).toUInt32).toInt32)
          · refine own_st (fun _ kS => XS.icmpNo X0.here hx rfl (hb hby own_d31_64) rfl (tlt c5).2.2.2 kS) ?_
            show OFin p e below s _ _ _ (T0.setTop (mkF m 67 #[.val (.int ((((((p1 ^^^ (-1 : Int32)) &&& (p1 - (1 : Int32))).toUInt32 >>> ((16 : Int32) &&& 31).toUInt32).toInt32).toUInt32 >>> ((8 : Int32) &&& 31).toUInt32).toInt32)), .val (.int (((1 : Int32) + (16 : Int32)) + (8 : Int32)))] []))
            refine own_st (fun _ kS => XS.iinc X0.here hx rfl (hb hby own_d31_67) rfl (l' := #[.val (.int ((((((p1 ^^^ (-1 : Int32)) &&& (p1 - (1 : Int32))).toUInt32 >>> ((16 : Int32) &&& 31).toUInt32).toInt32).toUInt32 >>> ((8 : Int32) &&& 31).toUInt32).toInt32)), .val (.int ((((1 : Int32) + (16 : Int32)) + (8 : Int32)) + (2 : Int32)))]) rfl kS) ?_
            show OFin p e below s _ _ _ (T0.setTop (mkF m 70 #[.val (.int ((((((p1 ^^^ (-1 : Int32)) &&& (p1 - (1 : Int32))).toUInt32 >>> ((16 : Int32) &&& 31).toUInt32).toInt32).toUInt32 >>> ((8 : Int32) &&& 31).toUInt32).toInt32)), .val (.int ((((1 : Int32) + (16 : Int32)) + (8 : Int32)) + (2 : Int32)))] []))
            refine own_st (fun _ kS => XS.iloadN X0.here hx rfl (hb hby own_d31_70) rfl kS) ?_
            show OFin p e below s _ _ _ (T0.setTop (mkF m 71 #[.val (.int ((((((p1 ^^^ (-1 : Int32)) &&& (p1 - (1 : Int32))).toUInt32 >>> ((16 : Int32) &&& 31).toUInt32).toInt32).toUInt32 >>> ((8 : Int32) &&& 31).toUInt32).toInt32)), .val (.int ((((1 : Int32) + (16 : Int32)) + (8 : Int32)) + (2 : Int32)))] [(.int ((((((p1 ^^^ (-1 : Int32)) &&& (p1 - (1 : Int32))).toUInt32 >>> ((16 : Int32) &&& 31).toUInt32).toInt32).toUInt32 >>> ((8 : Int32) &&& 31).toUInt32).toInt32))]))
            refine own_st (fun _ kS => XS.iconst X0.here hx rfl (hb hby own_d31_71) kS) ?_
            show OFin p e below s _ _ _ (T0.setTop (mkF m 72 #[.val (.int ((((((p1 ^^^ (-1 : Int32)) &&& (p1 - (1 : Int32))).toUInt32 >>> ((16 : Int32) &&& 31).toUInt32).toInt32).toUInt32 >>> ((8 : Int32) &&& 31).toUInt32).toInt32)), .val (.int ((((1 : Int32) + (16 : Int32)) + (8 : Int32)) + (2 : Int32)))] [(.int (2 : Int32)), (.int ((((((p1 ^^^ (-1 : Int32)) &&& (p1 - (1 : Int32))).toUInt32 >>> ((16 : Int32) &&& 31).toUInt32).toInt32).toUInt32 >>> ((8 : Int32) &&& 31).toUInt32).toInt32))]))
            refine own_st (fun _ kS => XS.iushr X0.here hx rfl (hb hby own_d31_72) rfl kS) ?_
            show OFin p e below s _ _ _ (T0.setTop (mkF m 73 #[.val (.int ((((((p1 ^^^ (-1 : Int32)) &&& (p1 - (1 : Int32))).toUInt32 >>> ((16 : Int32) &&& 31).toUInt32).toInt32).toUInt32 >>> ((8 : Int32) &&& 31).toUInt32).toInt32)), .val (.int ((((1 : Int32) + (16 : Int32)) + (8 : Int32)) + (2 : Int32)))] [(.int ((((((((p1 ^^^ (-1 : Int32)) &&& (p1 - (1 : Int32))).toUInt32 >>> ((16 : Int32) &&& 31).toUInt32).toInt32).toUInt32 >>> ((8 : Int32) &&& 31).toUInt32).toInt32).toUInt32 >>> ((2 : Int32) &&& 31).toUInt32).toInt32))]))
            refine own_st (fun _ kS => XS.istoreN X0.here hx rfl (hb hby own_d31_73) rfl (l' := #[.val (.int ((((((((p1 ^^^ (-1 : Int32)) &&& (p1 - (1 : Int32))).toUInt32 >>> ((16 : Int32) &&& 31).toUInt32).toInt32).toUInt32 >>> ((8 : Int32) &&& 31).toUInt32).toInt32).toUInt32 >>> ((2 : Int32) &&& 31).toUInt32).toInt32)), .val (.int ((((1 : Int32) + (16 : Int32)) + (8 : Int32)) + (2 : Int32)))]) rfl kS) ?_
            show OFin p e below s _ _ _ (T0.setTop (mkF m 74 #[.val (.int ((((((((p1 ^^^ (-1 : Int32)) &&& (p1 - (1 : Int32))).toUInt32 >>> ((16 : Int32) &&& 31).toUInt32).toInt32).toUInt32 >>> ((8 : Int32) &&& 31).toUInt32).toInt32).toUInt32 >>> ((2 : Int32) &&& 31).toUInt32).toInt32)), .val (.int ((((1 : Int32) + (16 : Int32)) + (8 : Int32)) + (2 : Int32)))] []))
            refine own_st (fun _ kS => XS.iloadN X0.here hx rfl (hb hby own_d31_74) rfl kS) ?_
            show OFin p e below s _ _ _ (T0.setTop (mkF m 75 #[.val (.int ((((((((p1 ^^^ (-1 : Int32)) &&& (p1 - (1 : Int32))).toUInt32 >>> ((16 : Int32) &&& 31).toUInt32).toInt32).toUInt32 >>> ((8 : Int32) &&& 31).toUInt32).toInt32).toUInt32 >>> ((2 : Int32) &&& 31).toUInt32).toInt32)), .val (.int ((((1 : Int32) + (16 : Int32)) + (8 : Int32)) + (2 : Int32)))] [(.int ((((1 : Int32) + (16 : Int32)) + (8 : Int32)) + (2 : Int32)))]))
            refine own_st (fun _ kS => XS.iloadN X0.here hx rfl (hb hby own_d31_75) rfl kS) ?_
            show OFin p e below s _ _ _ (T0.setTop (mkF m 76 #[.val (.int ((((((((p1 ^^^ (-1 : Int32)) &&& (p1 - (1 : Int32))).toUInt32 >>> ((16 : Int32) &&& 31).toUInt32).toInt32).toUInt32 >>> ((8 : Int32) &&& 31).toUInt32).toInt32).toUInt32 >>> ((2 : Int32) &&& 31).toUInt32).toInt32)), .val (.int ((((1 : Int32) + (16 : Int32)) + (8 : Int32)) + (2 : Int32)))] [(.int ((((((((p1 ^^^ (-1 : Int32)) &&& (p1 - (1 : Int32))).toUInt32 >>> ((16 : Int32) &&& 31).toUInt32).toInt32).toUInt32 >>> ((8 : Int32) &&& 31).toUInt32).toInt32).toUInt32 >>> ((2 : Int32) &&& 31).toUInt32).toInt32)), (.int ((((1 : Int32) + (16 : Int32)) + (8 : Int32)) + (2 : Int32)))]))
            refine own_st (fun _ kS => XS.iconst X0.here hx rfl (hb hby own_d31_76) kS) ?_
            show OFin p e below s _ _ _ (T0.setTop (mkF m 77 #[.val (.int ((((((((p1 ^^^ (-1 : Int32)) &&& (p1 - (1 : Int32))).toUInt32 >>> ((16 : Int32) &&& 31).toUInt32).toInt32).toUInt32 >>> ((8 : Int32) &&& 31).toUInt32).toInt32).toUInt32 >>> ((2 : Int32) &&& 31).toUInt32).toInt32)), .val (.int ((((1 : Int32) + (16 : Int32)) + (8 : Int32)) + (2 : Int32)))] [(.int (1 : Int32)), (.int ((((((((p1 ^^^ (-1 : Int32)) &&& (p1 - (1 : Int32))).toUInt32 >>> ((16 : Int32) &&& 31).toUInt32).toInt32).toUInt32 >>> ((8 : Int32) &&& 31).toUInt32).toInt32).toUInt32 >>> ((2 : Int32) &&& 31).toUInt32).toInt32)), (.int ((((1 : Int32) + (16 : Int32)) + (8 : Int32)) + (2 : Int32)))]))
            refine own_st (fun _ kS => XS.iushr X0.here hx rfl (hb hby own_d31_77) rfl kS) ?_
            show OFin p e below s _ _ _ (T0.setTop (mkF m 78 #[.val (.int ((((((((p1 ^^^ (-1 : Int32)) &&& (p1 - (1 : Int32))).toUInt32 >>> ((16 : Int32) &&& 31).toUInt32).toInt32).toUInt32 >>> ((8 : Int32) &&& 31).toUInt32).toInt32).toUInt32 >>> ((2 : Int32) &&& 31).toUInt32).toInt32)), .val (.int ((((1 : Int32) + (16 : Int32)) + (8 : Int32)) + (2 : Int32)))] [(.int ((((((((((p1 ^^^ (-1 : Int32)) &&& (p1 - (1 : Int32))).toUInt32 >>> ((16 : Int32) &&& 31).toUInt32).toInt32).toUInt32 >>> ((8 : Int32) &&& 31).toUInt32).toInt32).toUInt32 >>> ((2 : Int32) &&& 31).toUInt32).toInt32).toUInt32 >>> ((1 : Int32) &&& 31).toUInt32).toInt32)), (.int ((((1 : Int32) + (16 : Int32)) + (8 : Int32)) + (2 : Int32)))]))
            refine own_st (fun _ kS => XS.iadd X0.here hx rfl (hb hby own_d31_78) rfl kS) ?_
            show OFin p e below s _ _ _ (T0.setTop (mkF m 79 #[.val (.int ((((((((p1 ^^^ (-1 : Int32)) &&& (p1 - (1 : Int32))).toUInt32 >>> ((16 : Int32) &&& 31).toUInt32).toInt32).toUInt32 >>> ((8 : Int32) &&& 31).toUInt32).toInt32).toUInt32 >>> ((2 : Int32) &&& 31).toUInt32).toInt32)), .val (.int ((((1 : Int32) + (16 : Int32)) + (8 : Int32)) + (2 : Int32)))] [(.int (((((1 : Int32) + (16 : Int32)) + (8 : Int32)) + (2 : Int32)) + ((((((((((p1 ^^^ (-1 : Int32)) &&& (p1 - (1 : Int32))).toUInt32 >>> ((16 : Int32) &&& 31).toUInt32).toInt32).toUInt32 >>> ((8 : Int32) &&& 31).toUInt32).toInt32).toUInt32 >>> ((2 : Int32) &&& 31).toUInt32).toInt32).toUInt32 >>> ((1 : Int32) &&& 31).toUInt32).toInt32)))]))
            exact own_ret X0 hx (t := .int) hret hlk rfl (Or.inl ⟨rfl, by simp, _, rfl⟩) (hb hby own_d31_79) (by decide) (by decide) ⟨by simp only [own_zi, own_z1, own_z2, own_z3, own_z4, own_ush, c1, c2, c3, c4, c5, if_true, if_false], e0, rfl⟩
          · refine own_st (fun _ kS => XS.icmpYes X0.here hx rfl (pc0 := 64) (pc' := 74) rfl (hb hby own_d31_64) rfl (flt c5).2.2.2 (by decide) (by decide) kS) ?_
            show OFin p e below s _ _ _ (T0.setTop (mkF m 74 #[.val (.int ((((((p1 ^^^ (-1 : Int32)) &&& (p1 - (1 : Int32))).toUInt32 >>> ((16 : Int32) &&& 31).toUInt32).toInt32).toUInt32 >>> ((8 : Int32) &&& 31).toUInt32).toInt32)), .val (.int (((1 : Int32) + (16 : Int32)) + (8 : Int32)))] []))
            refine own_st (fun _ kS => XS.iloadN X0.here hx rfl (hb hby own_d31_74) rfl kS) ?_
            show OFin p e below s _ _ _ (T0.setTop (mkF m 75 #[.val (.int ((((((p1 ^^^ (-1 : Int32)) &&& (p1 - (1 : Int32))).toUInt32 >>> ((16 : Int32) &&& 31).toUInt32).toInt32).toUInt32 >>> ((8 : Int32) &&& 31).toUInt32).toInt32)), .val (.int (((1 : Int32) + (16 : Int32)) + (8 : Int32)))] [(.int (((1 : Int32) + (16 : Int32)) + (8 : Int32)))]))
            refine own_st (fun _ kS => XS.iloadN X0.here hx rfl (hb hby own_d31_75) rfl kS) ?_
            show OFin p e below s _ _ _ (T0.setTop (mkF m 76 #[.val (.int ((((((p1 ^^^ (-1 : Int32)) &&& (p1 - (1 : Int32))).toUInt32 >>> ((16 : Int32) &&& 31).toUInt32).toInt32).toUInt32 >>> ((8 : Int32) &&& 31).toUInt32).toInt32)), .val (.int (((1 : Int32) + (16 : Int32)) + (8 : Int32)))] [(.int ((((((p1 ^^^ (-1 : Int32)) &&& (p1 - (1 : Int32))).toUInt32 >>> ((16 : Int32) &&& 31).toUInt32).toInt32).toUInt32 >>> ((8 : Int32) &&& 31).toUInt32).toInt32)), (.int (((1 : Int32) + (16 : Int32)) + (8 : Int32)))]))
            refine own_st (fun _ kS => XS.iconst X0.here hx rfl (hb hby own_d31_76) kS) ?_
            show OFin p e below s _ _ _ (T0.setTop (mkF m 77 #[.val (.int ((((((p1 ^^^ (-1 : Int32)) &&& (p1 - (1 : Int32))).toUInt32 >>> ((16 : Int32) &&& 31).toUInt32).toInt32).toUInt32 >>> ((8 : Int32) &&& 31).toUInt32).toInt32)), .val (.int (((1 : Int32) + (16 : Int32)) + (8 : Int32)))] [(.int (1 : Int32)), (.int ((((((p1 ^^^ (-1 : Int32)) &&& (p1 - (1 : Int32))).toUInt32 >>> ((16 : Int32) &&& 31).toUInt32).toInt32).toUInt32 >>> ((8 : Int32) &&& 31).toUInt32).toInt32)), (.int (((1 : Int32) + (16 : Int32)) + (8 : Int32)))]))
            refine own_st (fun _ kS => XS.iushr X0.here hx rfl (hb hby own_d31_77) rfl kS) ?_
            show OFin p e below s _ _ _ (T0.setTop (mkF m 78 #[.val (.int ((((((p1 ^^^ (-1 : Int32)) &&& (p1 - (1 : Int32))).toUInt32 >>> ((16 : Int32) &&& 31).toUInt32).toInt32).toUInt32 >>> ((8 : Int32) &&& 31).toUInt32).toInt32)), .val (.int (((1 : Int32) + (16 : Int32)) + (8 : Int32)))] [(.int ((((((((p1 ^^^ (-1 : Int32)) &&& (p1 - (1 : Int32))).toUInt32 >>> ((16 : Int32) &&& 31).toUInt32).toInt32).toUInt32 >>> ((8 : Int32) &&& 31).toUInt32).toInt32).toUInt32 >>> ((1 : Int32) &&& 31).toUInt32).toInt32)), (.int (((1 : Int32) + (16 : Int32)) + (8 : Int32)))]))
            refine own_st (fun _ kS => XS.iadd X0.here hx rfl (hb hby own_d31_78) rfl kS) ?_
            show OFin p e below s _ _ _ (T0.setTop (mkF m 79 #[.val (.int ((((((p1 ^^^ (-1 : Int32)) &&& (p1 - (1 : Int32))).toUInt32 >>> ((16 : Int32) &&& 31).toUInt32).toInt32).toUInt32 >>> ((8 : Int32) &&& 31).toUInt32).toInt32)), .val (.int (((1 : Int32) + (16 : Int32)) + (8 : Int32)))] [(.int ((((1 : Int32) + (16 : Int32)) + (8 : Int32)) + ((((((((p1 ^^^ (-1 : Int32)) &&& (p1 - (1 : Int32))).toUInt32 >>> ((16 : Int32) &&& 31).toUInt32).toInt32).toUInt32 >>> ((8 : Int32) &&& 31).toUInt32).toInt32).toUInt32 >>> ((1 : Int32) &&& 31).toUInt32).toInt32)))]))
            exact own_ret X0 hx (t := .int) hret hlk rfl (Or.inl ⟨rfl, by simp, _, rfl⟩) (hb hby own_d31_79) (by decide) (by decide) ⟨by simp only [own_zi, own_z1, own_z2, own_z3, own_z4, own_ush, c1, c2, c3, c4, c5, if_true, if_false], e0, rfl⟩
      · refine own_st (fun _ kS => XS.icmpYes X0.here hx rfl (pc0 := 38) (pc' := 49) rfl (hb hby own_d31_38) rfl (flt c3).2.2.2 (by decide) (by decide) kS) ?_
        show OFin p e below s _ _ _ (T0.setTop (mkF m 49 #[.val (.int ((((p1 ^^^ (-1 : Int32)) &&& (p1 - (1 : Int32))).toUInt32 >>> ((16 : Int32) &&& 31).toUInt32).toInt32)), .val (.int ((1 : Int32) + (16 : Int32)))] []))
        refine own_st (fun _ kS => XS.iloadN X0.here hx rfl (hb hby own_d31_49) rfl kS) ?_
        show OFin p e below s _ _ _ (T0.setTop (mkF m 50 #[.val (.int ((((p1 ^^^ (-1 : Int32)) &&& (p1 - (1 : Int32))).toUInt32 >>> ((16 : Int32) &&& 31).toUInt32).toInt32)), .val (.int ((1 : Int32) + (16 : Int32)))] [(.int ((((p1 ^^^ (-1 : Int32)) &&& (p1 - (1 : Int32))).toUInt32 >>> ((16 : Int32) &&& 31).toUInt32).toInt32))]))
        refine own_st (fun _ kS => XS.bipush X0.here hx rfl (hb hby own_d31_50) kS) ?_
        show OFin p e below s _ _ _ (T0.setTop (mkF m 52 #[.val (.int ((((p1 ^^^ (-1 : Int32)) &&& (p1 - (1 : Int32))).toUInt32 >>> ((16 : Int32) &&& 31).toUInt32).toInt32)), .val (.int ((1 : Int32) + (16 : Int32)))] [(.int (16 : Int32)), (.int ((((p1 ^^^ (-1 : Int32)) &&& (p1 - (1 : Int32))).toUInt32 >>> ((16 : Int32) &&& 31).toUInt32).toInt32))]))
        by_cases c4 : (16 : Int32) < ((((p1 ^^^ (-1 : Int32)) &&& (p1 - (1 : Int32))).toUInt32 >>> ((16 : Int32) &&& 31).toUInt32).toInt32)
        · refine own_st (fun _ kS => XS.icmpNo X0.here hx rfl (hb hby own_d31_52) rfl (tlt c4).2.2.2 kS) ?_
          show OFin p e below s _ _ _ (T0.setTop (mkF m 55 #[.val (.int ((((p1 ^^^ (-1 : Int32)) &&& (p1 - (1 : Int32))).toUInt32 >>> ((16 : Int32) &&& 31).toUInt32).toInt32)), .val (.int ((1 : Int32) + (16 : Int32)))] []))
          refine own_st (fun _ kS => XS.iinc X0.here hx rfl (hb hby own_d31_55) rfl (l' := #[.val (.int ((((p1 ^^^ (-1 : Int32)) &&& (p1 - (1 : Int32))).toUInt32 >>> ((16 : Int32) &&& 31).toUInt32).toInt32)), .val (.int (((1 : Int32) + (16 : Int32)) + (4 : Int32)))]) rfl kS) ?_
          show OFin p e below s _ _ _ (T0.setTop (mkF m 58 #[.val (.int ((((p1 ^^^ (-1 : Int32)) &&& (p1 - (1 : Int32))).toUInt32 >>> ((16 : Int32) &&& 31).toUInt32).toInt32)), .val (.int (((1 : Int32) + (16 : Int32)) + (4 : Int32)))] []))
          refine own_st (fun _ kS => XS.iloadN X0.here hx rfl (hb hby own_d31_58) rfl kS) ?_
          show OFin p e below s _ _ _ (T0.setTop (mkF m 59 #[.val (.int ((((p1 ^^^ (-1 : Int32)) &&& (p1 - (1 : Int32))).toUInt32 >>> ((16 : Int32) &&& 31).toUInt32).toInt32)), .val (.int (((1 : Int32) + (16 : Int32)) + (4 : Int32)))] [(.int ((((p1 ^^^ (-1 : Int32)) &&& (p1 - (1 : Int32))).toUInt32 >>> ((16 : Int32) &&& 31).toUInt32).toInt32))]))
          refine own_st (fun _ kS => XS.iconst X0.here hx rfl (hb hby own_d31_59) kS) ?_
          show OFin p e below s _ _ _ (T0.setTop (mkF m 60 #[.val (.int ((((p1 ^^^ (-1 : Int32)) &&& (p1 - (1 : Int32))).toUInt32 >>> ((16 : Int32) &&& 31).toUInt32).toInt32)), .val (.int (((1 : Int32) + (16 : Int32)) + (4 : Int32)))] [(.int (4 : Int32)), (.int ((((p1 ^^^ (-1 : Int32)) &&& (p1 - (1 : Int32))).toUInt32 >>> ((16 : Int32) &&& 31).toUInt32).toInt32))]))
          refine own_st (fun _ kS => XS.iushr X0.here hx rfl (hb hby own_d31_60) rfl kS) ?_
          show OFin p e below s _ _ _ (T0.setTop (mkF m 61 #[.val (.int ((((p1 ^^^ (-1 : Int32)) &&& (p1 - (1 : Int32))).toUInt32 >>> ((16 : Int32) &&& 31).toUInt32).toInt32)), .val (.int (((1 : Int32) + (16 : Int32)) + (4 : Int32)))] [(.int ((((((p1 ^^^ (-1 : Int32)) &&& (p1 - (1 : Int32))).toUInt32 >>> ((16 : Int32) &&& 31).toUInt32).toInt32).toUInt32 >>> ((4 : Int32) &&& 31).toUInt32).toInt32))]))
          refine own_st (fun _ kS => XS.istoreN X0.here hx rfl (hb hby own_d31_61) rfl (l' := #[.val (.int ((((((p1 ^^^ (-1 : Int32)) &&& (p1 - (1 : Int32))).toUInt32 >>> ((16 : Int32) &&& 31).toUInt32).toInt32).toUInt32 >>> ((4 : Int32) &&& 31).toUInt32).toInt32)), .val (.int (((1 : Int32) + (16 : Int32)) + (4 : Int32)))]) rfl kS) ?_
          show OFin p e below s _ _ _ (T0.setTop (mkF m 62 #[.val (.int ((((((p1 ^^^ (-1 : Int32)) &&& (p1 - (1 : Int32))).toUInt32 >>> ((16 : Int32) &&& 31).toUInt32).toInt32).toUInt32 >>> ((4 : Int32) &&& 31).toUInt32).toInt32)), .val (.int (((1 : Int32) + (16 : Int32)) + (4 : Int32)))] []))
          refine own_st (fun _ kS => XS.iloadN X0.here hx rfl (hb hby own_d31_62) rfl kS) ?_
          show OFin p e below s _ _ _ (T0.setTop (mkF m 63 #[.val (.int ((((((p1 ^^^ (-1 : Int32)) &&& (p1 - (1 : Int32))).toUInt32 >>> ((16 : Int32) &&& 31).toUInt32).toInt32).toUInt32 >>> ((4 : Int32) &&& 31).toUInt32).toInt32)), .val (.int (((1 : Int32) + (16 : Int32)) + (4 : Int32)))] [(.int ((((((p1 ^^^ (-1 : Int32)) &&& (p1 - (1 : Int32))).toUInt32 >>> ((16 : Int32) &&& 31).toUInt32).toInt32).toUInt32 >>> ((4 : Int32) &&& 31).toUInt32).toInt32))]))
          refine own_st (fun _ kS => XS.iconst X0.here hx rfl (hb hby own_d31_63) kS) ?_
          show OFin p e below s _ _ _ (T0.setTop (mkF m 64 #[.val (.int ((((((p1 ^^^ (-1 : Int32)) &&& (p1 - (1 : Int32))).toUInt32 >>> ((16 : Int32) &&& 31).toUInt32).toInt32).toUInt32 >>> ((4 : Int32) &&& 31).toUInt32).toInt32)), .val (.int (((1 : Int32) + (16 : Int32)) + (4 : Int32)))] [(.int (4 : Int32)), (.int ((((((p1 ^^^ (-1 : Int32)) &&& (p1 - (1 : Int32))).toUInt32 >>> ((16 : Int32) &&& 31).toUInt32).toInt32).toUInt32 >>> ((4 : Int32) &&& 31).toUInt32).toInt32))]))
          by_cases c5 : (4 : Int32) < ((((((p1 ^^^ (-1 : Int32)) &&& (p1 - (1 : Int32))).toUInt32 >>> ((16 : Int32) &&& 31).toUInt32).toInt32).toUInt32 >>> ((4 : Int32) &&& 31).toUInt32).toInt32)
          · refine own_st (fun _ kS => XS.icmpNo X0.here hx rfl (hb hby own_d31_64) rfl (tlt c5).2.2.2 kS) ?_
            show OFin p e below s _ _ _ (T0.setTop (mkF m 67 #[.val (.int ((((((p1 ^^^ (-1 : Int32)) &&& (p1 - (1 : Int32))).toUInt32 >>> ((16 : Int32) &&& 31).toUInt32).toInt32).toUInt32 >>> ((4 : Int32) &&& 31).toUInt32).toInt32)), .val (.int (((1 : Int32) + (16 : Int32)) + (4 : Int32)))] []))
            refine own_st (fun _ kS => XS.iinc X0.here hx rfl (hb hby own_d31_67) rfl (l' := #[.val (.int ((((((p1 ^^^ (-1 : Int32)) &&& (p1 - (1 : Int32))).toUInt32 >>> ((16 : Int32) &&& 31).toUInt32).toInt32).toUInt32 >>> ((4 : Int32) &&& 31).toUInt32).toInt32)), .val (.int ((((1 : Int32) + (16 : Int32)) + (4 : Int32)) + (2 : Int32)))]) rfl kS) ?_
            show OFin p e below s _ _ _ (T0.setTop (mkF m 70 #[.val (.int ((((((p1 ^^^ (-1 : Int32)) &&& (p1 - (1 : Int32))).toUInt32 >>> ((16 : Int32) &&& 31).toUInt32).toInt32).toUInt32 >>> ((4 : Int32) &&& 31).toUInt32).toInt32)), .val (.int ((((1 : Int32) + (16 : Int32)) + (4 : Int32)) + (2 : Int32)))] []))
            refine own_st (fun _ kS => XS.iloadN X0.here hx rfl (hb hby own_d31_70) rfl kS) ?_
            show OFin p e below s _ _ _ (T0.setTop (mkF m 71 #[.val (.int ((((((p1 ^^^ (-1 : Int32)) &&& (p1 - (1 : Int32))).toUInt32 >>> ((16 : Int32) &&& 31).toUInt32).toInt32).toUInt32 >>> ((4 : Int32) &&& 31).toUInt32).toInt32)), .val (.int ((((1 : Int32) + (16 : Int32)) + (4 : Int32)) + (2 : Int32)))] [(.int ((((((p1 ^^^ (-1 : Int32)) &&& (p1 - (1 : Int32))).toUInt32 >>> ((16 : Int32) &&& 31).toUInt32).toInt32).toUInt32 >>> ((4 : Int32) &&& 31).toUInt32).toInt32))]))
            refine own_st (fun _ kS => XS.iconst X0.here hx rfl (hb hby own_d31_71) kS) ?_
            show OFin p e below s _ _ _ (T0.setTop (mkF m 72 #[.val (.int ((((((p1 ^^^ (-1 : Int32)) &&& (p1 - (1 : Int32))).toUInt32 >>> ((16 : Int32) &&& 31).toUInt32).toInt32).toUInt32 >>> ((4 : Int32) &&& 31).toUInt32).toInt32)), .val (.int ((((1 : Int32) + (16 : Int32)) + (4 : Int32)) + (2 : Int32)))] [(.int (2 : Int32)), (.int ((((((p1 ^^^ (-1 : Int32)) &&& (p1 - (1 : Int32))).toUInt32 >>> ((16 : Int32) &&& 31).toUInt32).toInt32).toUInt32 >>> ((4 : Int32) &&& 31).toUInt32).toInt32))]))
            refine own_st (fun _ kS => XS.iushr X0.here hx rfl (hb hby own_d31_72) rfl kS) ?_
            show OFin p e below s _ _ _ (T0.setTop (mkF m 73 #[.val (.int ((((((p1 ^^^ (-1 : Int32)) &&& (p1 - (1 : Int32))).toUInt32 >>> ((16 : Int32) &&& 31).toUInt32).toInt32).toUInt32 >>> ((4 : Int32) &&& 31).toUInt32).toInt32)), .val (.int ((((1 : Int32) + (16 : Int32)) + (4 : Int32)) + (2 : Int32)))] [(.int ((((((((p1 ^^^ (-1 : Int32)) &&& (p1 - (1 : Int32))).toUInt32 >>> ((16 : Int32) &&& 31).toUInt32).toInt32).toUInt32 >>> ((4 : Int32) &&& 31).toUInt32).toInt32).toUInt32 >>> ((2 : Int32) &&& 31).toUInt32).toInt32))]))
            refine own_st (fun _ kS => XS.istoreN X0.here hx rfl (hb hby own_d31_73) rfl (l' := #[.val (.int ((((((((p1 ^^^ (-1 : Int32)) &&& (p1 - (1 : Int32))).toUInt32 >>> ((16 : Int32) &&& 31).toUInt32).toInt32).toUInt32 >>> ((4 : Int32) &&& 31).toUInt32).toInt32).toUInt32 >>> ((2 : Int32) &&& 31).toUInt32).toInt32)), .val (.int ((((1 : Int32) + (16 : Int32)) + (4 : Int32)) + (2 : Int32)))]) rfl kS) ?_
            show OFin p e below s _ _ _ (T0.setTop (mkF m 74 #[.val (.int ((((((((p1 ^^^ (-1 : Int32)) &&& (p1 - (1 : Int32))).toUInt32 >>> ((16 : Int32) &&& 31).toUInt32).toInt32).toUInt32 >>> ((4 : Int32) &&& 31).toUInt32).toInt32).toUInt32 >>> ((2 : Int32) &&& 31).toUInt32).toInt32)), .val (.int ((((1 : Int32) + (16 : Int32)) + (4 : Int32)) + (2 : Int32)))] []))
            refine own_st (fun _ kS => XS.iloadN X0.here hx rfl (hb hby own_d31_74) rfl kS) ?_
            show OFin p e below s _ _ _ (T0.setTop (mkF m 75 #[.val (.int ((((((((p1 ^^^ (-1 : Int32)) &&& (p1 - (1 : Int32))).toUInt32 >>> ((16 : Int32) &&& 31).toUInt32).toInt32).toUInt32 >>> ((4 : Int32) &&& 31).toUInt32).toInt32).toUInt32 >>> ((2 : Int32) &&& 31).toUInt32).toInt32)), .val (.int ((((1 : Int32) + (16 : Int32)) + (4 : Int32)) + (2 : Int32)))] [(.int ((((1 : Int32) + (16 : Int32)) + (4 : Int32)) + (2 : Int32)))]))
            refine own_st (fun _ kS => XS.iloadN X0.here hx rfl (hb hby own_d31_75) rfl kS) ?_
            show OFin p e below s _ _ _ (T0.setTop (mkF m 76 #[.val (.int ((((((((p1 ^^^ (-1 : Int32)) &&& (p1 - (1 : Int32))).toUInt32 >>> ((16 : Int32) &&& 31).toUInt32).toInt32).toUInt32 >>> ((4 : Int32) &&& 31).toUInt32).toInt32).toUInt32 >>> ((2 : Int32) &&& 31).toUInt32).toInt32)), .val (.int ((((1 : Int32) + (16 : Int32)) + (4 : Int32)) + (2 : Int32)))] [(.int ((((((((p1 ^^^ (-1 : Int32)) &&& (p1 - (1 : Int32))).toUInt32 >>> ((16 : Int32) &&& 31).toUInt32).toInt32).toUInt32 >>> ((4 : Int32) &&& 31).toUInt32).toInt32).toUInt32 >>> ((2 : Int32) &&& 31).toUInt32).toInt32)), (.int ((((1 : Int32) + (16 : Int32)) + (4 : Int32)) + (2 : Int32)))]))
            refine own_st (fun _ kS => XS.iconst X0.here hx rfl (hb hby own_d31_76) kS) ?_
            show OFin p e below s _ _ _ (T0.setTop (mkF m 77 #[.val (.int ((((((((p1 ^^^ (-1 : Int32)) &&& (p1 - (1 : Int32))).toUInt32 >>> ((16 : Int32) &&& 31).toUInt32).toInt32).toUInt32 >>> ((4 : Int32) &&& 31).toUInt32).toInt32).toUInt32 >>> ((2 : Int32) &&& 31).toUInt32).toInt32)), .val (.int ((((1 : Int32) + (16 : Int32)) + (4 : Int32)) + (2 : Int32)))] [(.int (1 : Int32)), (.int ((((((((p1 ^^^ (-1 : Int32)) &&& (p1 - (1 : Int32))).toUInt32 >>> ((16 : Int32) &&& 31).toUInt32).toInt32).toUInt32 >>> ((4 : Int32) &&& 31).toUInt32).toInt32).toUInt32 >>> ((2 : Int32) &&& 31).toUInt32).toInt32)), (.int ((((1 : Int32) + (16 : Int32)) + (4 : Int32)) + (2 : Int32)))]))
            refine own_st (fun _ kS => XS.iushr X0.here hx rfl (hb hby own_d31_77) rfl kS) ?_
            show OFin p e below s _ _ _ (T0.setTop (mkF m 78 #[.val (.int ((((((((p1 ^^^ (-1 : Int32)) &&& (p1 - (1 : Int32))).toUInt32 >>> ((16 : Int32) &&& 31).toUInt32).toInt32).toUInt32 >>> ((4 : Int32) &&& 31).toUInt32).toInt32).toUInt32 >>> ((2 : Int32) &&& 31).toUInt32).toInt32)), .val (.int ((((1 : Int32) + (16 : Int32)) + (4 : Int32)) + (2 : Int32)))] [(.int ((((((((((p1 ^^^ (-1 : Int32)) &&& (p1 - (1 : Int32))).toUInt32 >>> ((16 : Int32) &&& 31).toUInt32).toInt32).toUInt32 >>> ((4 : Int32) &&& 31).toUInt32).toInt32).toUInt32 >>> ((2 : Int32) &&& 31).toUInt32).toInt32).toUInt32 >>> ((1 : Int32) &&& 31).toUInt32).toInt32)), (.int ((((1 : Int32) + (16 : Int32)) + (4 : Int32)) + (2 : Int32)))]))
            refine own_st (fun _ kS => XS.iadd X0.here hx rfl (hb hby own_d31_78) rfl kS) ?_
            show OFin p e below s _ _ _ (T0.setTop (mkF m 79 #[.val (.int ((((((((p1 ^^^ (-1 : Int32)) &&& (p1 - (1 : Int32))).toUInt32 >>> ((16 : Int32) &&& 31).toUInt32).toInt32).toUInt32 >>> ((4 : Int32) &&& 31).toUInt32).toInt32).toUInt32 >>> ((2 : Int32) &&& 31).toUInt32).toInt32)), .val (.int ((((1 : Int32) + (16 : Int32)) + (4 : Int32)) + (2 : Int32)))] [(.int (((((1 : Int32) + (16 : Int32)) + (4 : Int32)) + (2 : Int32)) + ((((((((((p1 ^^^ (-1 : Int32)) &&& (p1 - (1 : Int32))).toUInt32 >>> ((16 : Int32) &&& 31).toUInt32).toInt32).toUInt32 >>> ((4 : Int32) &&& 31).toUInt32).toInt32).toUInt32 >>> ((2 : Int32) &&& 31).toUInt32).toInt32).toUInt32 >>> ((1 : Int32) &&& 31).toUInt32).toInt32)))]))
            exact own_ret X0 hx (t := .int) hret hlk rfl (Or.inl ⟨rfl, by simp, _, rfl⟩) (hb hby own_d31_79) (by decide) (by decide) ⟨by simp only [own_zi, own_z1, own_z2, own_z3, own_z4, own_ush, c1, c2, c3, c4, c5, if_true, if_false], e0, rfl⟩
          · refine own_st (fun _ kS => XS.icmpYes X0.here hx rfl (pc0 := 64) (pc' := 74) rfl (hb hby own_d31_64) rfl (flt c5).2.2.2 (by decide) (by decide) kS) ?_
            show OFin p e below s _ _ _ (T0.setTop (mkF m 74 #[.val (.int ((((((p1 ^^^ (-1 : Int32)) &&& (p1 - (1 : Int32))).toUInt32 >>> ((16 : Int32) &&& 31).toUInt32).toInt32).toUInt32 >>> ((4 : Int32) &&& 31).toUInt32).toInt32)), .val (.int (((1 : Int32) + (16 : Int32)) + (4 : Int32)))] []))
            refine own_st (fun _ kS => XS.iloadN X0.here hx rfl (hb hby own_d31_74) rfl kS) ?_
            show OFin p e below s _ _ _ (T0.setTop (mkF m 75 #[.val (.int ((((((p1 ^^^ (-1 : Int32)) &&& (p1 - (1 : Int32))).toUInt32 >>> ((16 : Int32) &&& 31).toUInt32).toInt32).toUInt32 >>> ((4 : Int32) &&& 31).toUInt32).toInt32)), .val (.int (((1 : Int32) + (16 : Int32)) + (4 : Int32)))] [(.int (((1 : Int32) + (16 : Int32)) + (4 : Int32)))]))
            refine own_st (fun _ kS => XS.iloadN X0.here hx rfl (hb hby own_d31_75) rfl kS) ?_
            show OFin p e below s _ _ _ (T0.setTop (mkF m 76 #[.val (.int ((((((p1 ^^^ (-1 : Int32)) &&& (p1 - (1 : Int32))).toUInt32 >>> ((16 : Int32) &&& 31).toUInt32).toInt32).toUInt32 >>> ((4 : Int32) &&& 31).toUInt32).toInt32)), .val (.int (((1 : Int32) + (16 : Int32)) + (4 : Int32)))] [(.int ((((((p1 ^^^ (-1 : Int32)) &&& (p1 - (1 : Int32))).toUInt32 >>> ((16 : Int32) &&& 31).toUInt32).toInt32).toUInt32 >>> ((4 : Int32) &&& 31).toUInt32).toInt32)), (.int (((1 : Int32) + (16 : Int32)) + (4 : Int32)))]))
            refine own_st (fun _ kS => XS.iconst X0.here hx rfl (hb hby own_d31_76) kS) ?_
            show OFin p e below s _ _ _ (T0.setTop (mkF m 77 #[.val (.int ((((((p1 ^^^ (-1 : Int32)) &&& (p1 - (1 : Int32))).toUInt32 >>> ((16 : Int32) &&& 31).toUInt32).toInt32).toUInt32 >>> ((4 : Int32) &&& 31).toUInt32).toInt32)), .val (.int (((1 : Int32) + (16 : Int32)) + (4 : Int32)))] [(.int (1 : Int32)), (.int ((((((p1 ^^^ (-1 : Int32)) &&& (p1 - (1 : Int32))).toUInt32 >>> ((16 : Int32) &&& 31).toUInt32).toInt32).toUInt32 >>> ((4 : Int32) &&& 31).toUInt32).toInt32)), (.int (((1 : Int32) + (16 : Int32)) + (4 : Int32)))]))
            refine own_st (fun _ kS => XS.iushr X0.here hx rfl (hb hby own_d31_77) rfl kS) ?_
            show OFin p e below s _ _ _ (T0.setTop (mkF m 78 #[.val (.int ((((((p1 ^^^ (-1 : Int32)) &&& (p1 - (1 : Int32))).toUInt32 >>> ((16 : Int32) &&& 31).toUInt32).toInt32).toUInt32 >>> ((4 : Int32) &&& 31).toUInt32).toInt32)), .val (.int (((1 : Int32) + (16 : Int32)) + (4 : Int32)))] [(.int ((((((((p1 ^^^ (-1 : Int32)) &&& (p1 - (1 : Int32))).toUInt32 >>> ((16 : Int32) &&& 31).toUInt32).toInt32).toUInt32 >>> ((4 : Int32) &&& 31).toUInt32).toInt32).toUInt32 >>> ((1 : Int32) &&& 31).toUInt32).toInt32)), (.int (((1 : Int32) + (16 : Int32)) + (4 : Int32)))]))
            refine own_st (fun _ kS => XS.iadd X0.here hx rfl (hb hby own_d31_78) rfl kS) ?_
            show OFin p e below s _ _ _ (T0.setTop (mkF m 79 #[.val (.int ((((((p1 ^^^ (-1 : Int32)) &&& (p1 - (1 : Int32))).toUInt32 >>> ((16 : Int32) &&& 31).toUInt32).toInt32).toUInt32 >>> ((4 : Int32) &&& 31).toUInt32).toInt32)), .val (.int (((1 : Int32) + (16 : Int32)) + (4 : Int32)))] [(.int ((((1 : Int32) + (16 : Int32)) + (4 : Int32)) + ((((((((p1 ^^^ (-1 : Int32)) &&& (p1 - (1 : Int32))).toUInt32 >>> ((16 : Int32) &&& 31).toUInt32).toInt32).toUInt32 >>> ((4 : Int32) &&& 31).toUInt32).toInt32).toUInt32 >>> ((1 : Int32) &&& 31).toUInt32).toInt32)))]))
            exact own_ret X0 hx (t := .int) hret hlk rfl (Or.inl ⟨rfl, by simp, _, rfl⟩) (hb hby own_d31_79) (by decide) (by decide) ⟨by simp only [own_zi, own_z1, own_z2, own_z3, own_z4, own_ush, c1, c2, c3, c4, c5, if_true, if_false], e0, rfl⟩
        · refine own_st (fun _ kS => XS.icmpYes X0.here hx rfl (pc0 := 52) (pc' := 62) rfl (hb hby own_d31_52) rfl (flt c4).2.2.2 (by decide) (by decide) kS) ?_
          show OFin p e below s _ _ _ (T0.setTop (mkF m 62 #[.val (.int ((((p1 ^^^ (-1 : Int32)) &&& (p1 - (1 : Int32))).toUInt32 >>> ((16 : Int32) &&& 31).toUInt32).toInt32)), .val (.int ((1 : Int32) + (16 : Int32)))] []))
          refine own_st (fun _ kS => XS.iloadN X0.here hx rfl (hb hby own_d31_62) rfl kS) ?_
          show OFin p e below s _ _ _ (T0.setTop (mkF m 63 #[.val (.int ((((p1 ^^^ (-1 : Int32)) &&& (p1 - (1 : Int32))).toUInt32 >>> ((16 : Int32) &&& 31).toUInt32).toInt32)), .val (.int ((1 : Int32) + (16 : Int32)))] [(.int ((((p1 ^^^ (-1 : Int32)) &&& (p1 - (1 : Int32))).toUInt32 >>> ((16 : Int32) &&& 31).toUInt32).toInt32))]))
          refine own_st (fun _ kS => XS.iconst X0.here hx rfl (hb hby own_d31_63) kS) ?_
          show OFin p e below s _ _ _ (T0.setTop (mkF m 64 #[.val (.int ((((p1 ^^^ (-1 : Int32)) &&& (p1 - (1 : Int32))).toUInt32 >>> ((16 : Int32) &&& 31).toUInt32).toInt32)), .val (.int ((1 : Int32) + (16 : Int32)))] [(.int (4 : Int32)), (.int ((((p1 ^^^ (-1 : Int32)) &&& (p1 - (1 : Int32))).toUInt32 >>> ((16 : Int32) &&& 31).toUInt32).toInt32))]))
          by_cases c5 : (4 : Int32) < ((((p1 ^^^ (-1 : Int32)) &&& (p1 - (1 : Int32))).toUInt32 >>> ((16 : Int32) &&& 31).toUInt32).toInt32)
          · refine own_st (fun _ kS => XS.icmpNo X0.here hx rfl (hb hby own_d31_64) rfl (tlt c5).2.2.2 kS) ?_
            show OFin p e below s _ _ _ (T0.setTop (mkF m 67 #[.val (.int ((((p1 ^^^ (-1 : Int32)) &&& (p1 - (1 : Int32))).toUInt32 >>> ((16 : Int32) &&& 31).toUInt32).toInt32)), .val (.int ((1 : Int32) + (16 : Int32)))] []))
            refine own_st (fun _ kS => XS.iinc X0.here hx rfl (hb hby own_d31_67) rfl (l' := #[.val (.int ((((p1 ^^^ (-1 : Int32)) &&& (p1 - (1 : Int32))).toUInt32 >>> ((16 : Int32) &&& 31).toUInt32).toInt32)), .val (.int (((1 : Int32) + (16 : Int32)) + (2 : Int32)))]) rfl kS) ?_
            show OFin p e below s _ _ _ (T0.setTop (mkF m 70 #[.val (.int ((((p1 ^^^ (-1 : Int32)) &&& (p1 - (1 : Int32))).toUInt32 >>> ((16 : Int32) &&& 31).toUInt32).toInt32)), .val (.int (((1 : Int32) + (16 : Int32)) + (2 : Int32)))] []))
            refine own_st (fun _ kS => XS.iloadN X0.here hx rfl (hb hby own_d31_70) rfl kS) ?_
            show OFin p e below s _ _ _ (T0.setTop (mkF m 71 #[.val (.int ((((p1 ^^^ (-1 : Int32)) &&& (p1 - (1 : Int32))).toUInt32 >>> ((16 : Int32) &&& 31).toUInt32).toInt32)), .val (.int (((1 : Int32) + (16 : Int32)) + (2 : Int32)))] [(.int ((((p1 ^^^ (-1 : Int32)) &&& (p1 - (1 : Int32))).toUInt32 >>> ((16 : Int32) &&& 31).toUInt32).toInt32))]))
            refine own_st (fun _ kS => XS.iconst X0.here hx rfl (hb hby own_d31_71) kS) ?_
            show OFin p e below s _ _ _ (T0.setTop (mkF m 72 #[.val (.int ((((p1 ^^^ (-1 : Int32)) &&& (p1 - (1 : Int32))).toUInt32 >>> ((16 : Int32) &&& 31).toUInt32).toInt32)), .val (.int (((1 : Int32) + (16 : Int32)) + (2 : Int32)))] [(.int (2 : Int32)), (.int ((((p1 ^^^ (-1 : Int32)) &&& (p1 - (1 : Int32))).toUInt32 >>> ((16 : Int32) &&& 31).toUInt32).toInt32))]))
            refine own_st (fun _ kS => XS.iushr X0.here hx rfl (hb hby own_d31_72) rfl kS) ?_
            show OFin p e below s _ _ _ (T0.setTop (mkF m 73 #[.val (.int ((((p1 ^^^ (-1 : Int32)) &&& (p1 - (1 : Int32))).toUInt32 >>> ((16 : Int32) &&& 31).toUInt32).toInt32)), .val (.int (((1 : Int32) + (16 : Int32)) + (2 : Int32)))] [(.int ((((((p1 ^^^ (-1 : Int32)) &&& (p1 - (1 : Int32))).toUInt32 >>> ((16 : Int32) &&& 31).toUInt32).toInt32).toUInt32 >>> ((2 : Int32) &&& 31).toUInt32).toInt32))]))
            refine own_st (fun _ kS => XS.istoreN X0.here hx rfl (hb hby own_d31_73) rfl (l' := #[.val (.int ((((((p1 ^^^ (-1 : Int32)) &&& (p1 - (1 : Int32))).toUInt32 >>> ((16 : Int32) &&& 31).toUInt32).toInt32).toUInt32 >>> ((2 : Int32) &&& 31).toUInt32).toInt32)), .val (.int (((1 : Int32) + (16 : Int32)) + (2 : Int32)))]) rfl kS) ?_
            show OFin p e below s _ _ _ (T0.setTop (mkF m 74 #[.val (.int ((((((p1 ^^^ (-1 : Int32)) &&& (p1 - (1 : Int32))).toUInt32 >>> ((16 : Int32) &&& 31).toUInt32).toInt32).toUInt32 >>> ((2 : Int32) &&& 31).toUInt32).toInt32)), .val (.int (((1 : Int32) + (16 : Int32)) + (2 : Int32)))] []))
            refine own_st (fun _ kS => XS.iloadN X0.here hx rfl (hb hby own_d31_74) rfl kS) ?_
            show OFin p e below s _ _ _ (T0.setTop (mkF m 75 #[.val (.int ((((((p1 ^^^ (-1 : Int32)) &&& (p1 - (1 : Int32))).toUInt32 >>> ((16 : Int32) &&& 31).toUInt32).toInt32).toUInt32 >>> ((2 : Int32) &&& 31).toUInt32).toInt32)), .val (.int (((1 : Int32) + (16 : Int32)) + (2 : Int32)))] [(.int (((1 : Int32) + (16 : Int32)) + (2 : Int32)))]))
            refine own_st (fun _ kS => XS.iloadN X0.here hx rfl (hb hby own_d31_75) rfl kS) ?_
            show OFin p e below s _ _ _ (T0.setTop (mkF m 76 #[.val (.int ((((((p1 ^^^ (-1 : Int32)) &&& (p1 - (1 : Int32))).toUInt32 >>> ((16 : Int32) &&& 31).toUInt32).toInt32).toUInt32 >>> ((2 : Int32) &&& 31).toUInt32).toInt32)), .val (.int (((1 : Int32) + (16 : Int32)) + (2 : Int32)))] [(.int ((((((p1 ^^^ (-1 : Int32)) &&& (p1 - (1 : Int32))).toUInt32 >>> ((16 : Int32) &&& 31).toUInt32).toInt32).toUInt32 >>> ((2 : Int32) &&& 31).toUInt32).toInt32)), (.int (((1 : Int32) + (16 : Int32)) + (2 : Int32)))]))
            refine own_st (fun _ kS => XS.iconst X0.here hx rfl (hb hby own_d31_76) kS) ?_
            show OFin p e below s _ _ _ (T0.setTop (mkF m 77 #[.val (.int ((((((p1 ^^^ (-1 : Int32)) &&& (p1 - (1 : Int32))).toUInt32 >>> ((16 : Int32) &&& 31).toUInt32).toInt32).toUInt32 >>> ((2 : Int32) &&& 31).toUInt32).toInt32)), .val (.int (((1 : Int32) + (16 : Int32)) + (2 : Int32)))] [(.int (1 : Int32)), (.int ((((((p1 ^^^ (-1 : Int32)) &&& (p1 - (1 : Int32))).toUInt32 >>> ((16 : Int32) &&& 31).toUInt32).toInt32).toUInt32 >>> ((2 : Int32) &&& 31).toUInt32).toInt32)), (.int (((1 : Int32) + (16 : Int32)) + (2 : Int32)))]))
            refine own_st (fun _ kS => XS.iushr X0.here hx rfl (hb hby own_d31_77) rfl kS) ?_
            show OFin p e below s _ _ _ (T0.setTop (mkF m 78 #[.val (.int ((((((p1 ^^^ (-1 : Int32)) &&& (p1 - (1 : Int32))).toUInt32 >>> ((16 : Int32) &&& 31).toUInt32).toInt32).toUInt32 >>> ((2 : Int32) &&& 31).toUInt32).toInt32)), .val (.int (((1 : Int32) + (16 : Int32)) + (2 : Int32)))] [(.int ((((((((p1 ^^^ (-1 : Int32)) &&& (p1 - (1 : Int32))).toUInt32 >>> ((16 : Int32) &&& 31).toUInt32).toInt32).toUInt32 >>> ((2 : Int32) &&& 31).toUInt32).toInt32).toUInt32 >>> ((1 : Int32) &&& 31).toUInt32).toInt32)), (.int (((1 : Int32) + (16 : Int32)) + (2 : Int32)))]))
            refine own_st (fun _ kS => XS.iadd X0.here hx rfl (hb hby own_d31_78) rfl kS) ?_
            show OFin p e below s _ _ _ (T0.setTop (mkF m 79 #[.val (.int ((((((p1 ^^^ (-1 : Int32)) &&& (p1 - (1 : Int32))).toUInt32 >>> ((16 : Int32) &&& 31).toUInt32).toInt32).toUInt32 >>> ((2 : Int32) &&& 31).toUInt32).toInt32)), .val (.int (((1 : Int32) + (16 : Int32)) + (2 : Int32)))] [(.int ((((1 : Int32) + (16 : Int32)) + (2 : Int32)) + ((((((((p1 ^^^ (-1 : Int32)) &&& (p1 - (1 : Int32))).toUInt32 >>> ((16 : Int32) &&& 31).toUInt32).toInt32).toUInt32 >>> ((2 : Int32) &&& 31).toUInt32).toInt32).toUInt32 >>> ((1 : Int32) &&& 31).toUInt32).toInt32)))]))
            exact own_ret X0 hx (t := .int) hret hlk rfl (Or.inl ⟨rfl, by simp, _, rfl⟩) (hb hby own_d31_79) (by decide) (by decide) ⟨by simp only [own_zi, own_z1, own_z2, own_z3, own_z4, own_ush, c1, c2, c3, c4, c5, if_true, if_false], e0, rfl⟩
          · refine own_st (fun _ kS => XS.icmpYes X0.here hx rfl (pc0 := 64) (pc' := 74) rfl (hb hby own_d31_64) rfl (flt c5).2.2.2 (by decide) (by decide) kS) ?_
            show OFin p e below s _ _ _ (T0.setTop (mkF m 74 #[.val (.int ((((p1 ^^^ (-1 : Int32)) &&& (p1 - (1 : Int32))).toUInt32 >>> ((16 : Int32) &&& 31).toUInt32).toInt32)), .val (.int ((1 : Int32) + (16 : Int32)))] []))
            refine own_st (fun _ kS => XS.iloadN X0.here hx rfl (hb hby own_d31_74) rfl kS) ?_
            show OFin p e below s _ _ _ (T0.setTop (mkF m 75 #[.val (.int ((((p1 ^^^ (-1 : Int32)) &&& (p1 - (1 : Int32))).toUInt32 >>> ((16 : Int32) &&& 31).toUInt32).toInt32)), .val (.int ((1 : Int32) + (16 : Int32)))] [(.int ((1 : Int32) + (16 : Int32)))]))
            refine own_st (fun _ kS => XS.iloadN X0.here hx rfl (hb hby own_d31_75) rfl kS) ?_
            show OFin p e below s _ _ _ (T0.setTop (mkF m 76 #[.val (.int ((((p1 ^^^ (-1 : Int32)) &&& (p1 - (1 : Int32))).toUInt32 >>> ((16 : Int32) &&& 31).toUInt32).toInt32)), .val (.int ((1 : Int32) + (16 : Int32)))] [(.int ((((p1 ^^^ (-1 : Int32)) &&& (p1 - (1 : Int32))).toUInt32 >>> ((16 : Int32) &&& 31).toUInt32).toInt32)), (.int ((1 : Int32) + (16 : Int32)))]))
            refine own_st (fun _ kS => XS.iconst X0.here hx rfl (hb hby own_d31_76) kS) ?_
            show OFin p e below s _ _ _ (T0.setTop (mkF m 77 #[.val (.int ((((p1 ^^^ (-1 : Int32)) &&& (p1 - (1 : Int32))).toUInt32 >>> ((16 : Int32) &&& 31).toUInt32).toInt32)), .val (.int ((1 : Int32) + (16 : Int32)))] [(.int (1 : Int32)), (.int ((((p1 ^^^ (-1 : Int32)) &&& (p1 - (1 : Int32))).toUInt32 >>> ((16 : Int32) &&& 31).toUInt32).toInt32)), (.int ((1 : Int32) + (16 : Int32)))]))
            refine own_st (fun _ kS => XS.iushr X0.here hx rfl (hb hby own_d31_77) rfl kS) ?_
            show OFin p e below s _ _ _ (T0.setTop (mkF m 78 #[.val (.int ((((p1 ^^^ (-1 : Int32)) &&& (p1 - (1 : Int32))).toUInt32 >>> ((16 : Int32) &&& 31).toUInt32).toInt32)), .val (.int ((1 : Int32) + (16 : Int32)))] [(.int ((((((p1 ^^^ (-1 : Int32)) &&& (p1 - (1 : Int32))).toUInt32 >>> ((16 : Int32) &&& 31).toUInt32).toInt32).toUInt32 >>> ((1 : Int32) &&& 31).toUInt32).toInt32)), (.int ((1 : Int32) + (16 : Int32)))]))
            refine own_st (fun _ kS => XS.iadd X0.here hx rfl (hb hby own_d31_78) rfl kS) ?_
            show OFin p e below s _ _ _ (T0.setTop (mkF m 79 #[.val (.int ((((p1 ^^^ (-1 : Int32)) &&& (p1 - (1 : Int32))).toUInt32 >>> ((16 : Int32) &&& 31).toUInt32).toInt32)), .val (.int ((1 : Int32) + (16 : Int32)))] [(.int (((1 : Int32) + (16 : Int32)) + ((((((p1 ^^^ (-1 : Int32)) &&& (p1 - (1 : Int32))).toUInt32 >>> ((16 : Int32) &&& 31).toUInt32).toInt32).toUInt32 >>> ((1 : Int32) &&& 31).toUInt32).toInt32)))]))
            exact own_ret X0 hx (t := .int) hret hlk rfl (Or.inl ⟨rfl, by simp, _, rfl⟩) (hb hby own_d31_79) (by decide) (by decide) ⟨by simp only [own_zi, own_z1, own_z2, own_z3, own_z4, own_ush, c1, c2, c3, c4, c5, if_true, if_false], e0, rfl⟩
    · refine own_st (fun _ kS => XS.icmpYes X0.here hx rfl (pc0 := 23) (pc' := 34) rfl (hb hby own_d31_23) rfl (flt c2).2.2.2 (by decide) (by decide) kS) ?_
      show OFin p e below s _ _ _ (T0.setTop (mkF m 34 #[.val (.int ((p1 ^^^ (-1 : Int32)) &&& (p1 - (1 : Int32)))), .val (.int (1 : Int32))] []))
      refine own_st (fun _ kS => XS.iloadN X0.here hx rfl (hb hby own_d31_34) rfl kS) ?_
      show OFin p e below s _ _ _ (T0.setTop (mkF m 35 #[.val (.int ((p1 ^^^ (-1 : Int32)) &&& (p1 - (1 : Int32)))), .val (.int (1 : Int32))] [(.int ((p1 ^^^ (-1 : Int32)) &&& (p1 - (1 : Int32))))]))
      refine own_st (fun _ kS => XS.sipush X0.here hx rfl (hb hby own_d31_35) kS) ?_
      show OFin p e below s _ _ _ (T0.setTop (mkF m 38 #[.val (.int ((p1 ^^^ (-1 : Int32)) &&& (p1 - (1 : Int32)))), .val (.int (1 : Int32))] [(.int (256 : Int32)), (.int ((p1 ^^^ (-1 : Int32)) &&& (p1 - (1 : Int32))))]))
      by_cases c3 : (256 : Int32) < ((p1 ^^^ (-1 : Int32)) &&& (p1 - (1 : Int32)))
      · refine own_st (fun _ kS => XS.icmpNo X0.here hx rfl (hb hby own_d31_38) rfl (tlt c3).2.2.2 kS) ?_
        show OFin p e below s _ _ _ (T0.setTop (mkF m 41 #[.val (.int ((p1 ^^^ (-1 : Int32)) &&& (p1 - (1 : Int32)))), .val (.int (1 : Int32))] []))
        refine own_st (fun _ kS => XS.iinc X0.here hx rfl (hb hby own_d31_41) rfl (l' := #[.val (.int ((p1 ^^^ (-1 : Int32)) &&& (p1 - (1 : Int32)))), .val (.int ((1 : Int32) + (8 : Int32)))]) rfl kS) ?_
        show OFin p e below s _ _ _ (T0.setTop (mkF m 44 #[.val (.int ((p1 ^^^ (-1 : Int32)) &&& (p1 - (1 : Int32)))), .val (.int ((1 : Int32) + (8 : Int32)))] []))
        refine own_st (fun _ kS => XS.iloadN X0.here hx rfl (hb hby own_d31_44) rfl kS) ?_
        show OFin p e below s _ _ _ (T0.setTop (mkF m 45 #[.val (.int ((p1 ^^^ (-1 : Int32)) &&& (p1 - (1 : Int32)))), .val (.int ((1 : Int32) + (8 : Int32)))] [(.int ((p1 ^^^ (-1 : Int32)) &&& (p1 - (1 : Int32))))]))
        refine own_st (fun _ kS => XS.bipush X0.here hx rfl (hb hby own_d31_45) kS) ?_
        show OFin p e below s _ _ _ (T0.setTop (mkF m 47 #[.val (.int ((p1 ^^^ (-1 : Int32)) &&& (p1 - (1 : Int32)))), .val (.int ((1 : Int32) + (8 : Int32)))] [(.int (8 : Int32)), (.int ((p1 ^^^ (-1 : Int32)) &&& (p1 - (1 : Int32))))]))
        refine own_st (fun _ kS => XS.iushr X0.here hx rfl (hb hby own_d31_47) rfl kS) ?_
        show OFin p e below s _ _ _ (T0.setTop (mkF m 48 #[.val (.int ((p1 ^^^ (-1 : Int32)) &&& (p1 - (1 : Int32)))), .val (.int ((1 : Int32) + (8 : Int32)))] [(.int ((((p1 ^^^ (-1 : Int32)) &&& (p1 - (1 : Int32))).toUInt32 >>> ((8 : Int32) &&& 31).toUInt32).toInt32))]))
        refine own_st (fun _ kS => XS.istoreN X0.here hx rfl (hb hby own_d31_48) rfl (l' := #[.val (.int ((((p1 ^^^ (-1 : Int32)) &&& (p1 - (1 : Int32))).toUInt32 >>> ((8 : Int32) &&& 31).toUInt32).toInt32)), .val (.int ((1 : Int32) + (8 : Int32)))]) rfl kS) ?_
        show OFin p e below s _ _ _ (T0.setTop (mkF m 49 #[.val (.int ((((p1 ^^^ (-1 : Int32)) &&& (p1 - (1 : Int32))).toUInt32 >>> ((8 : Int32) &&& 31).toUInt32).toInt32)), .val (.int ((1 : Int32) + (8 : Int32)))] []))
        refine own_st (fun _ kS => XS.iloadN X0.here hx rfl (hb hby own_d31_49) rfl kS) ?_
        show OFin p e below s _ _ _ (T0.setTop (mkF m 50 #[.val (.int ((((p1 ^^^ (-1 : Int32)) &&& (p1 - (1 : Int32))).toUInt32 >>> ((8 : Int32) &&& 31).toUInt32).toInt32)), .val (.int ((1 : Int32) + (8 : Int32)))] [(.int ((((p1 ^^^ (-1 : Int32)) &&& (p1 - (1 : Int32))).toUInt32 >>> ((8 : Int32) &&& 31).toUInt32).toInt32))]))
        refine own_st (fun _ kS => XS.bipush X0.here hx rfl (hb hby own_d31_50) kS) ?_
        show OFin p e below s _ _ _ (T0.setTop (mkF m 52 #[.val (.int ((((p1 ^^^ (-1 : Int32)) &&& (p1 - (1 : Int32))).toUInt32 >>> ((8 : Int32) &&& 31).toUInt32).toInt32)), .val (.int ((1 : Int32) + (8 : Int32)))] [(.int (16 : Int32)), (.int ((((p1 ^^^ (-1 : Int32)) &&& (p1 - (1 : Int32))).toUInt32 >>> ((8 : Int32) &&& 31).toUInt32).toInt32))]))
        by_cases c4 : (16 : Int32) < ((((p1 ^^^ (-1 : Int32)) &&& (p1 - (1 : Int32))).toUInt32 >>> ((8 : Int32) &&& 31).toUInt32).toInt32)
        · refine own_st (fun _ kS => XS.icmpNo X0.here hx rfl (hb hby own_d31_52) rfl (tlt c4).2.2.2 kS) ?_
          show OFin p e below s _ _ _ (T0.setTop (mkF m 55 #[.val (.int ((((p1 ^^^ (-1 : Int32)) &&& (p1 - (1 : Int32))).toUInt32 >>> ((8 : Int32) &&& 31).toUInt32).toInt32)), .val (.int ((1 : Int32) + (8 : Int32)))] []))
          refine own_st (fun _ kS => XS.iinc X0.here hx rfl (hb hby own_d31_55) rfl (l' := #[.val (.int ((((p1 ^^^ (-1 : Int32)) &&& (p1 - (1 : Int32))).toUInt32 >>> ((8 : Int32) &&& 31).toUInt32).toInt32)), .val (.int (((1 : Int32) + (8 : Int32)) + (4 : Int32)))]) rfl kS) ?_
          show OFin p e below s _ _ _ (T0.setTop (mkF m 58 #[.val (.int ((((p1 ^^^ (-1 : Int32)) &&& (p1 - (1 : Int32))).toUInt32 >>> ((8 : Int32) &&& 31).toUInt32).toInt32)), .val (.int (((1 : Int32) + (8 : Int32)) + (4 : Int32)))] []))
          refine own_st (fun _ kS => XS.iloadN X0.here hx rfl (hb hby own_d31_58) rfl kS) ?_
          show OFin p e below s _ _ _ (T0.setTop (mkF m 59 #[.val (.int ((((p1 ^^^ (-1 : Int32)) &&& (p1 - (1 : Int32))).toUInt32 >>> ((8 : Int32) &&& 31).toUInt32).toInt32)), .val (.int (((1 : Int32) + (8 : Int32)) + (4 : Int32)))] [(.int ((((p1 ^^^ (-1 : Int32)) &&& (p1 - (1 : Int32))).toUInt32 >>> ((8 : Int32) &&& 31).toUInt32).toInt32))]))
          refine own_st (fun _ kS => XS.iconst X0.here hx rfl (hb hby own_d31_59) kS) ?_
          show OFin p e below s _ _ _ (T0.setTop (mkF m 60 #[.val (.int ((((p1 ^^^ (-1 : Int32)) &&& (p1 - (1 : Int32))).toUInt32 >>> ((8 : Int32) &&& 31).toUInt32).toInt32)), .val (.int (((1 : Int32) + (8 : Int32)) + (4 : Int32)))] [(.int (4 : Int32)), (.int ((((p1 ^^^ (-1 : Int32)) &&& (p1 - (1 : Int32))).toUInt32 >>> ((8 : Int32) &&& 31).toUInt32).toInt32))]))
          refine own_st (fun _ kS => XS.iushr X0.here hx rfl (hb hby own_d31_60) rfl kS) ?_
          show OFin p e below s _ _ _ (T0.setTop (mkF m 61 #[.val (.int ((((p1 ^^^ (-1 : Int32)) &&& (p1 - (1 : Int32))).toUInt32 >>> ((8 : Int32) &&& 31).toUInt32).toInt32)), .val (.int (((1 : Int32) + (8 : Int32)) + (4 : Int32)))] [(.int ((((((p1 ^^^ (-1 : Int32)) &&& (p1 - (1 : Int32))).toUInt32 >>> ((8 : Int32) &&& 31).toUInt32).toInt32).toUInt32 >>> ((4 : Int32) &&& 31).toUInt32).toInt32))]))
          refine own_st (fun _ kS => XS.istoreN X0.here hx rfl (hb hby own_d31_61) rfl (l' := #[.val (.int ((((((p1 ^^^ (-1 : Int32)) &&& (p1 - (1 : Int32))).toUInt32 >>> ((8 : Int32) &&& 31).toUInt32).toInt32).toUInt32 >>> ((4 : Int32) &&& 31).toUInt32).toInt32)), .val (.int (((1 : Int32) + (8 : Int32)) + (4 : Int32)))]) rfl kS) ?_
          show OFin p e below s _ _ _ (T0.setTop (mkF m 62 #[.val (.int ((((((p1 ^^^ (-1 : Int32)) &&& (p1 - (1 : Int32))).toUInt32 >>> ((8 : Int32) &&& 31).toUInt32).toInt32).toUInt32 >>> ((4 : Int32) &&& 31).toUInt32).toInt32)), .val (.int (((1 : Int32) + (8 : Int32)) + (4 : Int32)))] []))
          refine own_st (fun _ kS => XS.iloadN X0.here hx rfl (hb hby own_d31_62) rfl kS) ?_
          show OFin p e below s _ _ _ (T0.setTop (mkF m 63 #[.val (.int ((((((p1 ^^^ (-1 : Int32)) &&& (p1 - (1 : Int32))).toUInt32 >>> ((8 : Int32) &&& 31).toUInt32).toInt32).toUInt32 >>> ((4 : Int32) &&& 31).toUInt32).toInt32)), .val (.int (((1 : Int32) + (8 : Int32)) + (4 : Int32)))] [(.int ((((((p1 ^^^ (-1 : Int32)) &&& (p1 - (1 : Int32))).toUInt32 >>> ((8 : Int32) &&& 31).toUInt32).toInt32).toUInt32 >>> ((4 : Int32) &&& 31).toUInt32).toInt32))]))
          refine own_st (fun _ kS => XS.iconst X0.here hx rfl (hb hby own_d31_63) kS) ?_
          show OFin p e below s _ _ _ (T0.setTop (mkF m 64 #[.val (.int ((((((p1 ^^^ (-1 : Int32)) &&& (p1 - (1 : Int32))).toUInt32 >>> ((8 : Int32) &&& 31).toUInt32).toInt32).toUInt32 >>> ((4 : Int32) &&& 31).toUInt32).toInt32)), .val (.int (((1 : Int32) + (8 : Int32)) + (4 : Int32)))] [(.int (4 : Int32)), (.int ((((((p1 ^^^ (-1 : Int32)) &&& (p1 - (1 : Int32))).toUInt32 >>> ((8 : Int32) &&& 31).toUInt32).toInt32).toUInt32 >>> ((4 : Int32) &&& 31).toUInt32).toInt32))]))
          by_cases c5 : (4 : Int32) < ((((((p1 ^^^ (-1 : Int32)) &&& (p1 - (1 : Int32))).toUInt32 >>> ((8 : Int32) &&& 31).toUInt32).toInt32).toUInt32 >>> ((4 : Int32) &&& 31).toUInt32).toInt32)
          · refine own_st (fun _ kS => XS.icmpNo X0.here hx rfl (hb hby own_d31_64) rfl (tlt c5).2.2.2 kS) ?_
            show OFin p e below s _ _ _ (T0.setTop (mkF m 67 #[.val (.int ((((((p1 ^^^ (-1 : Int32)) &&& (p1 - (1 : Int32))).toUInt32 >>> ((8 : Int32) &&& 31).toUInt32).toInt32).toUInt32 >>> ((4 : Int32) &&& 31).toUInt32).toInt32)), .val (.int (((1 : Int32) + (8 : Int32)) + (4 : Int32)))] []))
            refine own_st (fun _ kS => XS.iinc X0.here hx rfl (hb hby own_d31_67) rfl (l' := #[.val (.int ((((((p1 ^^^ (-1 : Int32)) &&& (p1 - (1 : Int32))).toUInt32 >>> ((8 : Int32) &&& 31).toUInt32).toInt32).toUInt32 >>> ((4 : Int32) &&& 31).toUInt32).toInt32)), .val (.int ((((1 : Int32) + (8 : Int32)) + (4 : Int32)) + (2 : Int32)))]) rfl kS) ?_
            show OFin p e below s _ _ _ (T0.setTop (mkF m 70 #[.val (.int ((((((p1 ^^^ (-1 : Int32)) &&& (p1 - (1 : Int32))).toUInt32 >>> ((8 : Int32) &&& 31).toUInt32).toInt32).toUInt32 >>> ((4 : Int32) &&& 31).toUInt32).toInt32)), .val (.int ((((1 : Int32) + (8 : Int32)) + (4 : Int32)) + (2 : Int32)))] []))
            refine own_st (fun _ kS => XS.iloadN X0.here hx rfl (hb hby own_d31_70) rfl kS) ?_
            show OFin p e below s _ _ _ (T0.setTop (mkF m 71 #[.val (.int ((((((p1 ^^^ (-1 : Int32)) &&& (p1 - (1 : Int32))).toUInt32 >>> ((8 : Int32) &&& 31).toUInt32).toInt32).toUInt32 >>> ((4 : Int32) &&& 31).toUInt32).toInt32)), .val (.int ((((1 : Int32) + (8 : Int32)) + (4 : Int32)) + (2 : Int32)))] [(.int ((((((p1 ^^^ (-1 : Int32)) &&& (p1 - (1 : Int32))).toUInt32 >>> ((8 : Int32) &&& 31).toUInt32).toInt32).toUInt32 >>> ((4 : Int32) &&& 31).toUInt32).toInt32))]))
            refine own_st (fun _ kS => XS.iconst X0.here hx rfl (hb hby own_d31_71) kS) ?_
            show OFin p e below s _ _ _ (T0.setTop (mkF m 72 #[.val (.int ((((((p1 ^^^ (-1 : Int32)) &&& (p1 - (1 : Int32))).toUInt32 >>> ((8 : Int32) &&& 31).toUInt32).toInt32).toUInt32 >>> ((4 : Int32) &&& 31).toUInt32).toInt32)), .val (.int ((((1 : Int32) + (8 : Int32)) + (4 : Int32)) + (2 : Int32)))] [(.int (2 : Int32)), (.int ((((((p1 ^^^ (-1 : Int32)) &&& (p1 - (1 : Int32))).toUInt32 >>> ((8 : Int32) &&& 31).toUInt32).toInt32).toUInt32 >>> ((4 : Int32) &&& 31).toUInt32).toInt32))]))
            refine own_st (fun _ kS => XS.iushr X0.here hx rfl (hb hby own_d31_72) rfl kS) ?_
            show OFin p e below s _ _ _ (T0.setTop (mkF m 73 #[.val (.int ((((((p1 ^^^ (-1 : Int32)) &&& (p1 - (1 : Int32))).toUInt32 >>> ((8 : Int32) &&& 31).toUInt32).toInt32).toUInt32 >>> ((4 : Int32) &&& 31).toUInt32).toInt32)), .val (.int ((((1 : Int32) + (8 : Int32)) + (4 : Int32)) + (2 : Int32)))] [(.int ((((((((p1 ^^^ (-1 : Int32)) &&& (p1 - (1 : Int32))).toUInt32 >>> ((8 : Int32) &&& 31).toUInt32).toInt32).toUInt32 >>> ((4 : Int32) &&& 31).toUInt32).toInt32).toUInt32 >>> ((2 : Int32) &&& 31).toUInt32).toInt32))]))
            refine own_st (fun _ kS => XS.istoreN X0.here hx rfl (hb hby own_d31_73) rfl (l' := #[.val (.int ((((((((p1 ^^^ (-1 : Int32)) &&& (p1 - (1 : Int32))).toUInt32 >>> ((8 : Int32) &&& 31).toUInt32).toInt32).toUInt32 >>> ((4 : Int32) &&& 31).toUInt32).toInt32).toUInt32 >>> ((2 : Int32) &&& 31).toUInt32).toInt32)), .val (.int ((((1 : Int32) + (8 : Int32)) + (4 : Int32)) + (2 : Int32)))]) rfl kS) ?_
            show OFin p e below s _ _ _ (T0.setTop (mkF m 74 #[.val (.int ((((((((p1 ^^^ (-1 : Int32)) &&& (p1 - (1 : Int32))).toUInt32 >>> ((8 : Int32) &&& 31).toUInt32).toInt32).toUInt32 >>> ((4 : Int32) &&& 31).toUInt32).toInt32).toUInt32 >>> ((2 : Int32) &&& 31).toUInt32).toInt32)), .val (.int ((((1 : Int32) + (8 : Int32)) + (4 : Int32)) + (2 : Int32)))] []))
            refine own_st (fun _ kS => XS.iloadN X0.here hx rfl (hb hby own_d31_74) rfl kS) ?_
            show OFin p e below s _ _ _ (T0.setTop (mkF m 75 #[.val (.int ((((((((p1 ^^^ (-1 : Int32)) &&& (p1 - (1 : Int32))).toUInt32 >>> ((8 : Int32) &&& 31).toUInt32).toInt32).toUInt32 >>> ((4 : Int32) &&& 31).toUInt32).toInt32).toUInt32 >>> ((2 : Int32) &&& 31).toUInt32).toInt32)), .val (.int ((((1 : Int32) + (8 : Int32)) + (4 : Int32)) + (2 : Int32)))] [(.int ((((1 : Int32) + (8 : Int32)) + (4 : Int32)) + (2 : Int32)))]))
            refine own_st (fun _ kS => XS.iloadN X0.here hx rfl (hb hby own_d31_75) rfl kS) ?_
            show OFin p e below s _ _ _ (T0.setTop (mkF m 76 #[.val (.int ((((((((p1 ^^^ (-1 : Int32)) &&& (p1 - (1 : Int32))).toUInt32 >>> ((8 : Int32) &&& 31).toUInt32).toInt32).toUInt32 >>> ((4 : Int32) &&& 31).toUInt32).toInt32).toUInt32 >>> ((2 : Int32) &&& 31).toUInt32).toInt32)), .val (.int ((((1 : Int32) + (8 : Int32)) + (4 : Int32)) + (2 : Int32)))] [(.int ((((((((p1 ^^^ (-1 : Int32)) &&& (p1 - (1 : Int32))).toUInt32 >>> ((8 : Int32) &&& 31).toUInt32).toInt32).toUInt32 >>> ((4 : Int32) &&& 31).toUInt32).toInt32).toUInt32 >>> ((2 : Int32) &&& 31).toUInt32).toInt32)), (.int ((((1 : Int32) + (8 : Int32)) + (4 : Int32)) + (2 : Int32)))]))
            refine own_st (fun _ kS => XS.iconst X0.here hx rfl (hb hby own_d31_76) kS) ?_
            show OFin p e below s _ _ _ (T0.setTop (mkF m 77 #[.val (.int ((((((((p1 ^^^ (-1 : Int32)) &&& (p1 - (1 : Int32))).toUInt32 >>> ((8 : Int32) &&& 31).toUInt32).toInt32).toUInt32 >>> ((4 : Int32) &&& 31).toUInt32).toInt32).toUInt32 >>> ((2 : Int32) &&& 31).toUInt32).toInt32)), .val (.int ((((1 : Int32) + (8 : Int32)) + (4 : Int32)) + (2 : Int32)))] [(.int (1 : Int32)), (.int ((((((((p1 ^^^ (-1 : Int32)) &&& (p1 - (1 : Int32))).toUInt32 >>> ((8 : Int32) &&& 31).toUInt32).toInt32).toUInt32 >>> ((4 : Int32) &&& 31).toUInt32).toInt32).toUInt32 >>> ((2 : Int32) &&& 31).toUInt32).toInt32)), (.int ((((1 : Int32) + (8 : Int32)) + (4 : Int32)) + (2 : Int32)))]))
            refine own_st (fun _ kS => XS.iushr X0.here hx rfl (hb hby own_d31_77) rfl kS) ?_
            show OFin p e below s _ _ _ (T0.setTop (mkF m 78 #[.val (.int ((((((((p1 ^^^ (-1 : Int32)) &&& (p1 - (1 : Int32))).toUInt32 >>> ((8 : Int32) &&& 31).toUInt32).toInt32).toUInt32 >>> ((4 : Int32) &&& 31).toUInt32).toInt32).toUInt32 >>> ((2 : Int32) &&& 31).toUInt32).toInt32)), .val (.int ((((1 : Int32) + (8 : Int32)) + (4 : Int32)) + (2 : Int32)))] [(.int ((((((((((p1 ^^^ (-1 : Int32)) &&& (p1 - (1 : Int32))).toUInt32 >>> ((8 : Int32) &&& 31).toUInt32).toInt32).toUInt32 >>> ((4 : Int32) &&& 31).toUInt32).toInt32).toUInt32 >>> ((2 : Int32) &&& 31).toUInt32).toInt32).toUInt32 >>> ((1 : Int32) &&& 31).toUInt32).toInt32)), (.int ((((1 : Int32) + (8 : Int32)) + (4 : Int32)) + (2 : Int32)))]))
            refine own_st (fun _ kS => XS.iadd X0.here hx rfl (hb hby own_d31_78) rfl kS) ?_
            show OFin p e below s _ _ _ (T0.setTop (mkF m 79 #[.val (.int ((((((((p1 ^^^ (-1 : Int32)) &&& (p1 - (1 : Int32))).toUInt32 >>> ((8 : Int32) &&& 31).toUInt32).toInt32).toUInt32 >>> ((4 : Int32) &&& 31).toUInt32).toInt32).toUInt32 >>> ((2 : Int32) &&& 31).toUInt32).toInt32)), .val (.int ((((1 : Int32) + (8 : Int32)) + (4 : Int32)) + (2 : Int32)))] [(.int (((((1 : Int32) + (8 : Int32)) + (4 : Int32)) + (2 : Int32)) + ((((((((((p1 ^^^ (-1 : Int32)) &&& (p1 - (1 : Int32))).toUInt32 >>> ((8 : Int32) &&& 31).toUInt32).toInt32).toUInt32 >>> ((4 : Int32) &&& 31).toUInt32).toInt32).toUInt32 >>> ((2 : Int32) &&& 31).toUInt32).toInt32).toUInt32 >>> ((1 : Int32) &&& 31).toUInt32).toInt32)))]))
            exact own_ret X0 hx (t := .int) hret hlk rfl (Or.inl ⟨rfl, by simp, _, rfl⟩) (hb hby own_d31_79) (by decide) (by decide) ⟨by simp only [own_zi, own_z1, own_z2, own_z3, own_z4, own_ush, c1, c2, c3, c4, c5, if_true, if_false], e0, rfl⟩
          · refine own_st (fun _ kS => XS.icmpYes X0.here hx rfl (pc0 := 64) (pc' := 74) rfl (hb hby own_d31_64) rfl (flt c5).2.2.2 (by decide) (by decide) kS) ?_
            show OFin p e below s _ _ _ (T0.setTop (mkF m 74 #[.val (.int ((((((p1 ^^^ (-1 : Int32)) &&& (p1 - (1 : Int32))).toUInt32 >>> ((8 : Int32) &&& 31).toUInt32).toInt32).toUInt32 >>> ((4 : Int32) &&& 31).toUInt32).toInt32)), .val (.int (((1 : Int32) + (8 : Int32)) + (4 : Int32)))] []))
            refine own_st (fun _ kS => XS.iloadN X0.here hx rfl (hb hby own_d31_74) rfl kS) ?_
            show OFin p e below s _ _ _ (T0.setTop (mkF m 75 #[.val (.int ((((((p1 ^^^ (-1 : Int32)) &&& (p1 - (1 : Int32))).toUInt32 >>> ((8 : Int32) &&& 31).toUInt32).toInt32).toUInt32 >>> ((4 : Int32) &&& 31).toUInt32).toInt32)), .val (.int (((1 : Int32) + (8 : Int32)) + (4 : Int32)))] [(.int (((1 : Int32) + (8 : Int32)) + (4 : Int32)))]))
            refine own_st (fun _ kS => XS.iloadN X0.here hx rfl (hb hby own_d31_75) rfl kS) ?_
            show OFin p e below s _ _ _ (T0.setTop (mkF m 76 #[.val (.int ((((((p1 ^^^ (-1 : Int32)) &&& (p1 - (1 : Int32))).toUInt32 >>> ((8 : Int32) &&& 31).toUInt32).toInt32).toUInt32 >>> ((4 : Int32) &&& 31).toUInt32).toInt32)), .val (.int (((1 : Int32) + (8 : Int32)) + (4 : Int32)))] [(.int ((((((p1 ^^^ (-1 : Int32)) &&& (p1 - (1 : Int32))).toUInt32 >>> ((8 : Int32) &&& 31).toUInt32).toInt32).toUInt32 >>> ((4 : Int32) &&& 31).toUInt32).toInt32)), (.int (((1 : Int32) + (8 : Int32)) + (4 : Int32)))]))
            refine own_st (fun _ kS => XS.iconst X0.here hx rfl (hb hby own_d31_76) kS) ?_
            show OFin p e below s _ _ _ (T0.setTop (mkF m 77 #[.val (.int ((((((p1 ^^^ (-1 : Int32)) &&& (p1 - (1 : Int32))).toUInt32 >>> ((8 : Int32) &&& 31).toUInt32).toInt32).toUInt32 >>> ((4 : Int32) &&& 31).toUInt32).toInt32)), .val (.int (((1 : Int32) + (8 : Int32)) + (4 : Int32)))] [(.int (1 : Int32)), (.int ((((((p1 ^^^ (-1 : Int32)) &&& (p1 - (1 : Int32))).toUInt32 >>> ((8 : Int32) &&& 31).toUInt32).toInt32).toUInt32 >>> ((4 : Int32) &&& 31).toUInt32).toInt32)), (.int (((1 : Int32) + (8 : Int32)) + (4 : Int32)))]))
            refine own_st (fun _ kS => XS.iushr X0.here hx rfl (hb hby own_d31_77) rfl kS) ?_
            show OFin p e below s _ _ _ (T0.setTop (mkF m 78 #[.val (.int ((((((p1 ^^^ (-1 : Int32)) &&& (p1 - (1 : Int32))).toUInt32 >>> ((8 : Int32) &&& 31).toUInt32).toInt32).toUInt32 >>> ((4 : Int32) &&& 31).toUInt32).toInt32)), .val (.int (((1 : Int32) + (8 : Int32)) + (4 : Int32)))] [(.int ((((((((p1 ^^^ (-1 : Int32)) &&& (p1 - (1 : Int32))).toUInt32 >>> ((8 : Int32) &&& 31).toUInt32).toInt32).toUInt32 >>> ((4 : Int32) &&& 31).toUInt32).toInt32).toUInt32 >>> ((1 : Int32) &&& 31).toUInt32).toInt32)), (.int (((1 : Int32) + (8 : Int32)) + (4 : Int32)))]))
            refine own_st (fun _ kS => XS.iadd X0.here hx rfl (hb hby own_d31_78) rfl kS) ?_
            show OFin p e below s _ _ _ (T0.setTop (mkF m 79 #[.val (.int ((((((p1 ^^^ (-1 : Int32)) &&& (p1 - (1 : Int32))).toUInt32 >>> ((8 : Int32) &&& 31).toUInt32).toInt32).toUInt32 >>> ((4 : Int32) &&& 31).toUInt32).toInt32)), .val (.int (((1 : Int32) + (8 : Int32)) + (4 : Int32)))] [(.int ((((1 : Int32) + (8 : Int32)) + (4 : Int32)) + ((((((((p1 ^^^ (-1 : Int32)) &&& (p1 - (1 : Int32))).toUInt32 >>> ((8 : Int32) &&& 31).toUInt32).toInt32).toUInt32 >>> ((4 : Int32) &&& 31).toUInt32).toInt32).toUInt32 >>> ((1 : Int32) &&& 31).toUInt32).toInt32)))]))
            exact own_ret X0 hx (t := .int) hret hlk rfl (Or.inl ⟨rfl, by simp, _, rfl⟩) (hb hby own_d31_79) (by decide) (by decide) ⟨by simp only [own_zi, own_z1, own_z2, own_z3, own_z4, own_ush, c1, c2, c3, c4, c5, if_true, if_false], e0, rfl⟩
        · refine own_st (fun _ kS => XS.icmpYes X0.here hx rfl (pc0 := 52) (pc' := 62) rfl (hb hby own_d31_52) rfl (flt c4).2.2.2 (by decide) (by decide) kS) ?_
          show OFin p e below s _ _ _ (T0.setTop (mkF m 62 #[.val (.int ((((p1 ^^^ (-1 : Int32)) &&& (p1 - (1 : Int32))).toUInt32 >>> ((8 : Int32) &&& 31).toUInt32).toInt32)), .val (.int ((1 : Int32) + (8 : Int32)))] []))
          refine own_st (fun _ kS => XS.iloadN X0.here hx rfl (hb hby own_d31_62) rfl kS) ?_
          show OFin p e below s _ _ _ (T0.setTop (mkF m 63 #[.val (.int ((((p1 ^^^ (-1 : Int32)) &&& (p1 - (1 : Int32))).toUInt32 >>> ((8 : Int32) &&& 31).toUInt32).toInt32)), .val (.int ((1 : Int32) + (8 : Int32)))] [(.int ((((p1 ^^^ (-1 : Int32)) &&& (p1 - (1 : Int32))).toUInt32 >>> ((8 : Int32) &&& 31).toUInt32).toInt32))]))
          refine own_st (fun _ kS => XS.iconst X0.here hx rfl (hb hby own_d31_63) kS) ?_
          show OFin p e below s _ _ _ (T0.setTop (mkF m 64 #[.val (.int ((((p1 ^^^ (-1 : Int32)) &&& (p1 - (1 : Int32))).toUInt32 >>> ((8 : Int32) &&& 31).toUInt32).toInt32)), .val (.int ((1 : Int32) + (8 : Int32)))] [(.int (4 : Int32)), (.int ((((p1 ^^^ (-1 : Int32)) &&& (p1 - (1 : Int32))).toUInt32 >>> ((8 : Int32) &&& 31).toUInt32).toInt32))]))
          by_cases c5 : (4 : Int32) < ((((p1 ^^^ (-1 : Int32)) &&& (p1 - (1 : Int32))).toUInt32 >>> ((8 : Int32) &&& 31).toUInt32).toInt32)
          · refine own_st (fun _ kS => XS.icmpNo X0.here hx rfl (hb hby own_d31_64) rfl (tlt c5).2.2.2 kS) ?_
            show OFin p e below s _ _ _ (T0.setTop (mkF m 67 #[.val (.int ((((p1 ^^^ (-1 : Int32)) &&& (p1 - (1 : Int32))).toUInt32 >>> ((8 : Int32) &&& 31).toUInt32).toInt32)), .val (.int ((1 : Int32) + (8 : Int32)))] []))
            refine own_st (fun _ kS => XS.iinc X0.here hx rfl (hb hby own_d31_67) rfl (l' := #[.val (.int ((((p1 ^^^ (-1 : Int32)) &&& (p1 - (1 : Int32))).toUInt32 >>> ((8 : Int32) &&& 31).toUInt32).toInt32)), .val (.int (((1 : Int32) + (8 : Int32)) + (2 : Int32)))]) rfl kS) ?_
            show OFin p e below s _ _ _ (T0.setTop (mkF m 70 #[.val (.int ((((p1 ^^^ (-1 : Int32)) &&& (p1 - (1 : Int32))).toUInt32 >>> ((8 : Int32) &&& 31).toUInt32).toInt32)), .val (.int (((1 : Int32) + (8 : Int32)) + (2 : Int32)))] []))
            refine own_st (fun _ kS => XS.iloadN X0.here hx rfl (hb hby own_d31_70) rfl kS) ?_
            show OFin p e below s _ _ _ (T0.setTop (mkF m 71 #[.val (.int ((((p1 ^^^ (-1 : Int32)) &&& (p1 - (1 : Int32))).toUInt32 >>> ((8 : Int32) &&& 31).toUInt32).toInt32)), .val (.int (((1 : Int32) + (8 : Int32)) + (2 : Int32)))] [(.int ((((p1 ^^^ (-1 : Int32)) &&& (p1 - (1 : Int32))).toUInt32 >>> ((8 : Int32) &&& 31).toUInt32).toInt32))]))
            refine own_st (fun _ kS => XS.iconst X0.here hx rfl (hb hby own_d31_71) kS) ?_
            show OFin p e below s _ _ _ (T0.setTop (mkF m 72 #[.val (.int ((((p1 ^^^ (-1 : Int32)) &&& (p1 - (1 : Int32))).toUInt32 >>> ((8 : Int32) &&& 31).toUInt32).toInt32)), .val (.int (((1 : Int32) + (8 : Int32)) + (2 : Int32)))] [(.int (2 : Int32)), (.int ((((p1 ^^^ (-1 : Int32)) &&& (p1 - (1 : Int32))).toUInt32 >>> ((8 : Int32) &&& 31).toUInt32).toInt32))]))
            refine own_st (fun _ kS => XS.iushr X0.here hx rfl (hb hby own_d31_72) rfl kS) ?_
            show OFin p e below s _ _ _ (T0.setTop (mkF m 73 #[.val (.int ((((p1 ^^^ (-1 : Int32)) &&& (p1 - (1 : Int32))).toUInt32 >>> ((8 : Int32) &&& 31).toUInt32).toInt32)), .val (.int (((1 : Int32) + (8 : Int32)) + (2 : Int32)))] [(.int ((((((p1 ^^^ (-1 : Int32)) &&& (p1 - (1 : Int32))).toUInt32 >>> ((8 : Int32) &&& 31).toUInt32).toInt32).toUInt32 >>> ((2 : Int32) &&& 31).toUInt32).toInt32))]))
            refine own_st (fun _ kS => XS.istoreN X0.here hx rfl (hb hby own_d31_73) rfl (l' := #[.val (.int ((((((p1 ^^^ (-1 : Int32)) &&& (p1 - (1 : Int32))).toUInt32 >>> ((8 : Int32) &&& 31).toUInt32).toInt32).toUInt32 >>> ((2 : Int32) &&& 31).toUInt32).toInt32)), .val (.int (((1 : Int32) + (8 : Int32)) + (2 : Int32)))]) rfl kS) ?_
            show OFin p e below s _ _ _ (T0.setTop (mkF m 74 #[.val (.int ((((((p1 ^^^ (-1 : Int32)) &&& (p1 - (1 : Int32))).toUInt32 >>> ((8 : Int32) &&& 31).toUInt32).toInt32).toUInt32 >>> ((2 : Int32) &&& 31).toUInt32).toInt32)), .val (.int (((1 : Int32) + (8 : Int32)) + (2 : Int32)))] []))
            refine own_st (fun _ kS => XS.iloadN X0.here hx rfl (hb hby own_d31_74) rfl kS) ?_
            show OFin p e below s _ _ _ (T0.setTop (mkF m 75 #[.val (.int ((((((p1 ^^^ (-1 : Int32)) &&& (p1 - (1 : Int32))).toUInt32 >>> ((8 : Int32) &&& 31).toUInt32).toInt32).toUInt32 >>> ((2 : Int32) &&& 31).toUInt32).toInt32)), .val (.int (((1 : Int32) + (8 : Int32)) + (2 : Int32)))] [(.int (((1 : Int32) + (8 : Int32)) + (2 : Int32)))]))
            refine own_st (fun _ kS => XS.iloadN X0.here hx rfl (hb hby own_d31_75) rfl kS) ?_
            show OFin p e below s _ _ _ (T0.setTop (mkF m 76 #[.val (.int ((((((p1 ^^^ (-1 : Int32)) &&& (p1 - (1 : Int32))).toUInt32 >>> ((8 : Int32) &&& 31).toUInt32).toInt32).toUInt32 >>> ((2 : Int32) &&& 31).toUInt32).toInt32)), .val (.int (((1 : Int32) + (8 : Int32)) + (2 : Int32)))] [(.int ((((((p1 ^^^ (-1 : Int32)) &&& (p1 - (1 : Int32))).toUInt32 >>> ((8 : Int32) &&& 31).toUInt32).toInt32).toUInt32 >>> ((2 : Int32) &&& 31).toUInt32).toInt32)), (.int (((1 : Int32) + (8 : Int32)) + (2 : Int32)))]))
            refine own_st (fun _ kS => XS.iconst X0.here hx rfl (hb hby own_d31_76) kS) ?_
            show OFin p e below s _ _ _ (T0.setTop (mkF m 77 #[.val (.int ((((((p1 ^^^ (-1 : Int32)) &&& (p1 - (1 : Int32))).toUInt32 >>> ((8 : Int32) &&& 31).toUInt32).toInt32).toUInt32 >>> ((2 : Int32) &&& 31).toUInt32).toInt32)), .val (.int (((1 : Int32) + (8 : Int32)) + (2 : Int32)))] [(.int (1 : Int32)), (.int ((((((p1 ^^^ (-1 : Int32)) &&& (p1 - (1 : Int32))).toUInt32 >>> ((8 : Int32) &&& 31).toUInt32).toInt32).toUInt32 >>> ((2 : Int32) &&& 31).toUInt32).toInt32)), (.int (((1 : Int32) + (8 : Int32)) + (2 : Int32)))]))
            refine own_st (fun _ kS => XS.iushr X0.here hx rfl (hb hby own_d31_77) rfl kS) ?_
            show OFin p e below s _ _ _ (T0.setTop (mkF m 78 #[.val (.int ((((((p1 ^^^ (-1 : Int32)) &&& (p1 - (1 : Int32))).toUInt32 >>> ((8 : Int32) &&& 31).toUInt32).toInt32).toUInt32 >>> ((2 : Int32) &&& 31).toUInt32).toInt32)), .val (.int (((1 : Int32) + (8 : Int32)) + (2 : Int32)))] [(.int ((((((((p1 ^^^ (-1 : Int32)) &&& (p1 - (1 : Int32))).toUInt32 >>> ((8 : Int32) &&& 31).toUInt32).toInt32).toUInt32 >>> ((2 : Int32) &&& 31).toUInt32).toInt32).toUInt32 >>> ((1 : Int32) &&& 31).toUInt32).toInt32)), (.int (((1 : Int32) + (8 : Int32)) + (2 : Int32)))]))
            refine own_st (fun _ kS => XS.iadd X0.here hx rfl (hb hby own_d31_78) rfl kS) ?_
            show OFin p e below s _ _ _ (T0.setTop (mkF m 79 #[.val (.int ((((((p1 ^^^ (-1 : Int32)) &&& (p1 - (1 : Int32))).toUInt32 >>> ((8 : Int32) &&& 31).toUInt32).toInt32).toUInt32 >>> ((2 : Int32) &&& 31).toUInt32).toInt32)), .val (.int (((1 : Int32) + (8 : Int32)) + (2 : Int32)))] [(.int ((((1 : Int32) + (8 : Int32)) + (2 : Int32)) + ((((((((p1 ^^^ (-1 : Int32)) &&& (p1 - (1 : Int32))).toUInt32 >>> ((8 : Int32) &&& 31).toUInt32).toInt32).toUInt32 >>> ((2 : Int32) &&& 31).toUInt32).toInt32).toUInt32 >>> ((1 : Int32) &&& 31).toUInt32).toInt32)))]))
            exact own_ret X0 hx (t := .int) hret hlk rfl (Or.inl ⟨rfl, by simp, _, rfl⟩) (hb hby own_d31_79) (by decide) (by decide) ⟨by simp only [own_zi, own_z1, own_z2, own_z3, own_z4, own_ush, c1, c2, c3, c4, c5, if_true, if_false], e0, rfl⟩
          · refine own_st (fun _ kS => XS.icmpYes X0.here hx rfl (pc0 := 64) (pc' := 74) rfl (hb hby own_d31_64) rfl (flt c5).2.2.2 (by decide) (by decide) kS) ?_
            show OFin p e below s _ _ _ (T0.setTop (mkF m 74 #[.val (.int ((((p1 ^^^ (-1 : Int32)) &&& (p1 - (1 : Int32))).toUInt32 >>> ((8 : Int32) &&& 31).toUInt32).toInt32)), .val (.int ((1 : Int32) + (8 : Int32)))] []))
            refine own_st (fun _ kS => XS.iloadN X0.here hx rfl (hb hby own_d31_74) rfl kS) ?_
            show OFin p e below s _ _ _ (T0.setTop (mkF m 75 #[.val (.int ((((p1 ^^^ (-1 : Int32)) &&& (p1 - (1 : Int32))).toUInt32 >>> ((8 : Int32) &&& 31).toUInt32).toInt32)), .val (.int ((1 : Int32) + (8 : Int32)))] [(.int ((1 : Int32) + (8 : Int32)))]))
            refine own_st (fun _ kS => XS.iloadN X0.here hx rfl (hb hby own_d31_75) rfl kS) ?_
            show OFin p e below s _ _ _ (T0.setTop (mkF m 76 #[.val (.int ((((p1 ^^^ (-1 : Int32)) &&& (p1 - (1 : Int32))).toUInt32 >>> ((8 : Int32) &&& 31).toUInt32).toInt32)), .val (.int ((1 : Int32) + (8 : Int32)))] [(.int ((((p1 ^^^ (-1 : Int32)) &&& (p1 - (1 : Int32))).toUInt32 >>> ((8 : Int32) &&& 31).toUInt32).toInt32)), (.int ((1 : Int32) + (8 : Int32)))]))
            refine own_st (fun _ kS => XS.iconst X0.here hx rfl (hb hby own_d31_76) kS) ?_
            show OFin p e below s _ _ _ (T0.setTop (mkF m 77 #[.val (.int ((((p1 ^^^ (-1 : Int32)) &&& (p1 - (1 : Int32))).toUInt32 >>> ((8 : Int32) &&& 31).toUInt32).toInt32)), .val (.int ((1 : Int32) + (8 : Int32)))] [(.int (1 : Int32)), (.int ((((p1 ^^^ (-1 : Int32)) &&& (p1 - (1 : Int32))).toUInt32 >>> ((8 : Int32) &&& 31).toUInt32).toInt32)), (.int ((1 : Int32) + (8 : Int32)))]))
            refine own_st (fun _ kS => XS.iushr X0.here hx rfl (hb hby own_d31_77) rfl kS) ?_
            show OFin p e below s _ _ _ (T0.setTop (mkF m 78 #[.val (.int ((((p1 ^^^ (-1 : Int32)) &&& (p1 - (1 : Int32))).toUInt32 >>> ((8 : Int32) &&& 31).toUInt32).toInt32)), .val (.int ((1 : Int32) + (8 : Int32)))] [(.int ((((((p1 ^^^ (-1 : Int32)) &&& (p1 - (1 : Int32))).toUInt32 >>> ((8 : Int32) &&& 31).toUInt32).toInt32).toUInt32 >>> ((1 : Int32) &&& 31).toUInt32).toInt32)), (.int ((1 : Int32) + (8 : Int32)))]))
            refine own_st (fun _ kS => XS.iadd X0.here hx rfl (hb hby own_d31_78) rfl kS) ?_
            show OFin p e below s _ _ _ (T0.setTop (mkF m 79 #[.val (.int ((((p1 ^^^ (-1 : Int32)) &&& (p1 - (1 : Int32))).toUInt32 >>> ((8 : Int32) &&& 31).toUInt32).toInt32)), .val (.int ((1 : Int32) + (8 : Int32)))] [(.int (((1 : Int32) + (8 : Int32)) + ((((((p1 ^^^ (-1 : Int32)) &&& (p1 - (1 : Int32))).toUInt32 >>> ((8 : Int32) &&& 31).toUInt32).toInt32).toUInt32 >>> ((1 : Int32) &&& 31).toUInt32).toInt32)))]))
            exact own_ret X0 hx (t := .int) hret hlk rfl (Or.inl ⟨rfl, by simp, _, rfl⟩) (hb hby own_d31_79) (by decide) (by decide) ⟨by simp only [own_zi, own_z1, own_z2, own_z3, own_z4, own_ush, c1, c2, c3, c4, c5, if_true, if_false], e0, rfl⟩
      · refine own_st (fun _ kS => XS.icmpYes X0.here hx rfl (pc0 := 38) (pc' := 49) rfl (hb hby own_d31_38) rfl (flt c3).2.2.2 (by decide) (by decide) kS) ?_
        show OFin p e below s _ _ _ (T0.setTop (mkF m 49 #[.val (.int ((p1 ^^^ (-1 : Int32)) &&& (p1 - (1 : Int32)))), .val (.int (1 : Int32))] []))
        refine own_st (fun _ kS => XS.iloadN X0.here hx rfl (hb hby own_d31_49) rfl kS) ?_
        show OFin p e below s _ _ _ (T0.setTop (mkF m 50 #[.val (.int ((p1 ^^^ (-1 : Int32)) &&& (p1 - (1 : Int32)))), .val (.int (1 : Int32))] [(.int ((p1 ^^^ (-1 : Int32)) &&& (p1 - (1 : Int32))))]))
        refine own_st (fun _ kS => XS.bipush X0.here hx rfl (hb hby own_d31_50) kS) ?_
        show OFin p e below s _ _ _ (T0.setTop (mkF m 52 #[.val (.int ((p1 ^^^ (-1 : Int32)) &&& (p1 - (1 : Int32)))), .val (.int (1 : Int32))] [(.int (16 : Int32)), (.int ((p1 ^^^ (-1 : Int32)) &&& (p1 - (1 : Int32))))]))
        by_cases c4 : (16 : Int32) < ((p1 ^^^ (-1 : Int32)) &&& (p1 - (1 : Int32)))
        · refine own_st (fun _ kS => XS.icmpNo X0.here hx rfl (hb hby own_d31_52) rfl (tlt c4).2.2.2 kS) ?_
          show OFin p e below s _ _ _ (T0.setTop (mkF m 55 #[.val (.int ((p1 ^^^ (-1 : Int32)) &&& (p1 - (1 : Int32)))), .val (.int (1 : Int32))] []))
          refine own_st (fun _ kS => XS.iinc X0.here hx rfl (hb hby own_d31_55) rfl (l' := #[.val (.int ((p1 ^^^ (-1 : Int32)) &&& (p1 - (1 : Int32)))), .val (.int ((1 : Int32) + (4 : Int32)))]) rfl kS) ?_
          show OFin p e below s _ _ _ (T0.setTop (mkF m 58 #[.val (.int ((p1 ^^^ (-1 : Int32)) &&& (p1 - (1 : Int32)))), .val (.int ((1 : Int32) + (4 : Int32)))] []))
          refine own_st (fun _ kS => XS.iloadN X0.here hx rfl (hb hby own_d31_58) rfl kS) ?_
          show OFin p e below s _ _ _ (T0.setTop (mkF m 59 #[.val (.int ((p1 ^^^ (-1 : Int32)) &&& (p1 - (1 : Int32)))), .val (.int ((1 : Int32) + (4 : Int32)))] [(.int ((p1 ^^^ (-1 : Int32)) &&& (p1 - (1 : Int32))))]))
          refine own_st (fun _ kS => XS.iconst X0.here hx rfl (hb hby own_d31_59) kS) ?_
          show OFin p e below s _ _ _ (T0.setTop (mkF m 60 #[.val (.int ((p1 ^^^ (-1 : Int32)) &&& (p1 - (1 : Int32)))), .val (.int ((1 : Int32) + (4 : Int32)))] [(.int (4 : Int32)), (.int ((p1 ^^^ (-1 : Int32)) &&& (p1 - (1 : Int32))))]))
          refine own_st (fun _ kS => XS.iushr X0.here hx rfl (hb hby own_d31_60) rfl kS) ?_
          show OFin p e below s _ _ _ (T0.setTop (mkF m 61 #[.val (.int ((p1 ^^^ (-1 : Int32)) &&& (p1 - (1 : Int32)))), .val (.int ((1 : Int32) + (4 : Int32)))] [(.int ((((p1 ^^^ (-1 : Int32)) &&& (p1 - (1 : Int32))).toUInt32 >>> ((4 : Int32) &&& 31).toUInt32).toInt32))]))
          refine own_st (fun _ kS => XS.istoreN X0.here hx rfl (hb hby own_d31_61) rfl (l' := #[.val (.int ((((p1 ^^^ (-1 : Int32)) &&& (p1 - (1 : Int32))).toUInt32 >>> ((4 : Int32) &&& 31).toUInt32).toInt32)), .val (.int ((1 : Int32) + (4 : Int32)))]) rfl kS) ?_
          show OFin p e below s _ _ _ (T0.setTop (mkF m 62 #[.val (.int ((((p1 ^^^ (-1 : Int32)) &&& (p1 - (1 : Int32))).toUInt32 >>> ((4 : Int32) &&& 31).toUInt32).toInt32)), .val (.int ((1 : Int32) + (4 : Int32)))] []))
          refine own_st (fun _ kS => XS.iloadN X0.here hx rfl (hb hby own_d31_62) rfl kS) ?_
          show OFin p e below s _ _ _ (T0.setTop (mkF m 63 #[.val (.int ((((p1 ^^^ (-1 : Int32)) &&& (p1 - (1 : Int32))).toUInt32 >>> ((4 : Int32) &&& 31).toUInt32).toInt32)), .val (.int ((1 : Int32) + (4 : Int32)))] [(.int ((((p1 ^^^ (-1 : Int32)) &&& (p1 - (1 : Int32))).toUInt32 >>> ((4 : Int32) &&& 31).toUInt32).toInt32))]))
          refine own_st (fun _ kS => XS.iconst X0.here hx rfl (hb hby own_d31_63) kS) ?_
          show OFin p e below s _ _ _ (T0.setTop (mkF m 64 #[.val (.int ((((p1 ^^^ (-1 : Int32)) &&& (p1 - (1 : Int32))).toUInt32 >>> ((4 : Int32) &&& 31).toUInt32).toInt32)), .val (.int ((1 : Int32) + (4 : Int32)))] [(.int (4 : Int32)), (.int ((((p1 ^^^ (-1 : Int32)) &&& (p1 - (1 : Int32))).toUInt32 >>> ((4 : Int32) &&& 31).toUInt32).toInt32))]))
          by_cases c5 : (4 : Int32) < ((((p1 ^^^ (-1 : Int32)) &&& (p1 - (1 : Int32))).toUInt32 >>> ((4 : Int32) &&& 31).toUInt32).toInt32)
          · refine own_st (fun _ kS => XS.icmpNo X0.here hx rfl (hb hby own_d31_64) rfl (tlt c5).2.2.2 kS) ?_
            show OFin p e below s _ _ _ (T0.setTop (mkF m 67 #[.val (.int ((((p1 ^^^ (-1 : Int32)) &&& (p1 - (1 : Int32))).toUInt32 >>> ((4 : Int32) &&& 31).toUInt32).toInt32)), .val (.int ((1 : Int32) + (4 : Int32)))] []))
            refine own_st (fun _ kS => XS.iinc X0.here hx rfl (hb hby own_d31_67) rfl (l' := #[.val (.int ((((p1 ^^^ (-1 : Int32)) &&& (p1 - (1 : Int32))).toUInt32 >>> ((4 : Int32) &&& 31).toUInt32).toInt32)), .val (.int (((1 : Int32) + (4 : Int32)) + (2 : Int32)))]) rfl kS) ?_
            show OFin p e below s _ _ _ (T0.setTop (mkF m 70 #[.val (.int ((((p1 ^^^ (-1 : Int32)) &&& (p1 - (1 : Int32))).toUInt32 >>> ((4 : Int32) &&& 31).toUInt32).toInt32)), .val (.int (((1 : Int32) + (4 : Int32)) + (2 : Int32)))] []))
            refine own_st (fun _ kS => XS.iloadN X0.here hx rfl (hb hby own_d31_70) rfl kS) ?_
            show OFin p e below s _ _ _ (T0.setTop (mkF m 71 #[.val (.int ((((p1 ^^^ (-1 : Int32)) &&& (p1 - (1 : Int32))).toUInt32 >>> ((4 : Int32) &&& 31).toUInt32).toInt32)), .val (.int (((1 : Int32) + (4 : Int32)) + (2 : Int32)))] [(.int ((((p1 ^^^ (-1 : Int32)) &&& (p1 - (1 : Int32))).toUInt32 >>> ((4 : Int32) &&& 31).toUInt32).toInt32))]))
            refine own_st (fun _ kS => XS.iconst X0.here hx rfl (hb hby own_d31_71) kS) ?_
            show OFin p e below s _ _ _ (T0.setTop (mkF m 72 #[.val (.int ((((p1 ^^^ (-1 : Int32)) &&& (p1 - (1 : Int32))).toUInt32 >>> ((4 : Int32) &&& 31).toUInt32).toInt32)), .val (.int (((1 : Int32) + (4 : Int32)) + (2 : Int32)))] [(.int (2 : Int32)), (.int ((((p1 ^^^ (-1 : Int32)) &&& (p1 - (1 : Int32))).toUInt32 >>> ((4 : Int32) &&& 31).toUInt32).toInt32))]))
            refine own_st (fun _ kS => XS.iushr X0.here hx rfl (hb hby own_d31_72) rfl kS) ?_
            show OFin p e below s _ _ _ (T0.setTop (mkF m 73 #[.val (.int ((((p1 ^^^ (-1 : Int32)) &&& (p1 - (1 : Int32))).toUInt32 >>> ((4 : Int32) &&& 31).toUInt32).toInt32)), .val (.int (((1 : Int32) + (4 : Int32)) + (2 : Int32)))] [(.int ((((((p1 ^^^ (-1 : Int32)) &&& (p1 - (1 : Int32))).toUInt32 >>> ((4 : Int32) &&& 31).toUInt32).toInt32).toUInt32 >>> ((2 : Int32) &&& 31).toUInt32).toInt32))]))
            refine own_st (fun _ kS => XS.istoreN X0.here hx rfl (hb hby own_d31_73) rfl (l' := #[.val (.int ((((((p1 ^^^ (-1 : Int32)) &&& (p1 - (1 : Int32))).toUInt32 >>> ((4 : Int32) &&& 31).toUInt32).toInt32).toUInt32 >>> ((2 : Int32) &&& 31).toUInt32).toInt32)), .val (.int (((1 : Int32) + (4 : Int32)) + (2 : Int32)))]) rfl kS) ?_
            show OFin p e below s _ _ _ (T0.setTop (mkF m 74 #[.val (.int ((((((p1 ^^^ (-1 : Int32)) &&& (p1 - (1 : Int32))).toUInt32 >>> ((4 : Int32) &&& 31).toUInt32).toInt32).toUInt32 >>> ((2 : Int32) &&& 31).toUInt32).toInt32)), .val (.int (((1 : Int32) + (4 : Int32)) + (2 : Int32)))] []))
            refine own_st (fun _ kS => XS.iloadN X0.here hx rfl (hb hby own_d31_74) rfl kS) ?_
            show OFin p e below s _ _ _ (T0.setTop (mkF m 75 #[.val (.int ((((((p1 ^^^ (-1 : Int32)) &&& (p1 - (1 : Int32))).toUInt32 >>> ((4 : Int32) &&& 31).toUInt32).toInt32).toUInt32 >>> ((2 : Int32) &&& 31).toUInt32).toInt32)), .val (.int (((1 : Int32) + (4 : Int32)) + (2 : Int32)))] [(.int (((1 : Int32) + (4 : Int32)) + (2 : Int32)))]))
            refine own_st (fun _ kS => XS.iloadN X0.here hx rfl (hb hby own_d31_75) rfl kS) ?_
            show OFin p e below s _ _ _ (T0.setTop (mkF m 76 #[.val (.int ((((((p1 ^^^ (-1 : Int32)) &&& (p1 - (1 : Int32))).toUInt32 >>> ((4 : Int32) &&& 31).toUInt32).toInt32).toUInt32 >>> ((2 : Int32) &&& 31).toUInt32).toInt32)), .val (.int (((1 : Int32) + (4 : Int32)) + (2 : Int32)))] [(.int ((((((p1 ^^^ (-1 : Int32)) &&& (p1 - (1 : Int32))).toUInt32 >>> ((4 : Int32) &&& 31).toUInt32).toInt32).toUInt32 >>> ((2 : Int32) &&& 31).toUInt32).toInt32)), (.int (((1 : Int32) + (4 : Int32)) + (2 : Int32)))]))
            refine own_st (fun _ kS => XS.iconst X0.here hx rfl (hb hby own_d31_76) kS) ?_
            show OFin p e below s _ _ _ (T0.setTop (mkF m 77 #[.val (.int ((((((p1 ^^^ (-1 : Int32)) &&& (p1 - (1 : Int32))).toUInt32 >>> ((4 : Int32) &&& 31).toUInt32).toInt32).toUInt32 >>> ((2 : Int32) &&& 31).toUInt32).toInt32)), .val (.int (((1 : Int32) + (4 : Int32)) + (2 : Int32)))] [(.int (1 : Int32)), (.int ((((((p1 ^^^ (-1 : Int32)) &&& (p1 - (1 : Int32))).toUInt32 >>> ((4 : Int32) &&& 31).toUInt32).toInt32).toUInt32 >>> ((2 : Int32) &&& 31).toUInt32).toInt32)), (.int (((1 : Int32) + (4 : Int32)) + (2 : Int32)))]))
            refine own_st (fun _ kS => XS.iushr X0.here hx rfl (hb hby own_d31_77) rfl kS) ?_
            show OFin p e below s _ _ _ (T0.setTop (mkF m 78 #[.val (.int ((((((p1 ^^^ (-1 : Int32)) &&& (p1 - (1 : Int32))).toUInt32 >>> ((4 : Int32) &&& 31).toUInt32).toInt32).toUInt32 >>> ((2 : Int32) &&& 31).toUInt32).toInt32)), .val (.int (((1 : Int32) + (4 : Int32)) + (2 : Int32)))] [(.int ((((((((p1 ^^^ (-1 : Int32)) &&& (p1 - (1 : Int32))).toUInt32 >>> ((4 : Int32) &&& 31).toUInt32).toInt32).toUInt32 >>> ((2 : Int32) &&& 31).toUInt32).toInt32).toUInt32 >>> ((1 : Int32) &&& 31).toUInt32).toInt32)), (.int (((1 : Int32) + (4 : Int32)) + (2 : Int32)))]))
            refine own_st (fun _ kS => XS.iadd X0.here hx rfl (hb hby own_d31_78) rfl kS) ?_
            show OFin p e below s _ _ _ (T0.setTop (mkF m 79 #[.val (.int ((((((p1 ^^^ (-1 : Int32)) &&& (p1 - (1 : Int32))).toUInt32 >>> ((4 : Int32) &&& 31).toUInt32).toInt32).toUInt32 >>> ((2 : Int32) &&& 31).toUInt32).toInt32)), .val (.int (((1 : Int32) + (4 : Int32)) + (2 : Int32)))] [(.int ((((1 : Int32) + (4 : Int32)) + (2 : Int32)) + ((((((((p1 ^^^ (-1 : Int32)) &&& (p1 - (1 : Int32))).toUInt32 >>> ((4 : Int32) &&& 31).toUInt32).toInt32).toUInt32 >>> ((2 : Int32) &&& 31).toUInt32).toInt32).toUInt32 >>> ((1 : Int32) &&& 31).toUInt32).toInt32)))]))
            exact own_ret X0 hx (t := .int) hret hlk rfl (Or.inl ⟨rfl, by simp, _, rfl⟩) (hb hby own_d31_79) (by decide) (by decide) ⟨by simp only [own_zi, own_z1, own_z2, own_z3, own_z4, own_ush, c1, c2, c3, c4, c5, if_true, if_false], e0, rfl⟩
          · refine own_st (fun _ kS => XS.icmpYes X0.here hx rfl (pc0 := 64) (pc' := 74) rfl (hb hby own_d31_64) rfl (flt c5).2.2.2 (by decide) (by decide) kS) ?_
            show OFin p e below s _ _ _ (T0.setTop (mkF m 74 #[.val (.int ((((p1 ^^^ (-1 : Int32)) &&& (p1 - (1 : Int32))).toUInt32 >>> ((4 : Int32) &&& 31).toUInt32).toInt32)), .val (.int ((1 : Int32) + (4 : Int32)))] []))
            refine own_st (fun _ kS => XS.iloadN X0.here hx rfl (hb hby own_d31_74) rfl kS) ?_
            show OFin p e below s _ _ _ (T0.setTop (mkF m 75 #[.val (.int ((((p1 ^^^ (-1 : Int32)) &&& (p1 - (1 : Int32))).toUInt32 >>> ((4 : Int32) &&& 31).toUInt32).toInt32)), .val (.int ((1 : Int32) + (4 : Int32)))] [(.int ((1 : Int32) + (4 : Int32)))]))
            refine own_st (fun _ kS => XS.iloadN X0.here hx rfl (hb hby own_d31_75) rfl kS) ?_
            show OFin p e below s _ _ _ (T0.setTop (mkF m 76 #[.val (.int ((((p1 ^^^ (-1 : Int32)) &&& (p1 - (1 : Int32))).toUInt32 >>> ((4 : Int32) &&& 31).toUInt32).toInt32)), .val (.int ((1 : Int32) + (4 : Int32)))] [(.int ((((p1 ^^^ (-1 : Int32)) &&& (p1 - (1 : Int32))).toUInt32 >>> ((4 : Int32) &&& 31).toUInt32).toInt32)), (.int ((1 : Int32) + (4 : Int32)))]))
            refine own_st (fun _ kS => XS.iconst X0.here hx rfl (hb hby own_d31_76) kS) ?_
            show OFin p e below s _ _ _ (T0.setTop (mkF m 77 #[.val (.int ((((p1 ^^^ (-1 : Int32)) &&& (p1 - (1 : Int32))).toUInt32 >>> ((4 : Int32) &&& 31).toUInt32).toInt32)), .val (.int ((1 : Int32) + (4 : Int32)))] [(.int (1 : Int32)), (.int ((((p1 ^^^ (-1 : Int32)) &&& (p1 - (1 : Int32))).toUInt32 >>> ((4 : Int32) &&& 31).toUInt32).toInt32)), (.int ((1 : Int32) + (4 : Int32)))]))
            refine own_st (fun _ kS => XS.iushr X0.here hx rfl (hb hby own_d31_77) rfl kS) ?_
            show OFin p e below s _ _ _ (T0.setTop (mkF m 78 #[.val (.int ((((p1 ^^^ (-1 : Int32)) &&& (p1 - (1 : Int32))).toUInt32 >>> ((4 : Int32) &&& 31).toUInt32).toInt32)), .val (.int ((1 : Int32) + (4 : Int32)))] [(.int ((((((p1 ^^^ (-1 : Int32)) &&& (p1 - (1 : Int32))).toUInt32 >>> ((4 : Int32) &&& 31).toUInt32).toInt32).toUInt32 >>> ((1 : Int32) &&& 31).toUInt32).toInt32)), (.int ((1 : Int32) + (4 : Int32)))]))
            refine own_st (fun _ kS => XS.iadd X0.here hx rfl (hb hby own_d31_78) rfl kS) ?_
            show OFin p e below s _ _ _ (T0.setTop (mkF m 79 #[.val (.int ((((p1 ^^^ (-1 : Int32)) &&& (p1 - (1 : Int32))).toUInt32 >>> ((4 : Int32) &&& 31).toUInt32).toInt32)), .val (.int ((1 : Int32) + (4 : Int32)))] [(.int (((1 : Int32) + (4 : Int32)) + ((((((p1 ^^^ (-1 : Int32)) &&& (p1 - (1 : Int32))).toUInt32 >>> ((4 : Int32) &&& 31).toUInt32).toInt32).toUInt32 >>> ((1 : Int32) &&& 31).toUInt32).toInt32)))]))
            exact own_ret X0 hx (t := .int) hret hlk rfl (Or.inl ⟨rfl, by simp, _, rfl⟩) (hb hby own_d31_79) (by decide) (by decide) ⟨by simp only [own_zi, own_z1, own_z2, own_z3, own_z4, own_ush, c1, c2, c3, c4, c5, if_true, if_false], e0, rfl⟩
        · refine own_st (fun _ kS => XS.icmpYes X0.here hx rfl (pc0 := 52) (pc' := 62) rfl (hb hby own_d31_52) rfl (flt c4).2.2.2 (by decide) (by decide) kS) ?_
          show OFin p e below s _ _ _ (T0.setTop (mkF m 62 #[.val (.int ((p1 ^^^ (-1 : Int32)) &&& (p1 - (1 : Int32)))), .val (.int (1 : Int32))] []))
          refine own_st (fun _ kS => XS.iloadN X0.here hx rfl (hb hby own_d31_62) rfl kS) ?_
          show OFin p e below s _ _ _ (T0.setTop (mkF m 63 #[.val (.int ((p1 ^^^ (-1 : Int32)) &&& (p1 - (1 : Int32)))), .val (.int (1 : Int32))] [(.int ((p1 ^^^ (-1 : Int32)) &&& (p1 - (1 : Int32))))]))
          refine own_st (fun _ kS => XS.iconst X0.here hx rfl (hb hby own_d31_63) kS) ?_
          show OFin p e below s _ _ _ (T0.setTop (mkF m 64 #[.val (.int ((p1 ^^^ (-1 : Int32)) &&& (p1 - (1 : Int32)))), .val (.int (1 : Int32))] [(.int (4 : Int32)), (.int ((p1 ^^^ (-1 : Int32)) &&& (p1 - (1 : Int32))))]))
          by_cases c5 : (4 : Int32) < ((p1 ^^^ (-1 : Int32)) &&& (p1 - (1 : Int32)))
          · refine own_st (fun _ kS => XS.icmpNo X0.here hx rfl (hb hby own_d31_64) rfl (tlt c5).2.2.2 kS) ?_
            show OFin p e below s _ _ _ (T0.setTop (mkF m 67 #[.val (.int ((p1 ^^^ (-1 : Int32)) &&& (p1 - (1 : Int32)))), .val (.int (1 : Int32))] []))
            refine own_st (fun _ kS => XS.iinc X0.here hx rfl (hb hby own_d31_67) rfl (l' := #[.val (.int ((p1 ^^^ (-1 : Int32)) &&& (p1 - (1 : Int32)))), .val (.int ((1 : Int32) + (2 : Int32)))]) rfl kS) ?_
            show OFin p e below s _ _ _ (T0.setTop (mkF m 70 #[.val (.int ((p1 ^^^ (-1 : Int32)) &&& (p1 - (1 : Int32)))), .val (.int ((1 : Int32) + (2 : Int32)))] []))
            refine own_st (fun _ kS => XS.iloadN X0.here hx rfl (hb hby own_d31_70) rfl kS) ?_
            show OFin p e below s _ _ _ (T0.setTop (mkF m 71 #[.val (.int ((p1 ^^^ (-1 : Int32)) &&& (p1 - (1 : Int32)))), .val (.int ((1 : Int32) + (2 : Int32)))] [(.int ((p1 ^^^ (-1 : Int32)) &&& (p1 - (1 : Int32))))]))
            refine own_st (fun _ kS => XS.iconst X0.here hx rfl (hb hby own_d31_71) kS) ?_
            show OFin p e below s _ _ _ (T0.setTop (mkF m 72 #[.val (.int ((p1 ^^^ (-1 : Int32)) &&& (p1 - (1 : Int32)))), .val (.int ((1 : Int32) + (2 : Int32)))] [(.int (2 : Int32)), (.int ((p1 ^^^ (-1 : Int32)) &&& (p1 - (1 : Int32))))]))
            refine own_st (fun _ kS => XS.iushr X0.here hx rfl (hb hby own_d31_72) rfl kS) ?_
            show OFin p e below s _ _ _ (T0.setTop (mkF m 73 #[.val (.int ((p1 ^^^ (-1 : Int32)) &&& (p1 - (1 : Int32)))), .val (.int ((1 : Int32) + (2 : Int32)))] [(.int ((((p1 ^^^ (-1 : Int32)) &&& (p1 - (1 : Int32))).toUInt32 >>> ((2 : Int32) &&& 31).toUInt32).toInt32))]))
            refine own_st (fun _ kS => XS.istoreN X0.here hx rfl (hb hby own_d31_73) rfl (l' := #[.val (.int ((((p1 ^^^ (-1 : Int32)) &&& (p1 - (1 : Int32))).toUInt32 >>> ((2 : Int32) &&& 31).toUInt32).toInt32)), .val (.int ((1 : Int32) + (2 : Int32)))]) rfl kS) ?_
            show OFin p e below s _ _ _ (T0.setTop (mkF m 74 #[.val (.int ((((p1 ^^^ (-1 : Int32)) &&& (p1 - (1 : Int32))).toUInt32 >>> ((2 : Int32) &&& 31).toUInt32).toInt32)), .val (.int ((1 : Int32) + (2 : Int32)))] []))
            refine own_st (fun _ kS => XS.iloadN X0.here hx rfl (hb hby own_d31_74) rfl kS) ?_
            show OFin p e below s _ _ _ (T0.setTop (mkF m 75 #[.val (.int ((((p1 ^^^ (-1 : Int32)) &&& (p1 - (1 : Int32))).toUInt32 >>> ((2 : Int32) &&& 31).toUInt32).toInt32)), .val (.int ((1 : Int32) + (2 : Int32)))] [(.int ((1 : Int32) + (2 : Int32)))]))
            refine own_st (fun _ kS => XS.iloadN X0.here hx rfl (hb hby own_d31_75) rfl kS) ?_
            show OFin p e below s _ _ _ (T0.setTop (mkF m 76 #[.val (.int ((((p1 ^^^ (-1 : Int32)) &&& (p1 - (1 : Int32))).toUInt32 >>> ((2 : Int32) &&& 31).toUInt32).toInt32)), .val (.int ((1 : Int32) + (2 : Int32)))] [(.int ((((p1 ^^^ (-1 : Int32)) &&& (p1 - (1 : Int32))).toUInt32 >>> ((2 : Int32) &&& 31).toUInt32).toInt32)), (.int ((1 : Int32) + (2 : Int32)))]))
            refine own_st (fun _ kS => XS.iconst X0.here hx rfl (hb hby own_d31_76) kS) ?_
            show OFin p e below s _ _ _ (T0.setTop (mkF m 77 #[.val (.int ((((p1 ^^^ (-1 : Int32)) &&& (p1 - (1 : Int32))).toUInt32 >>> ((2 : Int32) &&& 31).toUInt32).toInt32)), .val (.int ((1 : Int32) + (2 : Int32)))] [(.int (1 : Int32)), (.int ((((p1 ^^^ (-1 : Int32)) &&& (p1 - (1 : Int32))).toUInt32 >>> ((2 : Int32) &&& 31).toUInt32).toInt32)), (.int ((1 : Int32) + (2 : Int32)))]))
            refine own_st (fun _ kS => XS.iushr X0.here hx rfl (hb hby own_d31_77) rfl kS) ?_
            show OFin p e below s _ _ _ (T0.setTop (mkF m 78 #[.val (.int ((((p1 ^^^ (-1 : Int32)) &&& (p1 - (1 : Int32))).toUInt32 >>> ((2 : Int32) &&& 31).toUInt32).toInt32)), .val (.int ((1 : Int32) + (2 : Int32)))] [(.int ((((((p1 ^^^ (-1 : Int32)) &&& (p1 - (1 : Int32))).toUInt32 >>> ((2 : Int32) &&& 31).toUInt32).toInt32).toUInt32 >>> ((1 : Int32) &&& 31).toUInt32).toInt32)), (.int ((1 : Int32) + (2 : Int32)))]))
            refine own_st (fun _ kS => XS.iadd X0.here hx rfl (hb hby own_d31_78) rfl kS) ?_
            show OFin p e below s _ _ _ (T0.setTop (mkF m 79 #[.val (.int ((((p1 ^^^ (-1 : Int32)) &&& (p1 - (1 : Int32))).toUInt32 >>> ((2 : Int32) &&& 31).toUInt32).toInt32)), .val (.int ((1 : Int32) + (2 : Int32)))] [(.int (((1 : Int32) + (2 : Int32)) + ((((((p1 ^^^ (-1 : Int32)) &&& (p1 - (1 : Int32))).toUInt32 >>> ((2 : Int32) &&& 31).toUInt32).toInt32).toUInt32 >>> ((1 : Int32) &&& 31).toUInt32).toInt32)))]))
            exact own_ret X0 hx (t := .int) hret hlk rfl (Or.inl ⟨rfl, by simp, _, rfl⟩) (hb hby own_d31_79) (by decide) (by decide) ⟨by simp only [own_zi, own_z1, own_z2, own_z3, own_z4, own_ush, c1, c2, c3, c4, c5, if_true, if_false], e0, rfl⟩
          · refine own_st (fun _ kS => XS.icmpYes X0.here hx rfl (pc0 := 64) (pc' := 74) rfl (hb hby own_d31_64) rfl (flt c5).2.2.2 (by decide) (by decide) kS) ?_
            show OFin p e below s _ _ _ (T0.setTop (mkF m 74 #[.val (.int ((p1 ^^^ (-1 : Int32)) &&& (p1 - (1 : Int32)))), .val (.int (1 : Int32))] []))
            refine own_st (fun _ kS => XS.iloadN X0.here hx rfl (hb hby own_d31_74) rfl kS) ?_
            show OFin p e below s _ _ _ (T0.setTop (mkF m 75 #[.val (.int ((p1 ^^^ (-1 : Int32)) &&& (p1 - (1 : Int32)))), .val (.int (1 : Int32))] [(.int (1 : Int32))]))
            refine own_st (fun _ kS => XS.iloadN X0.here hx rfl (hb hby own_d31_75) rfl kS) ?_
            show OFin p e below s _ _ _ (T0.setTop (mkF m 76 #[.val (.int ((p1 ^^^ (-1 : Int32)) &&& (p1 - (1 : Int32)))), .val (.int (1 : Int32))] [(.int ((p1 ^^^ (-1 : Int32)) &&& (p1 - (1 : Int32)))), (.int (1 : Int32))]))
            refine own_st (fun _ kS => XS.iconst X0.here hx rfl (hb hby own_d31_76) kS) ?_
            show OFin p e below s _ _ _ (T0.setTop (mkF m 77 #[.val (.int ((p1 ^^^ (-1 : Int32)) &&& (p1 - (1 : Int32)))), .val (.int (1 : Int32))] [(.int (1 : Int32)), (.int ((p1 ^^^ (-1 : Int32)) &&& (p1 - (1 : Int32)))), (.int (1 : Int32))]))
            refine own_st (fun _ kS => XS.iushr X0.here hx rfl (hb hby own_d31_77) rfl kS) ?_
            show OFin p e below s _ _ _ (T0.setTop (mkF m 78 #[.val (.int ((p1 ^^^ (-1 : Int32)) &&& (p1 - (1 : Int32)))), .val (.int (1 : Int32))] [(.int ((((p1 ^^^ (-1 : Int32)) &&& (p1 - (1 : Int32))).toUInt32 >>> ((1 : Int32) &&& 31).toUInt32).toInt32)), (.int (1 : Int32))]))
            refine own_st (fun _ kS => XS.iadd X0.here hx rfl (hb hby own_d31_78) rfl kS) ?_
            show OFin p e below s _ _ _ (T0.setTop (mkF m 79 #[.val (.int ((p1 ^^^ (-1 : Int32)) &&& (p1 - (1 : Int32)))), .val (.int (1 : Int32))] [(.int ((1 : Int32) + ((((p1 ^^^ (-1 : Int32)) &&& (p1 - (1 : Int32))).toUInt32 >>> ((1 : Int32) &&& 31).toUInt32).toInt32)))]))
            exact own_ret X0 hx (t := .int) hret hlk rfl (Or.inl ⟨rfl, by simp, _, rfl⟩) (hb hby own_d31_79) (by decide) (by decide) ⟨by simp only [own_zi, own_z1, own_z2, own_z3, own_z4, own_ush, c1, c2, c3, c4, c5, if_true, if_false], e0, rfl⟩
  · refine own_st (fun _ kS => XS.ifNo X0.here hx rfl (hb hby own_d31_9) rfl ((if0 _ _).trans (flt c1).2.2.1) kS) ?_
    show OFin p e below s _ _ _ (T0.setTop (mkF m 12 #[.val (.int ((p1 ^^^ (-1 : Int32)) &&& (p1 - (1 : Int32)))), .unset] []))
    refine own_st (fun _ kS => XS.iloadN X0.here hx rfl (hb hby own_d31_12) rfl kS) ?_
    show OFin p e below s _ _ _ (T0.setTop (mkF m 13 #[.val (.int ((p1 ^^^ (-1 : Int32)) &&& (p1 - (1 : Int32)))), .unset] [(.int ((p1 ^^^ (-1 : Int32)) &&& (p1 - (1 : Int32))))]))
    refine own_st (fun _ kS => XS.bipush X0.here hx rfl (hb hby own_d31_13) kS) ?_
    show OFin p e below s _ _ _ (T0.setTop (mkF m 15 #[.val (.int ((p1 ^^^ (-1 : Int32)) &&& (p1 - (1 : Int32)))), .unset] [(.int (32 : Int32)), (.int ((p1 ^^^ (-1 : Int32)) &&& (p1 - (1 : Int32))))]))
    refine own_st (fun _ kS => XS.iand X0.here hx rfl (hb hby own_d31_15) rfl kS) ?_
    show OFin p e below s _ _ _ (T0.setTop (mkF m 16 #[.val (.int ((p1 ^^^ (-1 : Int32)) &&& (p1 - (1 : Int32)))), .unset] [(.int (((p1 ^^^ (-1 : Int32)) &&& (p1 - (1 : Int32))) &&& (32 : Int32)))]))
    exact own_ret X0 hx (t := .int) hret hlk rfl (Or.inl ⟨rfl, by simp, _, rfl⟩) (hb hby own_d31_16) (by decide) (by decide) ⟨by simp only [own_zi, own_z1, own_z2, own_z3, own_z4, own_ush, c1, if_true, if_false], e0, rfl⟩
set_option maxRecDepth 65536 in
set_option maxHeartbeats 40000000 in
theorem rmZL (l : Launch) (Z : State) (a0 : Array Value) (hw : ∀ d ∈ tables_1, d.before a0 Z = true) (q1 : Int64) (h0 : Heap)  :
    OMet l Z (⟨"java/lang/Long", "numberOfTrailingZeros", "(J)I"⟩ : MethodName) jdk_35_method_49_code 3 (some .int) (⟨1, 0, 0, 14⟩ : Room) #[(.long q1)] h0 (fun v h L => v = some (.int (own_zl q1)) ∧ h = h0 ∧ L = []) := by
  refine own_enter own_pn30 ?_
  intro p e s m below meth c T0 X0 hC e0
  obtain ⟨hx, hZ, hby, hml, hown, hret, hlk, hnm⟩ := hC
  have hown : s.vm.findClass "java/lang/Long" = some m.cls := hown
  refine own_at (own_ef30_J m q1) ?_
  show OFin p e below s _ _ _ (T0.setTop (mkF m 0 #[.val (.long q1), .second, .unset] []))
  refine own_st (fun _ kS => XS.lloadN X0.here hx rfl (hb hby own_d30_0) rfl kS) ?_
  show OFin p e below s _ _ _ (T0.setTop (mkF m 1 #[.val (.long q1), .second, .unset] [(.long q1)]))
  refine own_st (fun _ kS => XS.l2i X0.here hx rfl (hb hby own_d30_1) rfl kS) ?_
  show OFin p e below s _ _ _ (T0.setTop (mkF m 2 #[.val (.long q1), .second, .unset] [(.int (q1.toInt32))]))
  refine own_st (fun _ kS => XS.istoreN X0.here hx rfl (hb hby own_d30_2) rfl (l' := #[.val (.long q1), .second, .val (.int (q1.toInt32))]) rfl kS) ?_
  show OFin p e below s _ _ _ (T0.setTop (mkF m 3 #[.val (.long q1), .second, .val (.int (q1.toInt32))] []))
  refine own_st (fun _ kS => XS.iloadN X0.here hx rfl (hb hby own_d30_3) rfl kS) ?_
  show OFin p e below s _ _ _ (T0.setTop (mkF m 4 #[.val (.long q1), .second, .val (.int (q1.toInt32))] [(.int (q1.toInt32))]))
  by_cases c1 : (q1.toInt32) = (0 : Int32)
  · refine own_st (fun _ kS => XS.ifNo X0.here hx rfl (hb hby own_d30_4) rfl ((if0 _ _).trans (teq c1).2) kS) ?_
    show OFin p e below s _ _ _ (T0.setTop (mkF m 7 #[.val (.long q1), .second, .val (.int (q1.toInt32))] []))
    refine own_st (fun _ kS => XS.bipush X0.here hx rfl (hb hby own_d30_7) kS) ?_
    show OFin p e below s _ _ _ (T0.setTop (mkF m 9 #[.val (.long q1), .second, .val (.int (q1.toInt32))] [(.int (32 : Int32))]))
    refine own_st (fun _ kS => XS.lloadN X0.here hx rfl (hb hby own_d30_9) rfl kS) ?_
    show OFin p e below s _ _ _ (T0.setTop (mkF m 10 #[.val (.long q1), .second, .val (.int (q1.toInt32))] [(.long q1), (.int (32 : Int32))]))
    refine own_st (fun _ kS => XS.bipush X0.here hx rfl (hb hby own_d30_10) kS) ?_
    show OFin p e below s _ _ _ (T0.setTop (mkF m 12 #[.val (.long q1), .second, .val (.int (q1.toInt32))] [(.int (32 : Int32)), (.long q1), (.int (32 : Int32))]))
    refine own_st (fun _ kS => XS.lushr X0.here hx rfl (hb hby own_d30_12) rfl kS) ?_
    show OFin p e below s _ _ _ (T0.setTop (mkF m 13 #[.val (.long q1), .second, .val (.int (q1.toInt32))] [(.long ((q1.toUInt64 >>> ((32 : Int32) &&& 0x3f).toInt64.toUInt64).toInt64)), (.int (32 : Int32))]))
    refine own_st (fun _ kS => XS.l2i X0.here hx rfl (hb hby own_d30_13) rfl kS) ?_
    show OFin p e below s _ _ _ (T0.setTop (mkF m 14 #[.val (.long q1), .second, .val (.int (q1.toInt32))] [(.int (((q1.toUInt64 >>> ((32 : Int32) &&& 0x3f).toInt64.toUInt64).toInt64).toInt32)), (.int (32 : Int32))]))
    obtain ⟨v1917, T1917, L1917, X1917, hQ1917, st1917⟩ := own_static X0 hx hZ (y := (⟨"java/lang/Integer", "numberOfTrailingZeros", "(I)I"⟩ : MethodName)) (rm := ⟨0, 0, 0, 0⟩) (W := 1) (argsL := [(.int (((q1.toUInt64 >>> ((32 : Int32) &&& 0x3f).toInt64.toUInt64).toInt64).toInt32))]) (rest := [(.int (32 : Int32))]) hown (own_w hw 211 rfl) (own_w hw 212 rfl) (own_w hw 213 rfl) (own_w hw 214 rfl) (rmZI l Z a0 hw _ h0) e0 (g := (mkF m 14 #[.val (.long q1), .second, .val (.int (q1.toInt32))] [(.int (((q1.toUInt64 >>> ((32 : Int32) &&& 0x3f).toInt64.toUInt64).toInt64).toInt32)), (.int (32 : Int32))])) rfl (by rw [hml]; rfl) (lenOf own_pd16 rfl) rfl (by show 2 * 0 + _ ≤ _; exact Nat.le_of_eq rfl) (hb hby own_d30_14) (by decide) (by decide) (by decide) (by decide)
    obtain ⟨rfl, e1917, rfl⟩ := hQ1917
    rw [List.append_nil] at X1917
    refine own_st (st1917) ?_
    clear st1917 X0 e0
    show OFin p e below s _ _ _ (T1917.setTop (mkF m 17 #[.val (.long q1), .second, .val (.int (q1.toInt32))] [(.int (own_zi (((q1.toUInt64 >>> ((32 : Int32) &&& 0x3f).toInt64.toUInt64).toInt64).toInt32))), (.int (32 : Int32))]))
    refine own_st (fun _ kS => XS.iadd X1917.here hx rfl (hb hby own_d30_17) rfl kS) ?_
    show OFin p e below s _ _ _ (T1917.setTop (mkF m 18 #[.val (.long q1), .second, .val (.int (q1.toInt32))] [(.int ((32 : Int32) + (own_zi (((q1.toUInt64 >>> ((32 : Int32) &&& 0x3f).toInt64.toUInt64).toInt64).toInt32))))]))
    refine own_st (fun _ kS => XS.goto X1917.here hx rfl (pc0 := 18) (pc' := 25) rfl (hb hby own_d30_18) (by decide) (by decide) kS) ?_
    show OFin p e below s _ _ _ (T1917.setTop (mkF m 25 #[.val (.long q1), .second, .val (.int (q1.toInt32))] [(.int ((32 : Int32) + (own_zi (((q1.toUInt64 >>> ((32 : Int32) &&& 0x3f).toInt64.toUInt64).toInt64).toInt32))))]))
    exact own_ret X1917 hx (t := .int) hret hlk rfl (Or.inl ⟨rfl, by simp, _, rfl⟩) (hb hby own_d30_25) (by decide) (by decide) ⟨by simp only [own_zl, c1, if_true, if_false], e1917, rfl⟩
  · refine own_st (fun _ kS => XS.ifYes X0.here hx rfl (pc0 := 4) (pc' := 21) rfl (hb hby own_d30_4) rfl ((if0 _ _).trans (feq c1).2) (by decide) (by decide) kS) ?_
    show OFin p e below s _ _ _ (T0.setTop (mkF m 21 #[.val (.long q1), .second, .val (.int (q1.toInt32))] []))
    refine own_st (fun _ kS => XS.iloadN X0.here hx rfl (hb hby own_d30_21) rfl kS) ?_
    show OFin p e below s _ _ _ (T0.setTop (mkF m 22 #[.val (.long q1), .second, .val (.int (q1.toInt32))] [(.int (q1.toInt32))]))
    obtain ⟨v1918, T1918, L1918, X1918, hQ1918, st1918⟩ := own_static X0 hx hZ (y := (⟨"java/lang/Integer", "numberOfTrailingZeros", "(I)I"⟩ : MethodName)) (rm := ⟨0, 0, 0, 0⟩) (W := 0) (argsL := [(.int (q1.toInt32))]) (rest := []) hown (own_w hw 211 rfl) (own_w hw 212 rfl) (own_w hw 213 rfl) (own_w hw 214 rfl) (rmZI l Z a0 hw _ h0) e0 (g := (mkF m 22 #[.val (.long q1), .second, .val (.int (q1.toInt32))] [(.int (q1.toInt32))])) rfl (by rw [hml]; rfl) (lenOf own_pd16 rfl) rfl (by show 2 * 0 + _ ≤ _; exact Nat.le_of_eq rfl) (hb hby own_d30_22) (by decide) (by decide) (by decide) (by decide)
    obtain ⟨rfl, e1918, rfl⟩ := hQ1918
    rw [List.append_nil] at X1918
    refine own_st (st1918) ?_
    clear st1918 X0 e0
    show OFin p e below s _ _ _ (T1918.setTop (mkF m 25 #[.val (.long q1), .second, .val (.int (q1.toInt32))] [(.int (own_zi (q1.toInt32)))]))
    exact own_ret X1918 hx (t := .int) hret hlk rfl (Or.inl ⟨rfl, by simp, _, rfl⟩) (hb hby own_d30_25) (by decide) (by decide) ⟨by simp only [own_zl, c1, if_true, if_false], e1918, rfl⟩
def own_fo (oc : Int64) : Int32 := if lcmpW oc 0 = 0 then -1 else own_zl oc
set_option maxRecDepth 65536 in
set_option maxHeartbeats 40000000 in
theorem rmFO (l : Launch) (Z : State) (a0 : Array Value) (hw : ∀ d ∈ tables_1, d.before a0 Z = true) (a : Addr) (h0 : Heap) (sa tt : Addr) (lv : Int32) (oc : Int64) (fs : Nat → Value) (B0 : OSR Z h0 a sa tt lv oc fs) :
    OMet l Z (⟨"com/example/epicycle/epicycle/SlotRing", "firstOccupied", "()I"⟩ : MethodName) prog_7_method_4_code 1 (some .int) (⟨2, 0, 0, 28⟩ : Room) #[(.ref a)] h0 (fun v h L => v = some (.int (own_fo oc)) ∧ h = h0 ∧ L = []) := by
  refine own_enter own_pn29 ?_
  intro p e s m below meth c T0 X0 hC e0
  obtain ⟨hx, hZ, hby, hml, hown, hret, hlk, hnm⟩ := hC
  have hown : s.vm.findClass "com/example/epicycle/epicycle/SlotRing" = some m.cls := hown
  refine own_at (own_ef29_R m a) ?_
  show OFin p e below s _ _ _ (T0.setTop (mkF m 0 #[.val (.ref a)] []))
  obtain ⟨u1919, u1920, u1921, u1922, u1923, u1924⟩ := B0
  refine own_st (fun _ kS => XS.aloadN X0.here hx rfl (hb hby own_d29_0) rfl rfl kS) ?_
  show OFin p e below s _ _ _ (T0.setTop (mkF m 1 #[.val (.ref a)] [(.ref a)]))
  obtain ⟨T1925, X1925, e1925, st1925⟩ := getF X0 hx hZ hown (host := "") (Or.inl (own_w hw 111 rfl)) Via.refl e0 u1923 (g := (mkF m 1 #[.val (.ref a)] [(.ref a)])) rfl rfl (hb hby own_d29_1)
  refine own_st (st1925) ?_
  clear st1925 X0 e0
  show OFin p e below s _ _ _ (T1925.setTop (mkF m 4 #[.val (.ref a)] [(.long oc)]))
  refine own_st (fun _ kS => XS.lconst X1925.here hx rfl (hb hby own_d29_4) kS) ?_
  show OFin p e below s _ _ _ (T1925.setTop (mkF m 5 #[.val (.ref a)] [(.long (0 : Int64)), (.long oc)]))
  refine own_st (fun _ kS => XS.lcmp X1925.here hx rfl (hb hby own_d29_5) rfl kS) ?_
  show OFin p e below s _ _ _ (T1925.setTop (mkF m 6 #[.val (.ref a)] [(.int (lcmpW oc (0 : Int64)))]))
  by_cases c1 : (lcmpW oc (0 : Int64)) = (0 : Int32)
  · refine own_st (fun _ kS => XS.ifNo X1925.here hx rfl (hb hby own_d29_6) rfl ((if0 _ _).trans (teq c1).2) kS) ?_
    show OFin p e below s _ _ _ (T1925.setTop (mkF m 9 #[.val (.ref a)] []))
    refine own_st (fun _ kS => XS.iconst X1925.here hx rfl (hb hby own_d29_9) kS) ?_
    show OFin p e below s _ _ _ (T1925.setTop (mkF m 10 #[.val (.ref a)] [(.int (-1 : Int32))]))
    refine own_st (fun _ kS => XS.goto X1925.here hx rfl (pc0 := 10) (pc' := 20) rfl (hb hby own_d29_10) (by decide) (by decide) kS) ?_
    show OFin p e below s _ _ _ (T1925.setTop (mkF m 20 #[.val (.ref a)] [(.int (-1 : Int32))]))
    exact own_ret X1925 hx (t := .int) hret hlk rfl (Or.inl ⟨rfl, by simp, _, rfl⟩) (hb hby own_d29_20) (by decide) (by decide) ⟨by simp only [own_fo, c1, if_true, if_false], e1925, rfl⟩
  · refine own_st (fun _ kS => XS.ifYes X1925.here hx rfl (pc0 := 6) (pc' := 13) rfl (hb hby own_d29_6) rfl ((if0 _ _).trans (feq c1).2) (by decide) (by decide) kS) ?_
    show OFin p e below s _ _ _ (T1925.setTop (mkF m 13 #[.val (.ref a)] []))
    refine own_st (fun _ kS => XS.aloadN X1925.here hx rfl (hb hby own_d29_13) rfl rfl kS) ?_
    show OFin p e below s _ _ _ (T1925.setTop (mkF m 14 #[.val (.ref a)] [(.ref a)]))
    obtain ⟨T1926, X1926, e1926, st1926⟩ := getF X1925 hx hZ hown (host := "") (Or.inl (own_w hw 111 rfl)) Via.refl e1925 u1923 (g := (mkF m 14 #[.val (.ref a)] [(.ref a)])) rfl rfl (hb hby own_d29_14)
    refine own_st (st1926) ?_
    clear st1926 X1925 e1925
    show OFin p e below s _ _ _ (T1926.setTop (mkF m 17 #[.val (.ref a)] [(.long oc)]))
    obtain ⟨v1927, T1927, L1927, X1927, hQ1927, st1927⟩ := own_static X1926 hx hZ (y := (⟨"java/lang/Long", "numberOfTrailingZeros", "(J)I"⟩ : MethodName)) (rm := ⟨1, 0, 0, 14⟩) (W := 0) (argsL := [(.long oc)]) (rest := []) hown (own_w hw 207 rfl) (own_w hw 208 rfl) (own_w hw 209 rfl) (own_w hw 210 rfl) (rmZL l Z a0 hw _ h0) e1926 (g := (mkF m 17 #[.val (.ref a)] [(.long oc)])) rfl (by rw [hml]; rfl) (lenOf own_pd17 rfl) rfl (by show 2 * 0 + _ ≤ _; exact Nat.le_of_eq rfl) (hb hby own_d29_17) (by decide) (by decide) (by decide) (by decide)
    obtain ⟨rfl, e1927, rfl⟩ := hQ1927
    rw [List.append_nil] at X1927
    refine own_st (st1927) ?_
    clear st1927 X1926 e1926
    show OFin p e below s _ _ _ (T1927.setTop (mkF m 20 #[.val (.ref a)] [(.int (own_zl oc))]))
    exact own_ret X1927 hx (t := .int) hret hlk rfl (Or.inl ⟨rfl, by simp, _, rfl⟩) (hb hby own_d29_20) (by decide) (by decide) ⟨by simp only [own_fo, c1, if_true, if_false], e1927, rfl⟩
theorem own_dig_r (q : Int64) (p : Int32) : ∃ dn : Nat, dn < 64 ∧ own_dig q p = Int32.ofNat dn := by
  unfold own_dig
  generalize ((q.toUInt64 >>> ((p * 6) &&& 0x3f).toInt64.toUInt64).toInt64).toInt32 = x
  have e : (x &&& 63).toInt = x.toInt % 2 ^ 6 := Jvm.Kit.i32_mask x 63 (k := 6) (by decide) (by decide)
  refine ⟨(x &&& 63).toInt.toNat, by omega, ?_⟩
  apply Int32.toInt_inj.mp
  rw [Int32.toInt_ofNat_small (by omega)]
  omega
theorem own_dgl_eq (q : Int64) (p : Int32) : own_dgl q p = own_dig q p := by
  unfold own_dgl own_dig
  generalize (q.toUInt64 >>> ((p * 6) &&& 0x3f).toInt64.toUInt64).toInt64 = x
  rw [Int64.toInt32_and]; rfl
theorem own_bits : ∀ a b : Fin 64, a ≠ b → own_fo (((0 ||| own_bit (Int32.ofNat a.val)) ||| own_bit (Int32.ofNat b.val)) &&& (own_bit (Int32.ofNat b.val) ^^^ (-1))) = Int32.ofNat a.val ∧ own_fo (((0 ||| own_bit (Int32.ofNat a.val)) ||| own_bit (Int32.ofNat b.val)) &&& (own_bit (Int32.ofNat a.val) ^^^ (-1))) = Int32.ofNat b.val := by decide +kernel
theorem own_bits0 : ∀ a : Fin 64, own_fo (((0 ||| own_bit (Int32.ofNat a.val)) ||| own_bit (Int32.ofNat a.val)) &&& (own_bit (Int32.ofNat a.val) ^^^ (-1))) = -1 := by decide +kernel
theorem own_ofn {a b : Nat} (ha : a < 64) (hb : b < 64) (h : a ≠ b) : ¬ Int32.ofNat a = Int32.ofNat b := fun q => by
  have := congrArg Int32.toInt q
  rw [Int32.toInt_ofNat_small (by omega), Int32.toInt_ofNat_small (by omega)] at this
  omega
theorem own_tn {a : Nat} (ha : a < 64) : (Int32.ofNat a).toInt = a := Int32.toInt_ofNat_small (by omega)
set_option maxRecDepth 65536 in
set_option maxHeartbeats 40000000 in
theorem own_p24 {l : Launch} {Z : State} {a0 : Array Value} (hw : ∀ d ∈ tables_1, d.before a0 Z = true) {p : Program} {e : Env} {s : State} {m : MethodId} {args : Array Value} {below : List Frame} {meth : Method} {c : Code} (hC : OCtx Z p s m meth c "com/example/epicycle/epicycle/SlotRingTakePinLaw" "law" code maxLocals ret) {T0 : State} {locs : List Loc} {cells slots : Nat} (X0 : Stand p l e room_1 s m args below meth c T0 locs cells slots) {h0 : Heap} (e0 : T0.heap = h0) (n0 : Nat) (Z0 : n0 ≤ h0.size) (p1 lv ts : Int32) (t1 t2 : Int64) (N0 : Fr n0 locs) (hcs : cells = 0) (hss : slots = 0) :
    OFin p e below s room_1.cells room_1.slots (fun v h L => v = some (.int (1 : Int32)) ∧ Fr n0 L) (T0.setTop (mkF m 24 #[.val (.int p1), .val (.long t1), .second, .val (.long t2), .second, .val (.int lv), .val (.int ts), .unset, .unset, .unset, .unset, .unset, .unset, .unset, .unset, .unset, .unset, .unset, .unset, .unset] [])) := by
  have hC0 := hC
  obtain ⟨hx, hZ, hby, hml, hown, hret, hlk, hnm⟩ := hC
  subst hcs hss
  obtain ⟨T1928, h1928, X1928, e1928, E1928, A1928, D1928, -, st1928⟩ := newO X0 hx hZ hown (own_w hw 0 rfl) (own_w hw 1 rfl) (own_w hw 2 rfl) e0 (g := (mkF m 24 #[.val (.int p1), .val (.long t1), .second, .val (.long t2), .second, .val (.int lv), .val (.int ts), .unset, .unset, .unset, .unset, .unset, .unset, .unset, .unset, .unset, .unset, .unset, .unset, .unset] [])) rfl (hb hby at_24) (by decide) (by decide)
  obtain ⟨tt, g1928⟩ : ∃ z, z = h0.size := ⟨_, rfl⟩
  rw [← g1928] at A1928 D1928 st1928
  have g_tt : n0 ≤ tt := Nat.le_trans Z0 (Nat.le_of_eq g1928.symm)
  have f1929 : Fld Z h1928 tt "com/example/epicycle/epicycle/TimeoutTable" "timeouts" "Lcom/example/epicycle/epicycle/ChunkedList;" .null := D1928 (Or.inr (own_w hw 34 rfl)) (ty := (.object "com/example/epicycle/epicycle/ChunkedList")) (by decide)
  have f1930 : Fld Z h1928 tt "com/example/epicycle/epicycle/TimeoutTable" "free" "[[J" .null := D1928 (Or.inl (own_w hw 47 rfl)) (ty := (.array (.array .long))) (by decide)
  have f1931 : Fld Z h1928 tt "com/example/epicycle/epicycle/TimeoutTable" "capacity" "I" (.int (0 : Int32)) := D1928 (Or.inl (own_w hw 49 rfl)) (ty := .int) (by decide)
  have f1932 : Fld Z h1928 tt "com/example/epicycle/epicycle/TimeoutTable" "freeCount" "I" (.int (0 : Int32)) := D1928 (Or.inl (own_w hw 135 rfl)) (ty := .int) (by decide)
  have sz1928 : n0 ≤ h1928.size := Nat.le_trans Z0 E1928.1
  refine own_st (st1928) ?_
  clear st1928 X0 e0 E1928 D1928 g1928
  show OFin p e below s _ _ _ (T1928.setTop (mkF m 27 #[.val (.int p1), .val (.long t1), .second, .val (.long t2), .second, .val (.int lv), .val (.int ts), .unset, .unset, .unset, .unset, .unset, .unset, .unset, .unset, .unset, .unset, .unset, .unset, .unset] [(.ref tt)]))
  refine own_st (fun _ kS => XS.dup X1928.here hx rfl (hb hby at_27) rfl rfl kS) ?_
  show OFin p e below s _ _ _ (T1928.setTop (mkF m 28 #[.val (.int p1), .val (.long t1), .second, .val (.long t2), .second, .val (.int lv), .val (.int ts), .unset, .unset, .unset, .unset, .unset, .unset, .unset, .unset, .unset, .unset, .unset, .unset, .unset] [(.ref tt), (.ref tt)]))
  obtain ⟨v1933, T1933, L1933, X1933, hQ1933, st1933⟩ := own_init X1928 hx hZ (y := (⟨"com/example/epicycle/epicycle/TimeoutTable", "<init>", "()V"⟩ : MethodName)) (rm := ⟨4, 4, 6, 50⟩) (W := 1) (a := tt) (argsL := []) (rest := [(.ref tt)]) rfl hown (own_w hw 3 rfl) (own_w hw 4 rfl) (own_w hw 2 rfl) (own_w hw 5 rfl) (rmTT l Z a0 hw tt h1928 n0 sz1928 ⟨A1928, f1929, f1930, f1931, f1932⟩ g_tt) e1928 (g := (mkF m 28 #[.val (.int p1), .val (.long t1), .second, .val (.long t2), .second, .val (.int lv), .val (.int ts), .unset, .unset, .unset, .unset, .unset, .unset, .unset, .unset, .unset, .unset, .unset, .unset, .unset] [(.ref tt), (.ref tt)])) rfl (by rw [hml]; rfl) (lenOf own_pd0 rfl) rfl (by show 2 * 0 + _ ≤ _; exact Nat.le_of_eq rfl) (hb hby at_28) (by decide) (by decide) (by decide) (by decide)
  obtain ⟨rfl, N1933, K1933, cl, ge_cl, ck, ge_ck, ne_cl_ck, B1933_0, B1933_1⟩ := hQ1933
  have ne_tt_cl : tt ≠ cl := Nat.ne_of_lt (Nat.lt_of_lt_of_le A1928.lt ge_cl)
  have g_cl : n0 ≤ cl := Nat.le_trans sz1928 ge_cl
  have ne_tt_ck : tt ≠ ck := Nat.ne_of_lt (Nat.lt_of_lt_of_le A1928.lt ge_ck)
  have g_ck : n0 ≤ ck := Nat.le_trans sz1928 ge_ck
  have fr1933 := Fr.app N0 N1933
  clear N0 N1933
  have f1934 := A1928.keep K1933
  clear f1929
  clear f1930
  clear f1931
  clear f1932
  have sz1933 : n0 ≤ T1933.heap.size := Nat.le_trans sz1928 K1933.1
  clear sz1928
  clear K1933
  obtain ⟨u1939, u1940, u1941, u1942⟩ := B1933_0
  obtain ⟨u1943, u1944, u1945, u1946, u1947⟩ := B1933_1
  refine own_st (st1933) ?_
  clear st1933 X1928 e1928
  show OFin p e below s _ _ _ (T1933.setTop (mkF m 31 #[.val (.int p1), .val (.long t1), .second, .val (.long t2), .second, .val (.int lv), .val (.int ts), .unset, .unset, .unset, .unset, .unset, .unset, .unset, .unset, .unset, .unset, .unset, .unset, .unset] [(.ref tt)]))
  refine own_st (fun _ kS => XS.astore X1933.here hx rfl (hb hby at_31) rfl rfl (l' := #[.val (.int p1), .val (.long t1), .second, .val (.long t2), .second, .val (.int lv), .val (.int ts), .val (.ref tt), .unset, .unset, .unset, .unset, .unset, .unset, .unset, .unset, .unset, .unset, .unset, .unset]) rfl kS) ?_
  show OFin p e below s _ _ _ (T1933.setTop (mkF m 33 #[.val (.int p1), .val (.long t1), .second, .val (.long t2), .second, .val (.int lv), .val (.int ts), .val (.ref tt), .unset, .unset, .unset, .unset, .unset, .unset, .unset, .unset, .unset, .unset, .unset, .unset] []))
  obtain ⟨T1948, h1948, X1948, e1948, E1948, A1948, D1948, -, st1948⟩ := newO X1933 hx hZ hown (own_w hw 50 rfl) (own_w hw 51 rfl) (own_w hw 52 rfl) rfl (g := (mkF m 33 #[.val (.int p1), .val (.long t1), .second, .val (.long t2), .second, .val (.int lv), .val (.int ts), .val (.ref tt), .unset, .unset, .unset, .unset, .unset, .unset, .unset, .unset, .unset, .unset, .unset, .unset] [])) rfl (hb hby at_33) (by decide) (by decide)
  obtain ⟨rg, g1948⟩ : ∃ z, z = T1933.heap.size := ⟨_, rfl⟩
  rw [← g1948] at A1948 D1948 st1948
  have ne_ck_rg : ck ≠ rg := Nat.ne_of_lt (Nat.lt_of_lt_of_le u1947.lt (Nat.le_of_eq g1948.symm))
  have ne_cl_rg : cl ≠ rg := Nat.ne_of_lt (Nat.lt_of_lt_of_le u1943.lt (Nat.le_of_eq g1948.symm))
  have ne_tt_rg : tt ≠ rg := Nat.ne_of_lt (Nat.lt_of_lt_of_le u1939.lt (Nat.le_of_eq g1948.symm))
  have g_rg : n0 ≤ rg := Nat.le_trans sz1933 (Nat.le_of_eq g1948.symm)
  have f1949 := u1939.ext E1948
  clear u1939
  have f1950 := u1940.ext E1948
  clear u1940
  have f1951 := u1941.ext E1948
  clear u1941
  have f1952 := u1942.ext E1948
  clear u1942
  have f1953 := u1943.ext E1948
  clear u1943
  have f1954 := u1944.ext E1948
  clear u1944
  have f1955 := u1945.ext E1948
  clear u1945
  have f1956 := u1946.ext E1948
  clear u1946
  have f1957 := u1947.ext E1948
  clear u1947
  have f1958 : Fld Z h1948 rg "com/example/epicycle/epicycle/SlotRing" "slots" "[Lcom/example/epicycle/epicycle/SlotRing$Slot;" .null := D1948 (Or.inr (own_w hw 60 rfl)) (ty := (.array (.object "com/example/epicycle/epicycle/SlotRing$Slot"))) (by decide)
  have f1959 : Fld Z h1948 rg "com/example/epicycle/epicycle/SlotRing" "level" "I" (.int (0 : Int32)) := D1948 (Or.inr (own_w hw 62 rfl)) (ty := .int) (by decide)
  have f1960 : Fld Z h1948 rg "com/example/epicycle/epicycle/SlotRing" "table" "Lcom/example/epicycle/epicycle/TimeoutTable;" .null := D1948 (Or.inr (own_w hw 64 rfl)) (ty := (.object "com/example/epicycle/epicycle/TimeoutTable")) (by decide)
  have f1961 : Fld Z h1948 rg "com/example/epicycle/epicycle/SlotRing" "occupied" "J" (.long (0 : Int64)) := D1948 (Or.inl (own_w hw 112 rfl)) (ty := .long) (by decide)
  have sz1948 : n0 ≤ h1948.size := Nat.le_trans sz1933 E1948.1
  clear sz1933
  refine own_st (st1948) ?_
  clear st1948 X1933 E1948 D1948 g1948
  show OFin p e below s _ _ _ (T1948.setTop (mkF m 36 #[.val (.int p1), .val (.long t1), .second, .val (.long t2), .second, .val (.int lv), .val (.int ts), .val (.ref tt), .unset, .unset, .unset, .unset, .unset, .unset, .unset, .unset, .unset, .unset, .unset, .unset] [(.ref rg)]))
  refine own_st (fun _ kS => XS.dup X1948.here hx rfl (hb hby at_36) rfl rfl kS) ?_
  show OFin p e below s _ _ _ (T1948.setTop (mkF m 37 #[.val (.int p1), .val (.long t1), .second, .val (.long t2), .second, .val (.int lv), .val (.int ts), .val (.ref tt), .unset, .unset, .unset, .unset, .unset, .unset, .unset, .unset, .unset, .unset, .unset, .unset] [(.ref rg), (.ref rg)]))
  refine own_st (fun _ kS => XS.iload X1948.here hx rfl (hb hby at_37) rfl kS) ?_
  show OFin p e below s _ _ _ (T1948.setTop (mkF m 39 #[.val (.int p1), .val (.long t1), .second, .val (.long t2), .second, .val (.int lv), .val (.int ts), .val (.ref tt), .unset, .unset, .unset, .unset, .unset, .unset, .unset, .unset, .unset, .unset, .unset, .unset] [(.int lv), (.ref rg), (.ref rg)]))
  refine own_st (fun _ kS => XS.aload X1948.here hx rfl (hb hby at_39) rfl rfl kS) ?_
  show OFin p e below s _ _ _ (T1948.setTop (mkF m 41 #[.val (.int p1), .val (.long t1), .second, .val (.long t2), .second, .val (.int lv), .val (.int ts), .val (.ref tt), .unset, .unset, .unset, .unset, .unset, .unset, .unset, .unset, .unset, .unset, .unset, .unset] [(.ref tt), (.int lv), (.ref rg), (.ref rg)]))
  obtain ⟨v1962, T1962, L1962, X1962, hQ1962, st1962⟩ := own_init X1948 hx hZ (y := (⟨"com/example/epicycle/epicycle/SlotRing", "<init>", "(ILcom/example/epicycle/epicycle/TimeoutTable;)V"⟩ : MethodName)) (rm := ⟨1, 1, 64, 12⟩) (W := 1) (a := rg) (argsL := [(.int lv), (.ref tt)]) (rest := [(.ref rg)]) rfl hown (own_w hw 53 rfl) (own_w hw 54 rfl) (own_w hw 52 rfl) (own_w hw 55 rfl) (rmSR l Z a0 hw rg lv tt h1948 n0 sz1948 ⟨A1948, f1958, f1959, f1960, f1961⟩ g_rg) e1948 (g := (mkF m 41 #[.val (.int p1), .val (.long t1), .second, .val (.long t2), .second, .val (.int lv), .val (.int ts), .val (.ref tt), .unset, .unset, .unset, .unset, .unset, .unset, .unset, .unset, .unset, .unset, .unset, .unset] [(.ref tt), (.int lv), (.ref rg), (.ref rg)])) rfl (by rw [hml]; rfl) (lenOf own_pd18 rfl) rfl (by show 2 * 0 + _ ≤ _; exact Nat.le_of_eq rfl) (hb hby at_41) (by decide) (by decide) (by decide) (by decide)
  obtain ⟨rfl, N1962, K1962, sa, ge_sa, B1962_0⟩ := hQ1962
  have ne_ck_sa : ck ≠ sa := Nat.ne_of_lt (Nat.lt_of_lt_of_le f1957.lt ge_sa)
  have ne_cl_sa : cl ≠ sa := Nat.ne_of_lt (Nat.lt_of_lt_of_le f1953.lt ge_sa)
  have ne_rg_sa : rg ≠ sa := Nat.ne_of_lt (Nat.lt_of_lt_of_le A1948.lt ge_sa)
  have ne_tt_sa : tt ≠ sa := Nat.ne_of_lt (Nat.lt_of_lt_of_le f1949.lt ge_sa)
  have g_sa : n0 ≤ sa := Nat.le_trans sz1948 ge_sa
  have fr1962 := Fr.app fr1933 N1962
  clear fr1933 N1962
  have f1963 := f1949.keep K1962
  clear f1949
  have f1964 := f1950.keep K1962 (ninS ne_tt_rg nin0)
  clear f1950
  have f1965 := f1951.keep K1962 (ninS ne_tt_rg nin0)
  clear f1951
  have f1966 := f1952.keep K1962 (ninS ne_tt_rg nin0)
  clear f1952
  have f1967 := f1953.keep K1962
  clear f1953
  have f1968 := f1954.keep K1962 (ninS ne_cl_rg nin0)
  clear f1954
  have f1969 := f1955.keep K1962 (ninS ne_cl_rg nin0)
  clear f1955
  have f1970 := f1956.keep K1962 (ninS ne_cl_rg nin0)
  clear f1956
  have f1971 := f1957.keep K1962 (ninS ne_ck_rg nin0)
  clear f1957
  have f1972 := A1948.keep K1962
  clear f1958
  clear f1959
  clear f1960
  clear f1961
  have sz1962 : n0 ≤ T1962.heap.size := Nat.le_trans sz1948 K1962.1
  clear sz1948
  clear K1962
  obtain ⟨u1977, u1978, u1979, u1980, u1981, u1982⟩ := B1962_0
  refine own_st (st1962) ?_
  clear st1962 X1948 e1948
  show OFin p e below s _ _ _ (T1962.setTop (mkF m 44 #[.val (.int p1), .val (.long t1), .second, .val (.long t2), .second, .val (.int lv), .val (.int ts), .val (.ref tt), .unset, .unset, .unset, .unset, .unset, .unset, .unset, .unset, .unset, .unset, .unset, .unset] [(.ref rg)]))
  refine own_st (fun _ kS => XS.astore X1962.here hx rfl (hb hby at_44) rfl rfl (l' := #[.val (.int p1), .val (.long t1), .second, .val (.long t2), .second, .val (.int lv), .val (.int ts), .val (.ref tt), .val (.ref rg), .unset, .unset, .unset, .unset, .unset, .unset, .unset, .unset, .unset, .unset, .unset]) rfl kS) ?_
  show OFin p e below s _ _ _ (T1962.setTop (mkF m 46 #[.val (.int p1), .val (.long t1), .second, .val (.long t2), .second, .val (.int lv), .val (.int ts), .val (.ref tt), .val (.ref rg), .unset, .unset, .unset, .unset, .unset, .unset, .unset, .unset, .unset, .unset, .unset] []))
  obtain ⟨T1983, h1983, X1983, e1983, E1983, A1983, D1983, -, st1983⟩ := newO X1962 hx hZ hown (own_w hw 65 rfl) (own_w hw 66 rfl) (own_w hw 67 rfl) rfl (g := (mkF m 46 #[.val (.int p1), .val (.long t1), .second, .val (.long t2), .second, .val (.int lv), .val (.int ts), .val (.ref tt), .val (.ref rg), .unset, .unset, .unset, .unset, .unset, .unset, .unset, .unset, .unset, .unset, .unset] [])) rfl (hb hby at_46) (by decide) (by decide)
  obtain ⟨x, g1983⟩ : ∃ z, z = T1962.heap.size := ⟨_, rfl⟩
  rw [← g1983] at A1983 D1983 st1983
  have ne_ck_x : ck ≠ x := Nat.ne_of_lt (Nat.lt_of_lt_of_le f1971.lt (Nat.le_of_eq g1983.symm))
  have ne_cl_x : cl ≠ x := Nat.ne_of_lt (Nat.lt_of_lt_of_le f1967.lt (Nat.le_of_eq g1983.symm))
  have ne_rg_x : rg ≠ x := Nat.ne_of_lt (Nat.lt_of_lt_of_le u1977.lt (Nat.le_of_eq g1983.symm))
  have ne_sa_x : sa ≠ x := Nat.ne_of_lt (Nat.lt_of_lt_of_le u1982.lt (Nat.le_of_eq g1983.symm))
  have ne_tt_x : tt ≠ x := Nat.ne_of_lt (Nat.lt_of_lt_of_le f1963.lt (Nat.le_of_eq g1983.symm))
  have g_x : n0 ≤ x := Nat.le_trans sz1962 (Nat.le_of_eq g1983.symm)
  have f1984 := f1963.ext E1983
  clear f1963
  have f1985 := f1964.ext E1983
  clear f1964
  have f1986 := f1965.ext E1983
  clear f1965
  have f1987 := f1966.ext E1983
  clear f1966
  have f1988 := f1967.ext E1983
  clear f1967
  have f1989 := f1968.ext E1983
  clear f1968
  have f1990 := f1969.ext E1983
  clear f1969
  have f1991 := f1970.ext E1983
  clear f1970
  have f1992 := f1971.ext E1983
  clear f1971
  have f1993 := u1977.ext E1983
  clear u1977
  have f1994 := u1978.ext E1983
  clear u1978
  have f1995 := u1979.ext E1983
  clear u1979
  have f1996 := u1980.ext E1983
  clear u1980
  have f1997 := u1981.ext E1983
  clear u1981
  have f1998 := u1982.ext E1983
  clear u1982
  have f1999 : Fld Z h1983 x "com/example/epicycle/epicycle/Timeout" "holder" "Lcom/example/epicycle/epicycle/Timeout$Holder;" .null := D1983 (Or.inr (own_w hw 73 rfl)) (ty := (.object "com/example/epicycle/epicycle/Timeout$Holder")) (by decide)
  have f2000 : Fld Z h1983 x "com/example/epicycle/epicycle/Timeout" "task" "Ljava/lang/Runnable;" .null := D1983 (Or.inr (own_w hw 75 rfl)) (ty := (.object "java/lang/Runnable")) (by decide)
  have f2001 : Fld Z h1983 x "com/example/epicycle/epicycle/Timeout" "fireTick" "J" (.long (0 : Int64)) := D1983 (Or.inr (own_w hw 77 rfl)) (ty := .long) (by decide)
  have f2002 : Fld Z h1983 x "com/example/epicycle/epicycle/Timeout" "prev" "I" (.int (0 : Int32)) := D1983 (Or.inl (own_w hw 156 rfl)) (ty := .int) (by decide)
  have f2003 : Fld Z h1983 x "com/example/epicycle/epicycle/Timeout" "next" "I" (.int (0 : Int32)) := D1983 (Or.inl (own_w hw 222 rfl)) (ty := .int) (by decide)
  have sz1983 : n0 ≤ h1983.size := Nat.le_trans sz1962 E1983.1
  clear sz1962
  refine own_st (st1983) ?_
  clear st1983 X1962 E1983 D1983 g1983
  show OFin p e below s _ _ _ (T1983.setTop (mkF m 49 #[.val (.int p1), .val (.long t1), .second, .val (.long t2), .second, .val (.int lv), .val (.int ts), .val (.ref tt), .val (.ref rg), .unset, .unset, .unset, .unset, .unset, .unset, .unset, .unset, .unset, .unset, .unset] [(.ref x)]))
  refine own_st (fun _ kS => XS.dup X1983.here hx rfl (hb hby at_49) rfl rfl kS) ?_
  show OFin p e below s _ _ _ (T1983.setTop (mkF m 50 #[.val (.int p1), .val (.long t1), .second, .val (.long t2), .second, .val (.int lv), .val (.int ts), .val (.ref tt), .val (.ref rg), .unset, .unset, .unset, .unset, .unset, .unset, .unset, .unset, .unset, .unset, .unset] [(.ref x), (.ref x)]))
  refine own_st (fun _ kS => XS.aconstNull X1983.here hx rfl (hb hby at_50) kS) ?_
  show OFin p e below s _ _ _ (T1983.setTop (mkF m 51 #[.val (.int p1), .val (.long t1), .second, .val (.long t2), .second, .val (.int lv), .val (.int ts), .val (.ref tt), .val (.ref rg), .unset, .unset, .unset, .unset, .unset, .unset, .unset, .unset, .unset, .unset, .unset] [.null, (.ref x), (.ref x)]))
  refine own_st (fun _ kS => XS.aconstNull X1983.here hx rfl (hb hby at_51) kS) ?_
  show OFin p e below s _ _ _ (T1983.setTop (mkF m 52 #[.val (.int p1), .val (.long t1), .second, .val (.long t2), .second, .val (.int lv), .val (.int ts), .val (.ref tt), .val (.ref rg), .unset, .unset, .unset, .unset, .unset, .unset, .unset, .unset, .unset, .unset, .unset] [.null, .null, (.ref x), (.ref x)]))
  refine own_st (fun _ kS => XS.lloadN X1983.here hx rfl (hb hby at_52) rfl kS) ?_
  show OFin p e below s _ _ _ (T1983.setTop (mkF m 53 #[.val (.int p1), .val (.long t1), .second, .val (.long t2), .second, .val (.int lv), .val (.int ts), .val (.ref tt), .val (.ref rg), .unset, .unset, .unset, .unset, .unset, .unset, .unset, .unset, .unset, .unset, .unset] [(.long t1), .null, .null, (.ref x), (.ref x)]))
  obtain ⟨v2004, T2004, L2004, X2004, hQ2004, st2004⟩ := own_init X1983 hx hZ (y := (⟨"com/example/epicycle/epicycle/Timeout", "<init>", "(Lcom/example/epicycle/epicycle/Timeout$Holder;Ljava/lang/Runnable;J)V"⟩ : MethodName)) (rm := ⟨1, 0, 0, 12⟩) (W := 1) (a := x) (argsL := [.null, .null, (.long t1)]) (rest := [(.ref x)]) rfl hown (own_w hw 68 rfl) (own_w hw 69 rfl) (own_w hw 67 rfl) (own_w hw 70 rfl) (rmTO l Z a0 hw x t1 h1983 n0 sz1983 ⟨A1983, f1999, f2000, f2001, f2002, f2003⟩ g_x) e1983 (g := (mkF m 53 #[.val (.int p1), .val (.long t1), .second, .val (.long t2), .second, .val (.int lv), .val (.int ts), .val (.ref tt), .val (.ref rg), .unset, .unset, .unset, .unset, .unset, .unset, .unset, .unset, .unset, .unset, .unset] [(.long t1), .null, .null, (.ref x), (.ref x)])) rfl (by rw [hml]; rfl) (lenOf own_pd19 rfl) rfl (by show 2 * 0 + _ ≤ _; exact Nat.le_of_eq rfl) (hb hby at_53) (by decide) (by decide) (by decide) (by decide)
  obtain ⟨rfl, N2004, K2004, B2004_0⟩ := hQ2004
  have fr2004 := Fr.app fr1962 N2004
  clear fr1962 N2004
  have f2005 := f1984.keep K2004
  clear f1984
  have f2006 := f1985.keep K2004 (ninS ne_tt_x nin0)
  clear f1985
  have f2007 := f1986.keep K2004 (ninS ne_tt_x nin0)
  clear f1986
  have f2008 := f1987.keep K2004 (ninS ne_tt_x nin0)
  clear f1987
  have f2009 := f1988.keep K2004
  clear f1988
  have f2010 := f1989.keep K2004 (ninS ne_cl_x nin0)
  clear f1989
  have f2011 := f1990.keep K2004 (ninS ne_cl_x nin0)
  clear f1990
  have f2012 := f1991.keep K2004 (ninS ne_cl_x nin0)
  clear f1991
  have f2013 := f1992.keep K2004 (ninS ne_ck_x nin0)
  clear f1992
  have f2014 := f1993.keep K2004
  clear f1993
  have f2015 := f1994.keep K2004 (ninS ne_rg_x nin0)
  clear f1994
  have f2016 := f1995.keep K2004 (ninS ne_rg_x nin0)
  clear f1995
  have f2017 := f1996.keep K2004 (ninS ne_rg_x nin0)
  clear f1996
  have f2018 := f1997.keep K2004 (ninS ne_rg_x nin0)
  clear f1997
  have f2019 := f1998.keep K2004 (ninS ne_sa_x nin0)
  clear f1998
  have f2020 := A1983.keep K2004
  clear f1999
  clear f2000
  clear f2001
  clear f2002
  clear f2003
  have sz2004 : n0 ≤ T2004.heap.size := Nat.le_trans sz1983 K2004.1
  clear sz1983
  clear K2004
  obtain ⟨u2026, u2027, u2028, u2029⟩ := B2004_0
  refine own_st (st2004) ?_
  clear st2004 X1983 e1983
  show OFin p e below s _ _ _ (T2004.setTop (mkF m 56 #[.val (.int p1), .val (.long t1), .second, .val (.long t2), .second, .val (.int lv), .val (.int ts), .val (.ref tt), .val (.ref rg), .unset, .unset, .unset, .unset, .unset, .unset, .unset, .unset, .unset, .unset, .unset] [(.ref x)]))
  refine own_st (fun _ kS => XS.astore X2004.here hx rfl (hb hby at_56) rfl rfl (l' := #[.val (.int p1), .val (.long t1), .second, .val (.long t2), .second, .val (.int lv), .val (.int ts), .val (.ref tt), .val (.ref rg), .val (.ref x), .unset, .unset, .unset, .unset, .unset, .unset, .unset, .unset, .unset, .unset]) rfl kS) ?_
  show OFin p e below s _ _ _ (T2004.setTop (mkF m 58 #[.val (.int p1), .val (.long t1), .second, .val (.long t2), .second, .val (.int lv), .val (.int ts), .val (.ref tt), .val (.ref rg), .val (.ref x), .unset, .unset, .unset, .unset, .unset, .unset, .unset, .unset, .unset, .unset] []))
  obtain ⟨T2030, h2030, X2030, e2030, E2030, A2030, D2030, -, st2030⟩ := newO X2004 hx hZ hown (own_w hw 65 rfl) (own_w hw 66 rfl) (own_w hw 67 rfl) rfl (g := (mkF m 58 #[.val (.int p1), .val (.long t1), .second, .val (.long t2), .second, .val (.int lv), .val (.int ts), .val (.ref tt), .val (.ref rg), .val (.ref x), .unset, .unset, .unset, .unset, .unset, .unset, .unset, .unset, .unset, .unset] [])) rfl (hb hby at_58) (by decide) (by decide)
  obtain ⟨y, g2030⟩ : ∃ z, z = T2004.heap.size := ⟨_, rfl⟩
  rw [← g2030] at A2030 D2030 st2030
  have ne_ck_y : ck ≠ y := Nat.ne_of_lt (Nat.lt_of_lt_of_le f2013.lt (Nat.le_of_eq g2030.symm))
  have ne_cl_y : cl ≠ y := Nat.ne_of_lt (Nat.lt_of_lt_of_le f2009.lt (Nat.le_of_eq g2030.symm))
  have ne_rg_y : rg ≠ y := Nat.ne_of_lt (Nat.lt_of_lt_of_le f2014.lt (Nat.le_of_eq g2030.symm))
  have ne_sa_y : sa ≠ y := Nat.ne_of_lt (Nat.lt_of_lt_of_le f2019.lt (Nat.le_of_eq g2030.symm))
  have ne_tt_y : tt ≠ y := Nat.ne_of_lt (Nat.lt_of_lt_of_le f2005.lt (Nat.le_of_eq g2030.symm))
  have ne_x_y : x ≠ y := Nat.ne_of_lt (Nat.lt_of_lt_of_le u2026.lt (Nat.le_of_eq g2030.symm))
  have g_y : n0 ≤ y := Nat.le_trans sz2004 (Nat.le_of_eq g2030.symm)
  have f2031 := f2005.ext E2030
  clear f2005
  have f2032 := f2006.ext E2030
  clear f2006
  have f2033 := f2007.ext E2030
  clear f2007
  have f2034 := f2008.ext E2030
  clear f2008
  have f2035 := f2009.ext E2030
  clear f2009
  have f2036 := f2010.ext E2030
  clear f2010
  have f2037 := f2011.ext E2030
  clear f2011
  have f2038 := f2012.ext E2030
  clear f2012
  have f2039 := f2013.ext E2030
  clear f2013
  have f2040 := f2014.ext E2030
  clear f2014
  have f2041 := f2015.ext E2030
  clear f2015
  have f2042 := f2016.ext E2030
  clear f2016
  have f2043 := f2017.ext E2030
  clear f2017
  have f2044 := f2018.ext E2030
  clear f2018
  have f2045 := f2019.ext E2030
  clear f2019
  have f2046 := u2026.ext E2030
  clear u2026
  have f2047 := u2027.ext E2030
  clear u2027
  have f2048 := u2028.ext E2030
  clear u2028
  have f2049 := u2029.ext E2030
  clear u2029
  have f2050 : Fld Z h2030 y "com/example/epicycle/epicycle/Timeout" "holder" "Lcom/example/epicycle/epicycle/Timeout$Holder;" .null := D2030 (Or.inr (own_w hw 73 rfl)) (ty := (.object "com/example/epicycle/epicycle/Timeout$Holder")) (by decide)
  have f2051 : Fld Z h2030 y "com/example/epicycle/epicycle/Timeout" "task" "Ljava/lang/Runnable;" .null := D2030 (Or.inr (own_w hw 75 rfl)) (ty := (.object "java/lang/Runnable")) (by decide)
  have f2052 : Fld Z h2030 y "com/example/epicycle/epicycle/Timeout" "fireTick" "J" (.long (0 : Int64)) := D2030 (Or.inr (own_w hw 77 rfl)) (ty := .long) (by decide)
  have f2053 : Fld Z h2030 y "com/example/epicycle/epicycle/Timeout" "prev" "I" (.int (0 : Int32)) := D2030 (Or.inl (own_w hw 156 rfl)) (ty := .int) (by decide)
  have f2054 : Fld Z h2030 y "com/example/epicycle/epicycle/Timeout" "next" "I" (.int (0 : Int32)) := D2030 (Or.inl (own_w hw 222 rfl)) (ty := .int) (by decide)
  have sz2030 : n0 ≤ h2030.size := Nat.le_trans sz2004 E2030.1
  clear sz2004
  refine own_st (st2030) ?_
  clear st2030 X2004 E2030 D2030 g2030
  show OFin p e below s _ _ _ (T2030.setTop (mkF m 61 #[.val (.int p1), .val (.long t1), .second, .val (.long t2), .second, .val (.int lv), .val (.int ts), .val (.ref tt), .val (.ref rg), .val (.ref x), .unset, .unset, .unset, .unset, .unset, .unset, .unset, .unset, .unset, .unset] [(.ref y)]))
  refine own_st (fun _ kS => XS.dup X2030.here hx rfl (hb hby at_61) rfl rfl kS) ?_
  show OFin p e below s _ _ _ (T2030.setTop (mkF m 62 #[.val (.int p1), .val (.long t1), .second, .val (.long t2), .second, .val (.int lv), .val (.int ts), .val (.ref tt), .val (.ref rg), .val (.ref x), .unset, .unset, .unset, .unset, .unset, .unset, .unset, .unset, .unset, .unset] [(.ref y), (.ref y)]))
  refine own_st (fun _ kS => XS.aconstNull X2030.here hx rfl (hb hby at_62) kS) ?_
  show OFin p e below s _ _ _ (T2030.setTop (mkF m 63 #[.val (.int p1), .val (.long t1), .second, .val (.long t2), .second, .val (.int lv), .val (.int ts), .val (.ref tt), .val (.ref rg), .val (.ref x), .unset, .unset, .unset, .unset, .unset, .unset, .unset, .unset, .unset, .unset] [.null, (.ref y), (.ref y)]))
  refine own_st (fun _ kS => XS.aconstNull X2030.here hx rfl (hb hby at_63) kS) ?_
  show OFin p e below s _ _ _ (T2030.setTop (mkF m 64 #[.val (.int p1), .val (.long t1), .second, .val (.long t2), .second, .val (.int lv), .val (.int ts), .val (.ref tt), .val (.ref rg), .val (.ref x), .unset, .unset, .unset, .unset, .unset, .unset, .unset, .unset, .unset, .unset] [.null, .null, (.ref y), (.ref y)]))
  refine own_st (fun _ kS => XS.lloadN X2030.here hx rfl (hb hby at_64) rfl kS) ?_
  show OFin p e below s _ _ _ (T2030.setTop (mkF m 65 #[.val (.int p1), .val (.long t1), .second, .val (.long t2), .second, .val (.int lv), .val (.int ts), .val (.ref tt), .val (.ref rg), .val (.ref x), .unset, .unset, .unset, .unset, .unset, .unset, .unset, .unset, .unset, .unset] [(.long t2), .null, .null, (.ref y), (.ref y)]))
  obtain ⟨v2055, T2055, L2055, X2055, hQ2055, st2055⟩ := own_init X2030 hx hZ (y := (⟨"com/example/epicycle/epicycle/Timeout", "<init>", "(Lcom/example/epicycle/epicycle/Timeout$Holder;Ljava/lang/Runnable;J)V"⟩ : MethodName)) (rm := ⟨1, 0, 0, 12⟩) (W := 1) (a := y) (argsL := [.null, .null, (.long t2)]) (rest := [(.ref y)]) rfl hown (own_w hw 68 rfl) (own_w hw 69 rfl) (own_w hw 67 rfl) (own_w hw 70 rfl) (rmTO l Z a0 hw y t2 h2030 n0 sz2030 ⟨A2030, f2050, f2051, f2052, f2053, f2054⟩ g_y) e2030 (g := (mkF m 65 #[.val (.int p1), .val (.long t1), .second, .val (.long t2), .second, .val (.int lv), .val (.int ts), .val (.ref tt), .val (.ref rg), .val (.ref x), .unset, .unset, .unset, .unset, .unset, .unset, .unset, .unset, .unset, .unset] [(.long t2), .null, .null, (.ref y), (.ref y)])) rfl (by rw [hml]; rfl) (lenOf own_pd19 rfl) rfl (by show 2 * 0 + _ ≤ _; exact Nat.le_of_eq rfl) (hb hby at_65) (by decide) (by decide) (by decide) (by decide)
  obtain ⟨rfl, N2055, K2055, B2055_0⟩ := hQ2055
  have fr2055 := Fr.app fr2004 N2055
  clear fr2004 N2055
  have f2056 := f2031.keep K2055
  clear f2031
  have f2057 := f2032.keep K2055 (ninS ne_tt_y nin0)
  clear f2032
  have f2058 := f2033.keep K2055 (ninS ne_tt_y nin0)
  clear f2033
  have f2059 := f2034.keep K2055 (ninS ne_tt_y nin0)
  clear f2034
  have f2060 := f2035.keep K2055
  clear f2035
  have f2061 := f2036.keep K2055 (ninS ne_cl_y nin0)
  clear f2036
  have f2062 := f2037.keep K2055 (ninS ne_cl_y nin0)
  clear f2037
  have f2063 := f2038.keep K2055 (ninS ne_cl_y nin0)
  clear f2038
  have f2064 := f2039.keep K2055 (ninS ne_ck_y nin0)
  clear f2039
  have f2065 := f2040.keep K2055
  clear f2040
  have f2066 := f2041.keep K2055 (ninS ne_rg_y nin0)
  clear f2041
  have f2067 := f2042.keep K2055 (ninS ne_rg_y nin0)
  clear f2042
  have f2068 := f2043.keep K2055 (ninS ne_rg_y nin0)
  clear f2043
  have f2069 := f2044.keep K2055 (ninS ne_rg_y nin0)
  clear f2044
  have f2070 := f2045.keep K2055 (ninS ne_sa_y nin0)
  clear f2045
  have f2071 := f2046.keep K2055
  clear f2046
  have f2072 := f2047.keep K2055 (ninS ne_x_y nin0)
  clear f2047
  have f2073 := f2048.keep K2055 (ninS ne_x_y nin0)
  clear f2048
  have f2074 := f2049.keep K2055 (ninS ne_x_y nin0)
  clear f2049
  have f2075 := A2030.keep K2055
  clear f2050
  clear f2051
  clear f2052
  clear f2053
  clear f2054
  have sz2055 : n0 ≤ T2055.heap.size := Nat.le_trans sz2030 K2055.1
  clear sz2030
  clear K2055
  obtain ⟨u2081, u2082, u2083, u2084⟩ := B2055_0
  refine own_st (st2055) ?_
  clear st2055 X2030 e2030
  show OFin p e below s _ _ _ (T2055.setTop (mkF m 68 #[.val (.int p1), .val (.long t1), .second, .val (.long t2), .second, .val (.int lv), .val (.int ts), .val (.ref tt), .val (.ref rg), .val (.ref x), .unset, .unset, .unset, .unset, .unset, .unset, .unset, .unset, .unset, .unset] [(.ref y)]))
  refine own_st (fun _ kS => XS.astore X2055.here hx rfl (hb hby at_68) rfl rfl (l' := #[.val (.int p1), .val (.long t1), .second, .val (.long t2), .second, .val (.int lv), .val (.int ts), .val (.ref tt), .val (.ref rg), .val (.ref x), .val (.ref y), .unset, .unset, .unset, .unset, .unset, .unset, .unset, .unset, .unset]) rfl kS) ?_
  show OFin p e below s _ _ _ (T2055.setTop (mkF m 70 #[.val (.int p1), .val (.long t1), .second, .val (.long t2), .second, .val (.int lv), .val (.int ts), .val (.ref tt), .val (.ref rg), .val (.ref x), .val (.ref y), .unset, .unset, .unset, .unset, .unset, .unset, .unset, .unset, .unset] []))
  refine own_st (fun _ kS => XS.aload X2055.here hx rfl (hb hby at_70) rfl rfl kS) ?_
  show OFin p e below s _ _ _ (T2055.setTop (mkF m 72 #[.val (.int p1), .val (.long t1), .second, .val (.long t2), .second, .val (.int lv), .val (.int ts), .val (.ref tt), .val (.ref rg), .val (.ref x), .val (.ref y), .unset, .unset, .unset, .unset, .unset, .unset, .unset, .unset, .unset] [(.ref rg)]))
  refine own_st (fun _ kS => XS.aload X2055.here hx rfl (hb hby at_72) rfl rfl kS) ?_
  show OFin p e below s _ _ _ (T2055.setTop (mkF m 74 #[.val (.int p1), .val (.long t1), .second, .val (.long t2), .second, .val (.int lv), .val (.int ts), .val (.ref tt), .val (.ref rg), .val (.ref x), .val (.ref y), .unset, .unset, .unset, .unset, .unset, .unset, .unset, .unset, .unset] [(.ref x), (.ref rg)]))
  obtain ⟨d1, hd1, e1⟩ := own_dig_r t1 lv
  obtain ⟨d2, hd2, e2⟩ := own_dig_r t2 lv
  obtain ⟨v2085, T2085, L2085, X2085, hQ2085, st2085⟩ := own_virtual X2055 hx hZ (y := (⟨"com/example/epicycle/epicycle/SlotRing", "add", "(Lcom/example/epicycle/epicycle/Timeout;)V"⟩ : MethodName)) (z := (⟨"com/example/epicycle/epicycle/SlotRing", "add", "(Lcom/example/epicycle/epicycle/Timeout;)V"⟩ : MethodName)) (rm := ⟨5, 2, 1031, 67⟩) (W := 0) (a := rg) (argsL := [(.ref x)]) (rest := []) hown (own_w hw 78 rfl) (own_w hw 79 rfl) (notFace_of_selects (args := #[]) (mvT hZ (own_w hw 81 rfl))) (own_w hw 81 rfl) (own_w hw 80 rfl) (own_w hw 52 rfl) (own_w hw 82 rfl) (rmAD0 l Z a0 hw rg x T2055.heap n0 sz2055 sa tt cl ck lv (Int32.ofNat d1) d1 0 t1 (fun _ => .null) ⟨f2065, f2066, f2067, f2068, f2069, f2070⟩ ⟨f2056, f2057, f2058, f2059⟩ ⟨f2060, f2061, f2062, f2063, f2064⟩ ⟨f2071, f2072, f2073, f2074⟩ g_rg g_sa g_x g_cl g_ck ne_rg_sa (Ne.symm ne_tt_rg) (Ne.symm ne_cl_rg) (Ne.symm ne_ck_rg) ne_rg_x (Ne.symm ne_tt_sa) (Ne.symm ne_cl_sa) (Ne.symm ne_ck_sa) ne_sa_x ne_tt_cl ne_tt_ck ne_tt_x ne_cl_ck ne_cl_x ne_ck_x e1 (own_tn hd1) hd1 rfl) rfl f2065 (g := (mkF m 74 #[.val (.int p1), .val (.long t1), .second, .val (.long t2), .second, .val (.int lv), .val (.int ts), .val (.ref tt), .val (.ref rg), .val (.ref x), .val (.ref y), .unset, .unset, .unset, .unset, .unset, .unset, .unset, .unset, .unset] [(.ref x), (.ref rg)])) rfl (by rw [hml]; rfl) (lenOf own_pd14 rfl) rfl (by show 2 * 0 + _ ≤ _; exact Nat.le_of_eq rfl) (hb hby at_74) (by decide) (by decide) (by decide) (by decide)
  obtain ⟨rfl, N2085, K2085, s1, ge_s1, c0, ge_c0, ne_s1_c0, B2085_0, B2085_1, B2085_2, B2085_3⟩ := hQ2085
  have ne_ck_s1 : ck ≠ s1 := Nat.ne_of_lt (Nat.lt_of_lt_of_le f2064.lt ge_s1)
  have ne_cl_s1 : cl ≠ s1 := Nat.ne_of_lt (Nat.lt_of_lt_of_le f2060.lt ge_s1)
  have ne_rg_s1 : rg ≠ s1 := Nat.ne_of_lt (Nat.lt_of_lt_of_le f2065.lt ge_s1)
  have ne_sa_s1 : sa ≠ s1 := Nat.ne_of_lt (Nat.lt_of_lt_of_le f2070.lt ge_s1)
  have ne_tt_s1 : tt ≠ s1 := Nat.ne_of_lt (Nat.lt_of_lt_of_le f2056.lt ge_s1)
  have ne_x_s1 : x ≠ s1 := Nat.ne_of_lt (Nat.lt_of_lt_of_le f2071.lt ge_s1)
  have ne_y_s1 : y ≠ s1 := Nat.ne_of_lt (Nat.lt_of_lt_of_le u2081.lt ge_s1)
  have g_s1 : n0 ≤ s1 := Nat.le_trans sz2055 ge_s1
  have ne_ck_c0 : ck ≠ c0 := Nat.ne_of_lt (Nat.lt_of_lt_of_le f2064.lt ge_c0)
  have ne_cl_c0 : cl ≠ c0 := Nat.ne_of_lt (Nat.lt_of_lt_of_le f2060.lt ge_c0)
  have ne_rg_c0 : rg ≠ c0 := Nat.ne_of_lt (Nat.lt_of_lt_of_le f2065.lt ge_c0)
  have ne_sa_c0 : sa ≠ c0 := Nat.ne_of_lt (Nat.lt_of_lt_of_le f2070.lt ge_c0)
  have ne_tt_c0 : tt ≠ c0 := Nat.ne_of_lt (Nat.lt_of_lt_of_le f2056.lt ge_c0)
  have ne_x_c0 : x ≠ c0 := Nat.ne_of_lt (Nat.lt_of_lt_of_le f2071.lt ge_c0)
  have ne_y_c0 : y ≠ c0 := Nat.ne_of_lt (Nat.lt_of_lt_of_le u2081.lt ge_c0)
  have g_c0 : n0 ≤ c0 := Nat.le_trans sz2055 ge_c0
  have fr2085 := Fr.app fr2055 N2085
  clear fr2055 N2085
  have f2086 := f2056.keep K2085
  clear f2056
  have f2087 := f2057.keep K2085 (ninS ne_tt_rg (ninS ne_tt_sa (ninS ne_tt_x (ninS ne_tt_cl (ninS ne_tt_ck nin0)))))
  clear f2057
  have f2088 := f2058.keep K2085 (ninS ne_tt_rg (ninS ne_tt_sa (ninS ne_tt_x (ninS ne_tt_cl (ninS ne_tt_ck nin0)))))
  clear f2058
  have f2089 := f2059.keep K2085 (ninS ne_tt_rg (ninS ne_tt_sa (ninS ne_tt_x (ninS ne_tt_cl (ninS ne_tt_ck nin0)))))
  clear f2059
  have f2090 := f2060.keep K2085
  clear f2060
  clear f2061
  clear f2062
  clear f2063
  clear f2064
  have f2095 := f2065.keep K2085
  clear f2065
  clear f2066
  clear f2067
  clear f2068
  clear f2069
  clear f2070
  have f2101 := f2071.keep K2085
  clear f2071
  clear f2072
  clear f2073
  clear f2074
  have f2105 := u2081.keep K2085
  clear u2081
  have f2106 := u2082.keep K2085 (ninS (Ne.symm ne_rg_y) (ninS (Ne.symm ne_sa_y) (ninS (Ne.symm ne_x_y) (ninS (Ne.symm ne_cl_y) (ninS (Ne.symm ne_ck_y) nin0)))))
  clear u2082
  have f2107 := u2083.keep K2085 (ninS (Ne.symm ne_rg_y) (ninS (Ne.symm ne_sa_y) (ninS (Ne.symm ne_x_y) (ninS (Ne.symm ne_cl_y) (ninS (Ne.symm ne_ck_y) nin0)))))
  clear u2083
  have f2108 := u2084.keep K2085 (ninS (Ne.symm ne_rg_y) (ninS (Ne.symm ne_sa_y) (ninS (Ne.symm ne_x_y) (ninS (Ne.symm ne_cl_y) (ninS (Ne.symm ne_ck_y) nin0)))))
  clear u2084
  have sz2085 : n0 ≤ T2085.heap.size := Nat.le_trans sz2055 K2085.1
  clear sz2055
  clear K2085
  obtain ⟨u2109, u2110, u2111, u2112, u2113, u2114⟩ := B2085_0
  obtain ⟨u2115, u2116, u2117, u2118, u2119, u2120, u2121⟩ := B2085_1
  obtain ⟨u2122, u2123, u2124, u2125, u2126, u2127⟩ := B2085_2
  obtain ⟨u2128, u2129, u2130, u2131⟩ := B2085_3
  refine own_st (st2085) ?_
  clear st2085 X2055
  show OFin p e below s _ _ _ (T2085.setTop (mkF m 77 #[.val (.int p1), .val (.long t1), .second, .val (.long t2), .second, .val (.int lv), .val (.int ts), .val (.ref tt), .val (.ref rg), .val (.ref x), .val (.ref y), .unset, .unset, .unset, .unset, .unset, .unset, .unset, .unset, .unset] []))
  refine own_st (fun _ kS => XS.aload X2085.here hx rfl (hb hby at_77) rfl rfl kS) ?_
  show OFin p e below s _ _ _ (T2085.setTop (mkF m 79 #[.val (.int p1), .val (.long t1), .second, .val (.long t2), .second, .val (.int lv), .val (.int ts), .val (.ref tt), .val (.ref rg), .val (.ref x), .val (.ref y), .unset, .unset, .unset, .unset, .unset, .unset, .unset, .unset, .unset] [(.ref rg)]))
  refine own_st (fun _ kS => XS.aload X2085.here hx rfl (hb hby at_79) rfl rfl kS) ?_
  show OFin p e below s _ _ _ (T2085.setTop (mkF m 81 #[.val (.int p1), .val (.long t1), .second, .val (.long t2), .second, .val (.int lv), .val (.int ts), .val (.ref tt), .val (.ref rg), .val (.ref x), .val (.ref y), .unset, .unset, .unset, .unset, .unset, .unset, .unset, .unset, .unset] [(.ref y), (.ref rg)]))
  by_cases hab : d1 = d2
  · subst hab
    obtain ⟨v2132, T2132, L2132, X2132, hQ2132, st2132⟩ := own_virtual X2085 hx hZ (y := (⟨"com/example/epicycle/epicycle/SlotRing", "add", "(Lcom/example/epicycle/epicycle/Timeout;)V"⟩ : MethodName)) (z := (⟨"com/example/epicycle/epicycle/SlotRing", "add", "(Lcom/example/epicycle/epicycle/Timeout;)V"⟩ : MethodName)) (rm := ⟨5, 0, 0, 67⟩) (W := 0) (a := rg) (argsL := [(.ref y)]) (rest := []) hown (own_w hw 78 rfl) (own_w hw 79 rfl) (notFace_of_selects (args := #[]) (mvT hZ (own_w hw 81 rfl))) (own_w hw 81 rfl) (own_w hw 80 rfl) (own_w hw 52 rfl) (own_w hw 82 rfl) (rmAD2 l Z a0 hw rg y T2085.heap n0 sz2085 sa tt cl ck c0 s1 x lv (Int32.ofNat d1) d1 ((0 : Int64) ||| own_bit (Int32.ofNat d1)) t2 (fun i => if i = d1 then .ref s1 else (fun _ => .null) i) (fun i => if i = 0 then .ref c0 else .null) (fun i => if i = 0 then .ref x else .null) t1 t1 ⟨u2109, u2110, u2111, u2112, u2113, u2114⟩ ⟨f2086, f2087, f2088, f2089⟩ ⟨u2122, u2123, u2124, u2125, u2126, u2127⟩ ⟨f2105, f2106, f2107, f2108⟩ ⟨u2115, u2116, u2117, u2118, u2119, u2120, u2121⟩ ⟨u2128, u2129, u2130, u2131⟩ g_rg g_s1 g_y g_cl g_c0 g_x ne_rg_sa (Ne.symm ne_tt_rg) (Ne.symm ne_cl_rg) (Ne.symm ne_ck_rg) ne_rg_c0 ne_rg_y ne_rg_s1 ne_rg_x (Ne.symm ne_tt_sa) (Ne.symm ne_cl_sa) (Ne.symm ne_ck_sa) ne_sa_c0 ne_sa_y ne_sa_s1 ne_sa_x ne_tt_cl ne_tt_ck ne_tt_c0 ne_tt_y ne_tt_s1 ne_tt_x ne_cl_ck ne_cl_c0 ne_cl_y ne_cl_s1 ne_cl_x ne_ck_c0 ne_ck_y ne_ck_s1 ne_ck_x (Ne.symm ne_y_c0) (Ne.symm ne_s1_c0) (Ne.symm ne_x_c0) ne_y_s1 (Ne.symm ne_x_y) (Ne.symm ne_x_s1) e2 (own_tn hd1) hd1 (if_pos rfl) rfl rfl) rfl u2109 (g := (mkF m 81 #[.val (.int p1), .val (.long t1), .second, .val (.long t2), .second, .val (.int lv), .val (.int ts), .val (.ref tt), .val (.ref rg), .val (.ref x), .val (.ref y), .unset, .unset, .unset, .unset, .unset, .unset, .unset, .unset, .unset] [(.ref y), (.ref rg)])) rfl (by rw [hml]; rfl) (lenOf own_pd14 rfl) rfl (by show 2 * 0 + _ ≤ _; exact Nat.le_of_eq rfl) (hb hby at_81) (by decide) (by decide) (by decide) (by decide)
    obtain ⟨rfl, N2132, K2132, ea', B2132_0, B2132_1, B2132_2, B2132_3, B2132_4⟩ := hQ2132
    have fr2132 := Fr.app fr2085 N2132
    have f2133 := f2086.keep K2132
    clear f2086
    have f2134 := f2087.keep K2132 (ninS ne_tt_rg (ninS ne_tt_s1 (ninS ne_tt_y (ninS ne_tt_cl (ninS ne_tt_c0 (ninS ne_tt_x nin0))))))
    clear f2087
    have f2135 := f2088.keep K2132 (ninS ne_tt_rg (ninS ne_tt_s1 (ninS ne_tt_y (ninS ne_tt_cl (ninS ne_tt_c0 (ninS ne_tt_x nin0))))))
    clear f2088
    have f2136 := f2089.keep K2132 (ninS ne_tt_rg (ninS ne_tt_s1 (ninS ne_tt_y (ninS ne_tt_cl (ninS ne_tt_c0 (ninS ne_tt_x nin0))))))
    clear f2089
    have f2137 := u2122.keep K2132
    clear u2122
    have f2138 := u2109.keep K2132
    clear u2109
    have f2139 := u2128.keep K2132
    clear u2128
    have f2140 := f2105.keep K2132
    clear f2105
    clear f2106
    clear f2107
    clear f2108
    clear u2110
    clear u2111
    clear u2112
    clear u2113
    have f2148 := u2114.keep K2132 (ninS (Ne.symm ne_rg_sa) (ninS ne_sa_s1 (ninS ne_sa_y (ninS (Ne.symm ne_cl_sa) (ninS ne_sa_c0 (ninS ne_sa_x nin0))))))
    clear u2114
    have f2149 := u2115.keep K2132
    clear u2115
    clear u2116
    clear u2117
    clear u2118
    clear u2119
    clear u2120
    clear u2121
    clear u2123
    clear u2124
    clear u2125
    have f2159 := u2126.keep K2132 (ninS ne_ck_rg (ninS ne_ck_s1 (ninS ne_ck_y (ninS (Ne.symm ne_cl_ck) (ninS ne_ck_c0 (ninS ne_ck_x nin0))))))
    clear u2126
    clear u2127
    clear u2129
    clear u2130
    clear u2131
    have sz2132 : n0 ≤ T2132.heap.size := Nat.le_trans sz2085 K2132.1
    clear sz2085
    obtain ⟨u2164, u2165, u2166, u2167, u2168, u2169⟩ := B2132_0
    obtain ⟨u2170, u2171, u2172, u2173, u2174, u2175, u2176⟩ := B2132_1
    obtain ⟨u2177, u2178, u2179, u2180, u2181, u2182⟩ := B2132_2
    obtain ⟨u2183, u2184, u2185, u2186⟩ := B2132_3
    obtain ⟨u2187, u2188, u2189, u2190⟩ := B2132_4
    refine own_st (st2132) ?_
    clear st2132 X2085
    show OFin p e below s _ _ _ (T2132.setTop (mkF m 84 #[.val (.int p1), .val (.long t1), .second, .val (.long t2), .second, .val (.int lv), .val (.int ts), .val (.ref tt), .val (.ref rg), .val (.ref x), .val (.ref y), .unset, .unset, .unset, .unset, .unset, .unset, .unset, .unset, .unset] []))
    refine own_st (fun _ kS => XS.lloadN X2132.here hx rfl (hb hby at_84) rfl kS) ?_
    show OFin p e below s _ _ _ (T2132.setTop (mkF m 85 #[.val (.int p1), .val (.long t1), .second, .val (.long t2), .second, .val (.int lv), .val (.int ts), .val (.ref tt), .val (.ref rg), .val (.ref x), .val (.ref y), .unset, .unset, .unset, .unset, .unset, .unset, .unset, .unset, .unset] [(.long t1)]))
    refine own_st (fun _ kS => XS.iload X2132.here hx rfl (hb hby at_85) rfl kS) ?_
    show OFin p e below s _ _ _ (T2132.setTop (mkF m 87 #[.val (.int p1), .val (.long t1), .second, .val (.long t2), .second, .val (.int lv), .val (.int ts), .val (.ref tt), .val (.ref rg), .val (.ref x), .val (.ref y), .unset, .unset, .unset, .unset, .unset, .unset, .unset, .unset, .unset] [(.int lv), (.long t1)]))
    obtain ⟨v2191, T2191, L2191, X2191, hQ2191, st2191⟩ := own_static X2132 hx hZ (y := (⟨"com/example/epicycle/epicycle/SlotRingTakePinLaw", "dig", "(JI)I"⟩ : MethodName)) (rm := ⟨0, 0, 0, 0⟩) (W := 0) (argsL := [(.long t1), (.int lv)]) (rest := []) hown (own_w hw 157 rfl) (own_w hw 158 rfl) (own_w hw 159 rfl) (own_w hw 160 rfl) (rmLG l Z a0 hw t1 lv T2132.heap) rfl (g := (mkF m 87 #[.val (.int p1), .val (.long t1), .second, .val (.long t2), .second, .val (.int lv), .val (.int ts), .val (.ref tt), .val (.ref rg), .val (.ref x), .val (.ref y), .unset, .unset, .unset, .unset, .unset, .unset, .unset, .unset, .unset] [(.int lv), (.long t1)])) rfl (by rw [hml]; rfl) (lenOf own_pd12 rfl) rfl (by show 2 * 0 + _ ≤ _; exact Nat.le_of_eq rfl) (hb hby at_87) (by decide) (by decide) (by decide) (by decide)
    obtain ⟨rfl, e2191, rfl⟩ := hQ2191
    rw [List.append_nil] at X2191
    refine own_st (st2191) ?_
    clear st2191 X2132
    show OFin p e below s _ _ _ (T2191.setTop (mkF m 90 #[.val (.int p1), .val (.long t1), .second, .val (.long t2), .second, .val (.int lv), .val (.int ts), .val (.ref tt), .val (.ref rg), .val (.ref x), .val (.ref y), .unset, .unset, .unset, .unset, .unset, .unset, .unset, .unset, .unset] [(.int (own_dgl t1 lv))]))
    rw [own_dgl_eq, e1]
    show OFin p e below s _ _ _ (T2191.setTop (mkF m 90 #[.val (.int p1), .val (.long t1), .second, .val (.long t2), .second, .val (.int lv), .val (.int ts), .val (.ref tt), .val (.ref rg), .val (.ref x), .val (.ref y), .unset, .unset, .unset, .unset, .unset, .unset, .unset, .unset, .unset] [(.int (Int32.ofNat d1))]))
    refine own_st (fun _ kS => XS.istore X2191.here hx rfl (hb hby at_90) rfl (l' := #[.val (.int p1), .val (.long t1), .second, .val (.long t2), .second, .val (.int lv), .val (.int ts), .val (.ref tt), .val (.ref rg), .val (.ref x), .val (.ref y), .val (.int (Int32.ofNat d1)), .unset, .unset, .unset, .unset, .unset, .unset, .unset, .unset]) rfl kS) ?_
    show OFin p e below s _ _ _ (T2191.setTop (mkF m 92 #[.val (.int p1), .val (.long t1), .second, .val (.long t2), .second, .val (.int lv), .val (.int ts), .val (.ref tt), .val (.ref rg), .val (.ref x), .val (.ref y), .val (.int (Int32.ofNat d1)), .unset, .unset, .unset, .unset, .unset, .unset, .unset, .unset] []))
    refine own_st (fun _ kS => XS.lloadN X2191.here hx rfl (hb hby at_92) rfl kS) ?_
    show OFin p e below s _ _ _ (T2191.setTop (mkF m 93 #[.val (.int p1), .val (.long t1), .second, .val (.long t2), .second, .val (.int lv), .val (.int ts), .val (.ref tt), .val (.ref rg), .val (.ref x), .val (.ref y), .val (.int (Int32.ofNat d1)), .unset, .unset, .unset, .unset, .unset, .unset, .unset, .unset] [(.long t2)]))
    refine own_st (fun _ kS => XS.iload X2191.here hx rfl (hb hby at_93) rfl kS) ?_
    show OFin p e below s _ _ _ (T2191.setTop (mkF m 95 #[.val (.int p1), .val (.long t1), .second, .val (.long t2), .second, .val (.int lv), .val (.int ts), .val (.ref tt), .val (.ref rg), .val (.ref x), .val (.ref y), .val (.int (Int32.ofNat d1)), .unset, .unset, .unset, .unset, .unset, .unset, .unset, .unset] [(.int lv), (.long t2)]))
    obtain ⟨v2192, T2192, L2192, X2192, hQ2192, st2192⟩ := own_static X2191 hx hZ (y := (⟨"com/example/epicycle/epicycle/SlotRingTakePinLaw", "dig", "(JI)I"⟩ : MethodName)) (rm := ⟨0, 0, 0, 0⟩) (W := 0) (argsL := [(.long t2), (.int lv)]) (rest := []) hown (own_w hw 157 rfl) (own_w hw 158 rfl) (own_w hw 159 rfl) (own_w hw 160 rfl) (rmLG l Z a0 hw t2 lv T2132.heap) e2191 (g := (mkF m 95 #[.val (.int p1), .val (.long t1), .second, .val (.long t2), .second, .val (.int lv), .val (.int ts), .val (.ref tt), .val (.ref rg), .val (.ref x), .val (.ref y), .val (.int (Int32.ofNat d1)), .unset, .unset, .unset, .unset, .unset, .unset, .unset, .unset] [(.int lv), (.long t2)])) rfl (by rw [hml]; rfl) (lenOf own_pd12 rfl) rfl (by show 2 * 0 + _ ≤ _; exact Nat.le_of_eq rfl) (hb hby at_95) (by decide) (by decide) (by decide) (by decide)
    obtain ⟨rfl, e2192, rfl⟩ := hQ2192
    rw [List.append_nil] at X2192
    refine own_st (st2192) ?_
    clear st2192 X2191 e2191
    show OFin p e below s _ _ _ (T2192.setTop (mkF m 98 #[.val (.int p1), .val (.long t1), .second, .val (.long t2), .second, .val (.int lv), .val (.int ts), .val (.ref tt), .val (.ref rg), .val (.ref x), .val (.ref y), .val (.int (Int32.ofNat d1)), .unset, .unset, .unset, .unset, .unset, .unset, .unset, .unset] [(.int (own_dgl t2 lv))]))
    rw [own_dgl_eq, e2]
    show OFin p e below s _ _ _ (T2192.setTop (mkF m 98 #[.val (.int p1), .val (.long t1), .second, .val (.long t2), .second, .val (.int lv), .val (.int ts), .val (.ref tt), .val (.ref rg), .val (.ref x), .val (.ref y), .val (.int (Int32.ofNat d1)), .unset, .unset, .unset, .unset, .unset, .unset, .unset, .unset] [(.int (Int32.ofNat d1))]))
    refine own_st (fun _ kS => XS.istore X2192.here hx rfl (hb hby at_98) rfl (l' := #[.val (.int p1), .val (.long t1), .second, .val (.long t2), .second, .val (.int lv), .val (.int ts), .val (.ref tt), .val (.ref rg), .val (.ref x), .val (.ref y), .val (.int (Int32.ofNat d1)), .val (.int (Int32.ofNat d1)), .unset, .unset, .unset, .unset, .unset, .unset, .unset]) rfl kS) ?_
    show OFin p e below s _ _ _ (T2192.setTop (mkF m 100 #[.val (.int p1), .val (.long t1), .second, .val (.long t2), .second, .val (.int lv), .val (.int ts), .val (.ref tt), .val (.ref rg), .val (.ref x), .val (.ref y), .val (.int (Int32.ofNat d1)), .val (.int (Int32.ofNat d1)), .unset, .unset, .unset, .unset, .unset, .unset, .unset] []))
    refine own_st (fun _ kS => XS.iload X2192.here hx rfl (hb hby at_100) rfl kS) ?_
    show OFin p e below s _ _ _ (T2192.setTop (mkF m 102 #[.val (.int p1), .val (.long t1), .second, .val (.long t2), .second, .val (.int lv), .val (.int ts), .val (.ref tt), .val (.ref rg), .val (.ref x), .val (.ref y), .val (.int (Int32.ofNat d1)), .val (.int (Int32.ofNat d1)), .unset, .unset, .unset, .unset, .unset, .unset, .unset] [(.int ts)]))
    by_cases cts : ts = (0 : Int32)
    · refine own_st (fun _ kS => XS.ifYes X2192.here hx rfl (pc0 := 102) (pc' := 110) rfl (hb hby at_102) rfl ((if0 _ _).trans (teq cts).1) (by decide) (by decide) kS) ?_
      show OFin p e below s _ _ _ (T2192.setTop (mkF m 110 #[.val (.int p1), .val (.long t1), .second, .val (.long t2), .second, .val (.int lv), .val (.int ts), .val (.ref tt), .val (.ref rg), .val (.ref x), .val (.ref y), .val (.int (Int32.ofNat d1)), .val (.int (Int32.ofNat d1)), .unset, .unset, .unset, .unset, .unset, .unset, .unset] []))
      refine own_st (fun _ kS => XS.iload X2192.here hx rfl (hb hby at_110) rfl kS) ?_
      show OFin p e below s _ _ _ (T2192.setTop (mkF m 112 #[.val (.int p1), .val (.long t1), .second, .val (.long t2), .second, .val (.int lv), .val (.int ts), .val (.ref tt), .val (.ref rg), .val (.ref x), .val (.ref y), .val (.int (Int32.ofNat d1)), .val (.int (Int32.ofNat d1)), .unset, .unset, .unset, .unset, .unset, .unset, .unset] [(.int (Int32.ofNat d1))]))
      refine own_st (fun _ kS => XS.istore X2192.here hx rfl (hb hby at_112) rfl (l' := #[.val (.int p1), .val (.long t1), .second, .val (.long t2), .second, .val (.int lv), .val (.int ts), .val (.ref tt), .val (.ref rg), .val (.ref x), .val (.ref y), .val (.int (Int32.ofNat d1)), .val (.int (Int32.ofNat d1)), .val (.int (Int32.ofNat d1)), .unset, .unset, .unset, .unset, .unset, .unset]) rfl kS) ?_
      show OFin p e below s _ _ _ (T2192.setTop (mkF m 114 #[.val (.int p1), .val (.long t1), .second, .val (.long t2), .second, .val (.int lv), .val (.int ts), .val (.ref tt), .val (.ref rg), .val (.ref x), .val (.ref y), .val (.int (Int32.ofNat d1)), .val (.int (Int32.ofNat d1)), .val (.int (Int32.ofNat d1)), .unset, .unset, .unset, .unset, .unset, .unset] []))
      refine own_st (fun _ kS => XS.iload X2192.here hx rfl (hb hby at_114) rfl kS) ?_
      show OFin p e below s _ _ _ (T2192.setTop (mkF m 116 #[.val (.int p1), .val (.long t1), .second, .val (.long t2), .second, .val (.int lv), .val (.int ts), .val (.ref tt), .val (.ref rg), .val (.ref x), .val (.ref y), .val (.int (Int32.ofNat d1)), .val (.int (Int32.ofNat d1)), .val (.int (Int32.ofNat d1)), .unset, .unset, .unset, .unset, .unset, .unset] [(.int (Int32.ofNat d1))]))
      refine own_st (fun _ kS => XS.iload X2192.here hx rfl (hb hby at_116) rfl kS) ?_
      show OFin p e below s _ _ _ (T2192.setTop (mkF m 118 #[.val (.int p1), .val (.long t1), .second, .val (.long t2), .second, .val (.int lv), .val (.int ts), .val (.ref tt), .val (.ref rg), .val (.ref x), .val (.ref y), .val (.int (Int32.ofNat d1)), .val (.int (Int32.ofNat d1)), .val (.int (Int32.ofNat d1)), .unset, .unset, .unset, .unset, .unset, .unset] [(.int (Int32.ofNat d1)), (.int (Int32.ofNat d1))]))
      refine own_st (fun _ kS => XS.icmpNo X2192.here hx rfl (hb hby at_118) rfl (teq rfl).2 kS) ?_
      show OFin p e below s _ _ _ (T2192.setTop (mkF m 121 #[.val (.int p1), .val (.long t1), .second, .val (.long t2), .second, .val (.int lv), .val (.int ts), .val (.ref tt), .val (.ref rg), .val (.ref x), .val (.ref y), .val (.int (Int32.ofNat d1)), .val (.int (Int32.ofNat d1)), .val (.int (Int32.ofNat d1)), .unset, .unset, .unset, .unset, .unset, .unset] []))
      refine own_st (fun _ kS => XS.iload X2192.here hx rfl (hb hby at_121) rfl kS) ?_
      show OFin p e below s _ _ _ (T2192.setTop (mkF m 123 #[.val (.int p1), .val (.long t1), .second, .val (.long t2), .second, .val (.int lv), .val (.int ts), .val (.ref tt), .val (.ref rg), .val (.ref x), .val (.ref y), .val (.int (Int32.ofNat d1)), .val (.int (Int32.ofNat d1)), .val (.int (Int32.ofNat d1)), .unset, .unset, .unset, .unset, .unset, .unset] [(.int (Int32.ofNat d1))]))
      refine own_st (fun _ kS => XS.iload X2192.here hx rfl (hb hby at_123) rfl kS) ?_
      show OFin p e below s _ _ _ (T2192.setTop (mkF m 125 #[.val (.int p1), .val (.long t1), .second, .val (.long t2), .second, .val (.int lv), .val (.int ts), .val (.ref tt), .val (.ref rg), .val (.ref x), .val (.ref y), .val (.int (Int32.ofNat d1)), .val (.int (Int32.ofNat d1)), .val (.int (Int32.ofNat d1)), .unset, .unset, .unset, .unset, .unset, .unset] [(.int (Int32.ofNat d1)), (.int (Int32.ofNat d1))]))
      refine own_st (fun _ kS => XS.icmpNo X2192.here hx rfl (hb hby at_125) rfl (teq rfl).2 kS) ?_
      show OFin p e below s _ _ _ (T2192.setTop (mkF m 128 #[.val (.int p1), .val (.long t1), .second, .val (.long t2), .second, .val (.int lv), .val (.int ts), .val (.ref tt), .val (.ref rg), .val (.ref x), .val (.ref y), .val (.int (Int32.ofNat d1)), .val (.int (Int32.ofNat d1)), .val (.int (Int32.ofNat d1)), .unset, .unset, .unset, .unset, .unset, .unset] []))
      refine own_st (fun _ kS => XS.aload X2192.here hx rfl (hb hby at_128) rfl rfl kS) ?_
      show OFin p e below s _ _ _ (T2192.setTop (mkF m 130 #[.val (.int p1), .val (.long t1), .second, .val (.long t2), .second, .val (.int lv), .val (.int ts), .val (.ref tt), .val (.ref rg), .val (.ref x), .val (.ref y), .val (.int (Int32.ofNat d1)), .val (.int (Int32.ofNat d1)), .val (.int (Int32.ofNat d1)), .unset, .unset, .unset, .unset, .unset, .unset] [(.ref x)]))
      refine own_st (fun _ kS => XS.astore X2192.here hx rfl (hb hby at_130) rfl rfl (l' := #[.val (.int p1), .val (.long t1), .second, .val (.long t2), .second, .val (.int lv), .val (.int ts), .val (.ref tt), .val (.ref rg), .val (.ref x), .val (.ref y), .val (.int (Int32.ofNat d1)), .val (.int (Int32.ofNat d1)), .val (.int (Int32.ofNat d1)), .val (.ref x), .unset, .unset, .unset, .unset, .unset]) rfl kS) ?_
      show OFin p e below s _ _ _ (T2192.setTop (mkF m 132 #[.val (.int p1), .val (.long t1), .second, .val (.long t2), .second, .val (.int lv), .val (.int ts), .val (.ref tt), .val (.ref rg), .val (.ref x), .val (.ref y), .val (.int (Int32.ofNat d1)), .val (.int (Int32.ofNat d1)), .val (.int (Int32.ofNat d1)), .val (.ref x), .unset, .unset, .unset, .unset, .unset] []))
      refine own_st (fun _ kS => XS.aload X2192.here hx rfl (hb hby at_132) rfl rfl kS) ?_
      show OFin p e below s _ _ _ (T2192.setTop (mkF m 134 #[.val (.int p1), .val (.long t1), .second, .val (.long t2), .second, .val (.int lv), .val (.int ts), .val (.ref tt), .val (.ref rg), .val (.ref x), .val (.ref y), .val (.int (Int32.ofNat d1)), .val (.int (Int32.ofNat d1)), .val (.int (Int32.ofNat d1)), .val (.ref x), .unset, .unset, .unset, .unset, .unset] [(.ref y)]))
      refine own_st (fun _ kS => XS.astore X2192.here hx rfl (hb hby at_134) rfl rfl (l' := #[.val (.int p1), .val (.long t1), .second, .val (.long t2), .second, .val (.int lv), .val (.int ts), .val (.ref tt), .val (.ref rg), .val (.ref x), .val (.ref y), .val (.int (Int32.ofNat d1)), .val (.int (Int32.ofNat d1)), .val (.int (Int32.ofNat d1)), .val (.ref x), .val (.ref y), .unset, .unset, .unset, .unset]) rfl kS) ?_
      show OFin p e below s _ _ _ (T2192.setTop (mkF m 136 #[.val (.int p1), .val (.long t1), .second, .val (.long t2), .second, .val (.int lv), .val (.int ts), .val (.ref tt), .val (.ref rg), .val (.ref x), .val (.ref y), .val (.int (Int32.ofNat d1)), .val (.int (Int32.ofNat d1)), .val (.int (Int32.ofNat d1)), .val (.ref x), .val (.ref y), .unset, .unset, .unset, .unset] []))
      refine own_st (fun _ kS => XS.goto X2192.here hx rfl (pc0 := 136) (pc' := 165) rfl (hb hby at_136) (by decide) (by decide) kS) ?_
      show OFin p e below s _ _ _ (T2192.setTop (mkF m 165 #[.val (.int p1), .val (.long t1), .second, .val (.long t2), .second, .val (.int lv), .val (.int ts), .val (.ref tt), .val (.ref rg), .val (.ref x), .val (.ref y), .val (.int (Int32.ofNat d1)), .val (.int (Int32.ofNat d1)), .val (.int (Int32.ofNat d1)), .val (.ref x), .val (.ref y), .unset, .unset, .unset, .unset] []))
      refine own_st (fun _ kS => XS.iload X2192.here hx rfl (hb hby at_165) rfl kS) ?_
      show OFin p e below s _ _ _ (T2192.setTop (mkF m 167 #[.val (.int p1), .val (.long t1), .second, .val (.long t2), .second, .val (.int lv), .val (.int ts), .val (.ref tt), .val (.ref rg), .val (.ref x), .val (.ref y), .val (.int (Int32.ofNat d1)), .val (.int (Int32.ofNat d1)), .val (.int (Int32.ofNat d1)), .val (.ref x), .val (.ref y), .unset, .unset, .unset, .unset] [(.int ts)]))
      refine own_st (fun _ kS => XS.ifYes X2192.here hx rfl (pc0 := 167) (pc' := 175) rfl (hb hby at_167) rfl ((if0 _ _).trans (teq cts).1) (by decide) (by decide) kS) ?_
      show OFin p e below s _ _ _ (T2192.setTop (mkF m 175 #[.val (.int p1), .val (.long t1), .second, .val (.long t2), .second, .val (.int lv), .val (.int ts), .val (.ref tt), .val (.ref rg), .val (.ref x), .val (.ref y), .val (.int (Int32.ofNat d1)), .val (.int (Int32.ofNat d1)), .val (.int (Int32.ofNat d1)), .val (.ref x), .val (.ref y), .unset, .unset, .unset, .unset] []))
      refine own_st (fun _ kS => XS.iload X2192.here hx rfl (hb hby at_175) rfl kS) ?_
      show OFin p e below s _ _ _ (T2192.setTop (mkF m 177 #[.val (.int p1), .val (.long t1), .second, .val (.long t2), .second, .val (.int lv), .val (.int ts), .val (.ref tt), .val (.ref rg), .val (.ref x), .val (.ref y), .val (.int (Int32.ofNat d1)), .val (.int (Int32.ofNat d1)), .val (.int (Int32.ofNat d1)), .val (.ref x), .val (.ref y), .unset, .unset, .unset, .unset] [(.int (Int32.ofNat d1))]))
      refine own_st (fun _ kS => XS.istore X2192.here hx rfl (hb hby at_177) rfl (l' := #[.val (.int p1), .val (.long t1), .second, .val (.long t2), .second, .val (.int lv), .val (.int ts), .val (.ref tt), .val (.ref rg), .val (.ref x), .val (.ref y), .val (.int (Int32.ofNat d1)), .val (.int (Int32.ofNat d1)), .val (.int (Int32.ofNat d1)), .val (.ref x), .val (.ref y), .val (.int (Int32.ofNat d1)), .unset, .unset, .unset]) rfl kS) ?_
      show OFin p e below s _ _ _ (T2192.setTop (mkF m 179 #[.val (.int p1), .val (.long t1), .second, .val (.long t2), .second, .val (.int lv), .val (.int ts), .val (.ref tt), .val (.ref rg), .val (.ref x), .val (.ref y), .val (.int (Int32.ofNat d1)), .val (.int (Int32.ofNat d1)), .val (.int (Int32.ofNat d1)), .val (.ref x), .val (.ref y), .val (.int (Int32.ofNat d1)), .unset, .unset, .unset] []))
      refine own_st (fun _ kS => XS.iload X2192.here hx rfl (hb hby at_179) rfl kS) ?_
      show OFin p e below s _ _ _ (T2192.setTop (mkF m 181 #[.val (.int p1), .val (.long t1), .second, .val (.long t2), .second, .val (.int lv), .val (.int ts), .val (.ref tt), .val (.ref rg), .val (.ref x), .val (.ref y), .val (.int (Int32.ofNat d1)), .val (.int (Int32.ofNat d1)), .val (.int (Int32.ofNat d1)), .val (.ref x), .val (.ref y), .val (.int (Int32.ofNat d1)), .unset, .unset, .unset] [(.int (Int32.ofNat d1))]))
      refine own_st (fun _ kS => XS.iload X2192.here hx rfl (hb hby at_181) rfl kS) ?_
      show OFin p e below s _ _ _ (T2192.setTop (mkF m 183 #[.val (.int p1), .val (.long t1), .second, .val (.long t2), .second, .val (.int lv), .val (.int ts), .val (.ref tt), .val (.ref rg), .val (.ref x), .val (.ref y), .val (.int (Int32.ofNat d1)), .val (.int (Int32.ofNat d1)), .val (.int (Int32.ofNat d1)), .val (.ref x), .val (.ref y), .val (.int (Int32.ofNat d1)), .unset, .unset, .unset] [(.int (Int32.ofNat d1)), (.int (Int32.ofNat d1))]))
      refine own_st (fun _ kS => XS.icmpNo X2192.here hx rfl (hb hby at_183) rfl (teq rfl).2 kS) ?_
      show OFin p e below s _ _ _ (T2192.setTop (mkF m 186 #[.val (.int p1), .val (.long t1), .second, .val (.long t2), .second, .val (.int lv), .val (.int ts), .val (.ref tt), .val (.ref rg), .val (.ref x), .val (.ref y), .val (.int (Int32.ofNat d1)), .val (.int (Int32.ofNat d1)), .val (.int (Int32.ofNat d1)), .val (.ref x), .val (.ref y), .val (.int (Int32.ofNat d1)), .unset, .unset, .unset] []))
      refine own_st (fun _ kS => XS.iconst X2192.here hx rfl (hb hby at_186) kS) ?_
      show OFin p e below s _ _ _ (T2192.setTop (mkF m 187 #[.val (.int p1), .val (.long t1), .second, .val (.long t2), .second, .val (.int lv), .val (.int ts), .val (.ref tt), .val (.ref rg), .val (.ref x), .val (.ref y), .val (.int (Int32.ofNat d1)), .val (.int (Int32.ofNat d1)), .val (.int (Int32.ofNat d1)), .val (.ref x), .val (.ref y), .val (.int (Int32.ofNat d1)), .unset, .unset, .unset] [(.int (-1 : Int32))]))
      refine own_st (fun _ kS => XS.goto X2192.here hx rfl (pc0 := 187) (pc' := 192) rfl (hb hby at_187) (by decide) (by decide) kS) ?_
      show OFin p e below s _ _ _ (T2192.setTop (mkF m 192 #[.val (.int p1), .val (.long t1), .second, .val (.long t2), .second, .val (.int lv), .val (.int ts), .val (.ref tt), .val (.ref rg), .val (.ref x), .val (.ref y), .val (.int (Int32.ofNat d1)), .val (.int (Int32.ofNat d1)), .val (.int (Int32.ofNat d1)), .val (.ref x), .val (.ref y), .val (.int (Int32.ofNat d1)), .unset, .unset, .unset] [(.int (-1 : Int32))]))
      refine own_st (fun _ kS => XS.istore X2192.here hx rfl (hb hby at_192) rfl (l' := #[.val (.int p1), .val (.long t1), .second, .val (.long t2), .second, .val (.int lv), .val (.int ts), .val (.ref tt), .val (.ref rg), .val (.ref x), .val (.ref y), .val (.int (Int32.ofNat d1)), .val (.int (Int32.ofNat d1)), .val (.int (Int32.ofNat d1)), .val (.ref x), .val (.ref y), .val (.int (Int32.ofNat d1)), .val (.int (-1 : Int32)), .unset, .unset]) rfl kS) ?_
      show OFin p e below s _ _ _ (T2192.setTop (mkF m 194 #[.val (.int p1), .val (.long t1), .second, .val (.long t2), .second, .val (.int lv), .val (.int ts), .val (.ref tt), .val (.ref rg), .val (.ref x), .val (.ref y), .val (.int (Int32.ofNat d1)), .val (.int (Int32.ofNat d1)), .val (.int (Int32.ofNat d1)), .val (.ref x), .val (.ref y), .val (.int (Int32.ofNat d1)), .val (.int (-1 : Int32)), .unset, .unset] []))
      refine own_st (fun _ kS => XS.iload X2192.here hx rfl (hb hby at_194) rfl kS) ?_
      show OFin p e below s _ _ _ (T2192.setTop (mkF m 196 #[.val (.int p1), .val (.long t1), .second, .val (.long t2), .second, .val (.int lv), .val (.int ts), .val (.ref tt), .val (.ref rg), .val (.ref x), .val (.ref y), .val (.int (Int32.ofNat d1)), .val (.int (Int32.ofNat d1)), .val (.int (Int32.ofNat d1)), .val (.ref x), .val (.ref y), .val (.int (Int32.ofNat d1)), .val (.int (-1 : Int32)), .unset, .unset] [(.int (Int32.ofNat d1))]))
      refine own_st (fun _ kS => XS.iload X2192.here hx rfl (hb hby at_196) rfl kS) ?_
      show OFin p e below s _ _ _ (T2192.setTop (mkF m 198 #[.val (.int p1), .val (.long t1), .second, .val (.long t2), .second, .val (.int lv), .val (.int ts), .val (.ref tt), .val (.ref rg), .val (.ref x), .val (.ref y), .val (.int (Int32.ofNat d1)), .val (.int (Int32.ofNat d1)), .val (.int (Int32.ofNat d1)), .val (.ref x), .val (.ref y), .val (.int (Int32.ofNat d1)), .val (.int (-1 : Int32)), .unset, .unset] [(.int (Int32.ofNat d1)), (.int (Int32.ofNat d1))]))
      refine own_st (fun _ kS => XS.icmpYes X2192.here hx rfl (pc0 := 198) (pc' := 205) rfl (hb hby at_198) rfl (teq rfl).1 (by decide) (by decide) kS) ?_
      show OFin p e below s _ _ _ (T2192.setTop (mkF m 205 #[.val (.int p1), .val (.long t1), .second, .val (.long t2), .second, .val (.int lv), .val (.int ts), .val (.ref tt), .val (.ref rg), .val (.ref x), .val (.ref y), .val (.int (Int32.ofNat d1)), .val (.int (Int32.ofNat d1)), .val (.int (Int32.ofNat d1)), .val (.ref x), .val (.ref y), .val (.int (Int32.ofNat d1)), .val (.int (-1 : Int32)), .unset, .unset] []))
      refine own_st (fun _ kS => XS.iconst X2192.here hx rfl (hb hby at_205) kS) ?_
      show OFin p e below s _ _ _ (T2192.setTop (mkF m 206 #[.val (.int p1), .val (.long t1), .second, .val (.long t2), .second, .val (.int lv), .val (.int ts), .val (.ref tt), .val (.ref rg), .val (.ref x), .val (.ref y), .val (.int (Int32.ofNat d1)), .val (.int (Int32.ofNat d1)), .val (.int (Int32.ofNat d1)), .val (.ref x), .val (.ref y), .val (.int (Int32.ofNat d1)), .val (.int (-1 : Int32)), .unset, .unset] [(.int (0 : Int32))]))
      refine own_st (fun _ kS => XS.istore X2192.here hx rfl (hb hby at_206) rfl (l' := #[.val (.int p1), .val (.long t1), .second, .val (.long t2), .second, .val (.int lv), .val (.int ts), .val (.ref tt), .val (.ref rg), .val (.ref x), .val (.ref y), .val (.int (Int32.ofNat d1)), .val (.int (Int32.ofNat d1)), .val (.int (Int32.ofNat d1)), .val (.ref x), .val (.ref y), .val (.int (Int32.ofNat d1)), .val (.int (-1 : Int32)), .val (.int (0 : Int32)), .unset]) rfl kS) ?_
      show OFin p e below s _ _ _ (T2192.setTop (mkF m 208 #[.val (.int p1), .val (.long t1), .second, .val (.long t2), .second, .val (.int lv), .val (.int ts), .val (.ref tt), .val (.ref rg), .val (.ref x), .val (.ref y), .val (.int (Int32.ofNat d1)), .val (.int (Int32.ofNat d1)), .val (.int (Int32.ofNat d1)), .val (.ref x), .val (.ref y), .val (.int (Int32.ofNat d1)), .val (.int (-1 : Int32)), .val (.int (0 : Int32)), .unset] []))
      refine own_st (fun _ kS => XS.aload X2192.here hx rfl (hb hby at_208) rfl rfl kS) ?_
      show OFin p e below s _ _ _ (T2192.setTop (mkF m 210 #[.val (.int p1), .val (.long t1), .second, .val (.long t2), .second, .val (.int lv), .val (.int ts), .val (.ref tt), .val (.ref rg), .val (.ref x), .val (.ref y), .val (.int (Int32.ofNat d1)), .val (.int (Int32.ofNat d1)), .val (.int (Int32.ofNat d1)), .val (.ref x), .val (.ref y), .val (.int (Int32.ofNat d1)), .val (.int (-1 : Int32)), .val (.int (0 : Int32)), .unset] [(.ref rg)]))
      refine own_st (fun _ kS => XS.iload X2192.here hx rfl (hb hby at_210) rfl kS) ?_
      show OFin p e below s _ _ _ (T2192.setTop (mkF m 212 #[.val (.int p1), .val (.long t1), .second, .val (.long t2), .second, .val (.int lv), .val (.int ts), .val (.ref tt), .val (.ref rg), .val (.ref x), .val (.ref y), .val (.int (Int32.ofNat d1)), .val (.int (Int32.ofNat d1)), .val (.int (Int32.ofNat d1)), .val (.ref x), .val (.ref y), .val (.int (Int32.ofNat d1)), .val (.int (-1 : Int32)), .val (.int (0 : Int32)), .unset] [(.int (Int32.ofNat d1)), (.ref rg)]))
      obtain ⟨v2193, T2193, L2193, X2193, hQ2193, st2193⟩ := own_virtual X2192 hx hZ (y := (⟨"com/example/epicycle/epicycle/SlotRing", "take", "(I)Lcom/example/epicycle/epicycle/TimeoutList;"⟩ : MethodName)) (z := (⟨"com/example/epicycle/epicycle/SlotRing", "take", "(I)Lcom/example/epicycle/epicycle/TimeoutList;"⟩ : MethodName)) (rm := ⟨0, 0, 0, 0⟩) (W := 0) (a := rg) (argsL := [(.int (Int32.ofNat d1))]) (rest := []) hown (own_w hw 162 rfl) (own_w hw 163 rfl) (notFace_of_selects (args := #[]) (mvT hZ (own_w hw 165 rfl))) (own_w hw 165 rfl) (own_w hw 164 rfl) (own_w hw 52 rfl) (own_w hw 166 rfl) (rmTK l Z a0 hw rg (Int32.ofNat d1) T2132.heap n0 sz2132 sa tt s1 lv d1 (((0 : Int64) ||| own_bit (Int32.ofNat d1)) ||| own_bit (Int32.ofNat d1)) (fun i => if i = d1 then .ref s1 else (fun _ => .null) i) ⟨u2164, u2165, u2166, u2167, u2168, u2169⟩ g_rg g_sa ne_rg_sa (own_tn hd1) hd1 (if_pos rfl)) e2192 u2164 (g := (mkF m 212 #[.val (.int p1), .val (.long t1), .second, .val (.long t2), .second, .val (.int lv), .val (.int ts), .val (.ref tt), .val (.ref rg), .val (.ref x), .val (.ref y), .val (.int (Int32.ofNat d1)), .val (.int (Int32.ofNat d1)), .val (.int (Int32.ofNat d1)), .val (.ref x), .val (.ref y), .val (.int (Int32.ofNat d1)), .val (.int (-1 : Int32)), .val (.int (0 : Int32)), .unset] [(.int (Int32.ofNat d1)), (.ref rg)])) rfl (by rw [hml]; rfl) (lenOf own_pd20 rfl) rfl (by show 2 * 0 + _ ≤ _; exact Nat.le_of_eq rfl) (hb hby at_212) (by decide) (by decide) (by decide) (by decide)
      obtain ⟨rfl, N2193, K2193, B2193_0⟩ := hQ2193
      have fr2193 := Fr.app fr2132 N2193
      clear fr2132 N2193
      have f2194 := f2133.keep K2193
      clear f2133
      have f2195 := f2134.keep K2193 (ninS ne_tt_rg (ninS ne_tt_sa nin0))
      clear f2134
      have f2196 := f2135.keep K2193 (ninS ne_tt_rg (ninS ne_tt_sa nin0))
      clear f2135
      have f2197 := f2136.keep K2193 (ninS ne_tt_rg (ninS ne_tt_sa nin0))
      clear f2136
      have f2198 := u2177.keep K2193
      clear u2177
      have f2199 := u2164.keep K2193
      clear u2164
      have f2200 := u2187.keep K2193
      clear u2187
      have f2201 := u2183.keep K2193
      clear u2183
      clear u2169
      have f2203 := u2170.keep K2193
      clear u2170
      have f2204 := u2181.keep K2193 (ninS ne_ck_rg (ninS ne_ck_sa nin0))
      clear u2181
      clear u2165
      clear u2166
      clear u2167
      clear u2168
      have f2209 := u2171.keep K2193 (ninS (Ne.symm ne_rg_s1) (ninS (Ne.symm ne_sa_s1) nin0))
      clear u2171
      have f2210 := u2172.keep K2193 (ninS (Ne.symm ne_rg_s1) (ninS (Ne.symm ne_sa_s1) nin0))
      clear u2172
      have f2211 := u2173.keep K2193 (ninS (Ne.symm ne_rg_s1) (ninS (Ne.symm ne_sa_s1) nin0))
      clear u2173
      have f2212 := u2174.keep K2193 (ninS (Ne.symm ne_rg_s1) (ninS (Ne.symm ne_sa_s1) nin0))
      clear u2174
      have f2213 := u2175.keep K2193 (ninS (Ne.symm ne_rg_s1) (ninS (Ne.symm ne_sa_s1) nin0))
      clear u2175
      have f2214 := u2176.keep K2193 (ninS (Ne.symm ne_rg_s1) (ninS (Ne.symm ne_sa_s1) nin0))
      clear u2176
      have f2215 := u2178.keep K2193 (ninS ne_cl_rg (ninS ne_cl_sa nin0))
      clear u2178
      have f2216 := u2179.keep K2193 (ninS ne_cl_rg (ninS ne_cl_sa nin0))
      clear u2179
      have f2217 := u2180.keep K2193 (ninS ne_cl_rg (ninS ne_cl_sa nin0))
      clear u2180
      have f2218 := u2182.keep K2193 (ninS (Ne.symm ne_rg_c0) (ninS (Ne.symm ne_sa_c0) nin0))
      clear u2182
      have f2219 := u2184.keep K2193 (ninS (Ne.symm ne_rg_y) (ninS (Ne.symm ne_sa_y) nin0))
      clear u2184
      have f2220 := u2185.keep K2193 (ninS (Ne.symm ne_rg_y) (ninS (Ne.symm ne_sa_y) nin0))
      clear u2185
      have f2221 := u2186.keep K2193 (ninS (Ne.symm ne_rg_y) (ninS (Ne.symm ne_sa_y) nin0))
      clear u2186
      have f2222 := u2188.keep K2193 (ninS (Ne.symm ne_rg_x) (ninS (Ne.symm ne_sa_x) nin0))
      clear u2188
      have f2223 := u2189.keep K2193 (ninS (Ne.symm ne_rg_x) (ninS (Ne.symm ne_sa_x) nin0))
      clear u2189
      have f2224 := u2190.keep K2193 (ninS (Ne.symm ne_rg_x) (ninS (Ne.symm ne_sa_x) nin0))
      clear u2190
      have sz2193 : n0 ≤ T2193.heap.size := Nat.le_trans sz2132 K2193.1
      clear sz2132
      clear K2193
      obtain ⟨u2225, u2226, u2227, u2228, u2229, u2230⟩ := B2193_0
      refine own_st (st2193) ?_
      clear st2193 X2192 e2192
      show OFin p e below s _ _ _ (T2193.setTop (mkF m 215 #[.val (.int p1), .val (.long t1), .second, .val (.long t2), .second, .val (.int lv), .val (.int ts), .val (.ref tt), .val (.ref rg), .val (.ref x), .val (.ref y), .val (.int (Int32.ofNat d1)), .val (.int (Int32.ofNat d1)), .val (.int (Int32.ofNat d1)), .val (.ref x), .val (.ref y), .val (.int (Int32.ofNat d1)), .val (.int (-1 : Int32)), .val (.int (0 : Int32)), .unset] [(.ref s1)]))
      refine own_st (fun _ kS => XS.astore X2193.here hx rfl (hb hby at_215) rfl rfl (l' := #[.val (.int p1), .val (.long t1), .second, .val (.long t2), .second, .val (.int lv), .val (.int ts), .val (.ref tt), .val (.ref rg), .val (.ref x), .val (.ref y), .val (.int (Int32.ofNat d1)), .val (.int (Int32.ofNat d1)), .val (.int (Int32.ofNat d1)), .val (.ref x), .val (.ref y), .val (.int (Int32.ofNat d1)), .val (.int (-1 : Int32)), .val (.int (0 : Int32)), .val (.ref s1)]) rfl kS) ?_
      show OFin p e below s _ _ _ (T2193.setTop (mkF m 217 #[.val (.int p1), .val (.long t1), .second, .val (.long t2), .second, .val (.int lv), .val (.int ts), .val (.ref tt), .val (.ref rg), .val (.ref x), .val (.ref y), .val (.int (Int32.ofNat d1)), .val (.int (Int32.ofNat d1)), .val (.int (Int32.ofNat d1)), .val (.ref x), .val (.ref y), .val (.int (Int32.ofNat d1)), .val (.int (-1 : Int32)), .val (.int (0 : Int32)), .val (.ref s1)] []))
      refine own_st (fun _ kS => XS.aload X2193.here hx rfl (hb hby at_217) rfl rfl kS) ?_
      show OFin p e below s _ _ _ (T2193.setTop (mkF m 219 #[.val (.int p1), .val (.long t1), .second, .val (.long t2), .second, .val (.int lv), .val (.int ts), .val (.ref tt), .val (.ref rg), .val (.ref x), .val (.ref y), .val (.int (Int32.ofNat d1)), .val (.int (Int32.ofNat d1)), .val (.int (Int32.ofNat d1)), .val (.ref x), .val (.ref y), .val (.int (Int32.ofNat d1)), .val (.int (-1 : Int32)), .val (.int (0 : Int32)), .val (.ref s1)] [(.ref s1)]))
      refine own_st (fun _ kS => XS.ifnonnullYes X2193.here hx rfl (pc0 := 219) (pc' := 224) rfl (hb hby at_219) rfl (by decide) (by decide) kS) ?_
      show OFin p e below s _ _ _ (T2193.setTop (mkF m 224 #[.val (.int p1), .val (.long t1), .second, .val (.long t2), .second, .val (.int lv), .val (.int ts), .val (.ref tt), .val (.ref rg), .val (.ref x), .val (.ref y), .val (.int (Int32.ofNat d1)), .val (.int (Int32.ofNat d1)), .val (.int (Int32.ofNat d1)), .val (.ref x), .val (.ref y), .val (.int (Int32.ofNat d1)), .val (.int (-1 : Int32)), .val (.int (0 : Int32)), .val (.ref s1)] []))
      refine own_st (fun _ kS => XS.aload X2193.here hx rfl (hb hby at_224) rfl rfl kS) ?_
      show OFin p e below s _ _ _ (T2193.setTop (mkF m 226 #[.val (.int p1), .val (.long t1), .second, .val (.long t2), .second, .val (.int lv), .val (.int ts), .val (.ref tt), .val (.ref rg), .val (.ref x), .val (.ref y), .val (.int (Int32.ofNat d1)), .val (.int (Int32.ofNat d1)), .val (.int (Int32.ofNat d1)), .val (.ref x), .val (.ref y), .val (.int (Int32.ofNat d1)), .val (.int (-1 : Int32)), .val (.int (0 : Int32)), .val (.ref s1)] [(.ref s1)]))
      obtain ⟨v2231, T2231, L2231, X2231, hQ2231, st2231⟩ := own_virtual X2193 hx hZ (y := (⟨"com/example/epicycle/epicycle/TimeoutList", "first", "()Lcom/example/epicycle/epicycle/Timeout;"⟩ : MethodName)) (z := (⟨"com/example/epicycle/epicycle/TimeoutList", "first", "()Lcom/example/epicycle/epicycle/Timeout;"⟩ : MethodName)) (rm := ⟨5, 0, 0, 66⟩) (W := 0) (a := s1) (argsL := []) (rest := []) hown (own_w hw 168 rfl) (own_w hw 169 rfl) (notFace_of_selects (args := #[]) (mvT hZ (own_w hw 171 rfl))) (own_w hw 171 rfl) (own_w hw 170 rfl) (own_w hw 99 rfl) (own_w hw 172 rfl) (rmFI0 l Z a0 hw s1 T2193.heap tt cl ck c0 x 2 (1 : Int32) (2 : Int32) (2 : Int32) ea' (fun i => if i = 0 then .ref c0 else .null) (fun i => if i = 1 then .ref y else (fun i => if i = 0 then .ref x else .null) i) ⟨f2203, f2209, f2210, f2211, f2212, f2213, f2214⟩ ⟨f2194, f2195, f2196, f2197⟩ ⟨f2198, f2215, f2216, f2217, f2204, f2218⟩ f2200 rfl (by decide) rfl rfl) rfl f2203 (g := (mkF m 226 #[.val (.int p1), .val (.long t1), .second, .val (.long t2), .second, .val (.int lv), .val (.int ts), .val (.ref tt), .val (.ref rg), .val (.ref x), .val (.ref y), .val (.int (Int32.ofNat d1)), .val (.int (Int32.ofNat d1)), .val (.int (Int32.ofNat d1)), .val (.ref x), .val (.ref y), .val (.int (Int32.ofNat d1)), .val (.int (-1 : Int32)), .val (.int (0 : Int32)), .val (.ref s1)] [(.ref s1)])) rfl (by rw [hml]; rfl) (lenOf own_pd21 rfl) rfl (by show 2 * 0 + _ ≤ _; exact Nat.le_of_eq rfl) (hb hby at_226) (by decide) (by decide) (by decide) (by decide)
      obtain ⟨rfl, e2231, rfl⟩ := hQ2231
      rw [List.append_nil] at X2231
      refine own_st (st2231) ?_
      clear st2231 X2193
      show OFin p e below s _ _ _ (T2231.setTop (mkF m 229 #[.val (.int p1), .val (.long t1), .second, .val (.long t2), .second, .val (.int lv), .val (.int ts), .val (.ref tt), .val (.ref rg), .val (.ref x), .val (.ref y), .val (.int (Int32.ofNat d1)), .val (.int (Int32.ofNat d1)), .val (.int (Int32.ofNat d1)), .val (.ref x), .val (.ref y), .val (.int (Int32.ofNat d1)), .val (.int (-1 : Int32)), .val (.int (0 : Int32)), .val (.ref s1)] [(.ref x)]))
      refine own_st (fun _ kS => XS.aload X2231.here hx rfl (hb hby at_229) rfl rfl kS) ?_
      show OFin p e below s _ _ _ (T2231.setTop (mkF m 231 #[.val (.int p1), .val (.long t1), .second, .val (.long t2), .second, .val (.int lv), .val (.int ts), .val (.ref tt), .val (.ref rg), .val (.ref x), .val (.ref y), .val (.int (Int32.ofNat d1)), .val (.int (Int32.ofNat d1)), .val (.int (Int32.ofNat d1)), .val (.ref x), .val (.ref y), .val (.int (Int32.ofNat d1)), .val (.int (-1 : Int32)), .val (.int (0 : Int32)), .val (.ref s1)] [(.ref x), (.ref x)]))
      refine own_st (fun _ kS => Jvm.RoadKit.acmp (g := (mkF m 231 #[.val (.int p1), .val (.long t1), .second, .val (.long t2), .second, .val (.int lv), .val (.int ts), .val (.ref tt), .val (.ref rg), .val (.ref x), .val (.ref y), .val (.int (Int32.ofNat d1)), .val (.int (Int32.ofNat d1)), .val (.int (Int32.ofNat d1)), .val (.ref x), .val (.ref y), .val (.int (Int32.ofNat d1)), .val (.int (-1 : Int32)), .val (.int (0 : Int32)), .val (.ref s1)] [(.ref x), (.ref x)])) X2231 hx rfl rfl rfl (pc0 := 231) (pc' := 236) (same := true) rfl (hb hby at_231) rfl (decide_eq_true rfl) (by decide) (by decide) kS) ?_
      show OFin p e below s _ _ _ (T2231.setTop (mkF m 236 #[.val (.int p1), .val (.long t1), .second, .val (.long t2), .second, .val (.int lv), .val (.int ts), .val (.ref tt), .val (.ref rg), .val (.ref x), .val (.ref y), .val (.int (Int32.ofNat d1)), .val (.int (Int32.ofNat d1)), .val (.int (Int32.ofNat d1)), .val (.ref x), .val (.ref y), .val (.int (Int32.ofNat d1)), .val (.int (-1 : Int32)), .val (.int (0 : Int32)), .val (.ref s1)] []))
      refine own_st (fun _ kS => XS.aload X2231.here hx rfl (hb hby at_236) rfl rfl kS) ?_
      show OFin p e below s _ _ _ (T2231.setTop (mkF m 238 #[.val (.int p1), .val (.long t1), .second, .val (.long t2), .second, .val (.int lv), .val (.int ts), .val (.ref tt), .val (.ref rg), .val (.ref x), .val (.ref y), .val (.int (Int32.ofNat d1)), .val (.int (Int32.ofNat d1)), .val (.int (Int32.ofNat d1)), .val (.ref x), .val (.ref y), .val (.int (Int32.ofNat d1)), .val (.int (-1 : Int32)), .val (.int (0 : Int32)), .val (.ref s1)] [(.ref s1)]))
      obtain ⟨v2232, T2232, L2232, X2232, hQ2232, st2232⟩ := own_virtual X2231 hx hZ (y := (⟨"com/example/epicycle/epicycle/TimeoutList", "last", "()Lcom/example/epicycle/epicycle/Timeout;"⟩ : MethodName)) (z := (⟨"com/example/epicycle/epicycle/TimeoutList", "last", "()Lcom/example/epicycle/epicycle/Timeout;"⟩ : MethodName)) (rm := ⟨5, 0, 0, 66⟩) (W := 0) (a := s1) (argsL := []) (rest := []) hown (own_w hw 197 rfl) (own_w hw 198 rfl) (notFace_of_selects (args := #[]) (mvT hZ (own_w hw 200 rfl))) (own_w hw 200 rfl) (own_w hw 199 rfl) (own_w hw 99 rfl) (own_w hw 201 rfl) (rmLA1 l Z a0 hw s1 T2193.heap tt cl ck c0 y 2 (1 : Int32) (2 : Int32) (2 : Int32) ea' (fun i => if i = 0 then .ref c0 else .null) (fun i => if i = 1 then .ref y else (fun i => if i = 0 then .ref x else .null) i) ⟨f2203, f2209, f2210, f2211, f2212, f2213, f2214⟩ ⟨f2194, f2195, f2196, f2197⟩ ⟨f2198, f2215, f2216, f2217, f2204, f2218⟩ f2201 rfl (by decide) rfl rfl) e2231 f2203 (g := (mkF m 238 #[.val (.int p1), .val (.long t1), .second, .val (.long t2), .second, .val (.int lv), .val (.int ts), .val (.ref tt), .val (.ref rg), .val (.ref x), .val (.ref y), .val (.int (Int32.ofNat d1)), .val (.int (Int32.ofNat d1)), .val (.int (Int32.ofNat d1)), .val (.ref x), .val (.ref y), .val (.int (Int32.ofNat d1)), .val (.int (-1 : Int32)), .val (.int (0 : Int32)), .val (.ref s1)] [(.ref s1)])) rfl (by rw [hml]; rfl) (lenOf own_pd21 rfl) rfl (by show 2 * 0 + _ ≤ _; exact Nat.le_of_eq rfl) (hb hby at_238) (by decide) (by decide) (by decide) (by decide)
      obtain ⟨rfl, e2232, rfl⟩ := hQ2232
      rw [List.append_nil] at X2232
      refine own_st (st2232) ?_
      clear st2232 X2231 e2231
      show OFin p e below s _ _ _ (T2232.setTop (mkF m 241 #[.val (.int p1), .val (.long t1), .second, .val (.long t2), .second, .val (.int lv), .val (.int ts), .val (.ref tt), .val (.ref rg), .val (.ref x), .val (.ref y), .val (.int (Int32.ofNat d1)), .val (.int (Int32.ofNat d1)), .val (.int (Int32.ofNat d1)), .val (.ref x), .val (.ref y), .val (.int (Int32.ofNat d1)), .val (.int (-1 : Int32)), .val (.int (0 : Int32)), .val (.ref s1)] [(.ref y)]))
      refine own_st (fun _ kS => XS.aload X2232.here hx rfl (hb hby at_241) rfl rfl kS) ?_
      show OFin p e below s _ _ _ (T2232.setTop (mkF m 243 #[.val (.int p1), .val (.long t1), .second, .val (.long t2), .second, .val (.int lv), .val (.int ts), .val (.ref tt), .val (.ref rg), .val (.ref x), .val (.ref y), .val (.int (Int32.ofNat d1)), .val (.int (Int32.ofNat d1)), .val (.int (Int32.ofNat d1)), .val (.ref x), .val (.ref y), .val (.int (Int32.ofNat d1)), .val (.int (-1 : Int32)), .val (.int (0 : Int32)), .val (.ref s1)] [(.ref y), (.ref y)]))
      refine own_st (fun _ kS => Jvm.RoadKit.acmp (g := (mkF m 243 #[.val (.int p1), .val (.long t1), .second, .val (.long t2), .second, .val (.int lv), .val (.int ts), .val (.ref tt), .val (.ref rg), .val (.ref x), .val (.ref y), .val (.int (Int32.ofNat d1)), .val (.int (Int32.ofNat d1)), .val (.int (Int32.ofNat d1)), .val (.ref x), .val (.ref y), .val (.int (Int32.ofNat d1)), .val (.int (-1 : Int32)), .val (.int (0 : Int32)), .val (.ref s1)] [(.ref y), (.ref y)])) X2232 hx rfl rfl rfl (pc0 := 243) (pc' := 248) (same := true) rfl (hb hby at_243) rfl (decide_eq_true rfl) (by decide) (by decide) kS) ?_
      show OFin p e below s _ _ _ (T2232.setTop (mkF m 248 #[.val (.int p1), .val (.long t1), .second, .val (.long t2), .second, .val (.int lv), .val (.int ts), .val (.ref tt), .val (.ref rg), .val (.ref x), .val (.ref y), .val (.int (Int32.ofNat d1)), .val (.int (Int32.ofNat d1)), .val (.int (Int32.ofNat d1)), .val (.ref x), .val (.ref y), .val (.int (Int32.ofNat d1)), .val (.int (-1 : Int32)), .val (.int (0 : Int32)), .val (.ref s1)] []))
      refine own_st (fun _ kS => XS.aload X2232.here hx rfl (hb hby at_248) rfl rfl kS) ?_
      show OFin p e below s _ _ _ (T2232.setTop (mkF m 250 #[.val (.int p1), .val (.long t1), .second, .val (.long t2), .second, .val (.int lv), .val (.int ts), .val (.ref tt), .val (.ref rg), .val (.ref x), .val (.ref y), .val (.int (Int32.ofNat d1)), .val (.int (Int32.ofNat d1)), .val (.int (Int32.ofNat d1)), .val (.ref x), .val (.ref y), .val (.int (Int32.ofNat d1)), .val (.int (-1 : Int32)), .val (.int (0 : Int32)), .val (.ref s1)] [(.ref rg)]))
      obtain ⟨v2233, T2233, L2233, X2233, hQ2233, st2233⟩ := own_virtual X2232 hx hZ (y := (⟨"com/example/epicycle/epicycle/SlotRing", "firstOccupied", "()I"⟩ : MethodName)) (z := (⟨"com/example/epicycle/epicycle/SlotRing", "firstOccupied", "()I"⟩ : MethodName)) (rm := ⟨2, 0, 0, 28⟩) (W := 0) (a := rg) (argsL := []) (rest := []) hown (own_w hw 202 rfl) (own_w hw 203 rfl) (notFace_of_selects (args := #[]) (mvT hZ (own_w hw 205 rfl))) (own_w hw 205 rfl) (own_w hw 204 rfl) (own_w hw 52 rfl) (own_w hw 206 rfl) (rmFO l Z a0 hw rg T2193.heap sa tt lv ((((0 : Int64) ||| own_bit (Int32.ofNat d1)) ||| own_bit (Int32.ofNat d1)) &&& (own_bit (Int32.ofNat d1) ^^^ (-1 : Int64))) (fun i => if i = d1 then .null else (fun i => if i = d1 then .ref s1 else (fun _ => .null) i) i) ⟨u2225, u2226, u2227, u2228, u2229, u2230⟩) e2232 u2225 (g := (mkF m 250 #[.val (.int p1), .val (.long t1), .second, .val (.long t2), .second, .val (.int lv), .val (.int ts), .val (.ref tt), .val (.ref rg), .val (.ref x), .val (.ref y), .val (.int (Int32.ofNat d1)), .val (.int (Int32.ofNat d1)), .val (.int (Int32.ofNat d1)), .val (.ref x), .val (.ref y), .val (.int (Int32.ofNat d1)), .val (.int (-1 : Int32)), .val (.int (0 : Int32)), .val (.ref s1)] [(.ref rg)])) rfl (by rw [hml]; rfl) (lenOf own_pd5 rfl) rfl (by show 2 * 0 + _ ≤ _; exact Nat.le_of_eq rfl) (hb hby at_250) (by decide) (by decide) (by decide) (by decide)
      obtain ⟨rfl, e2233, rfl⟩ := hQ2233
      rw [List.append_nil] at X2233
      refine own_st (st2233) ?_
      clear st2233 X2232 e2232
      show OFin p e below s _ _ _ (T2233.setTop (mkF m 253 #[.val (.int p1), .val (.long t1), .second, .val (.long t2), .second, .val (.int lv), .val (.int ts), .val (.ref tt), .val (.ref rg), .val (.ref x), .val (.ref y), .val (.int (Int32.ofNat d1)), .val (.int (Int32.ofNat d1)), .val (.int (Int32.ofNat d1)), .val (.ref x), .val (.ref y), .val (.int (Int32.ofNat d1)), .val (.int (-1 : Int32)), .val (.int (0 : Int32)), .val (.ref s1)] [(.int (own_fo ((((0 : Int64) ||| own_bit (Int32.ofNat d1)) ||| own_bit (Int32.ofNat d1)) &&& (own_bit (Int32.ofNat d1) ^^^ (-1 : Int64)))))]))
      refine own_st (fun _ kS => XS.iload X2233.here hx rfl (hb hby at_253) rfl kS) ?_
      show OFin p e below s _ _ _ (T2233.setTop (mkF m 255 #[.val (.int p1), .val (.long t1), .second, .val (.long t2), .second, .val (.int lv), .val (.int ts), .val (.ref tt), .val (.ref rg), .val (.ref x), .val (.ref y), .val (.int (Int32.ofNat d1)), .val (.int (Int32.ofNat d1)), .val (.int (Int32.ofNat d1)), .val (.ref x), .val (.ref y), .val (.int (Int32.ofNat d1)), .val (.int (-1 : Int32)), .val (.int (0 : Int32)), .val (.ref s1)] [(.int (-1 : Int32)), (.int (own_fo ((((0 : Int64) ||| own_bit (Int32.ofNat d1)) ||| own_bit (Int32.ofNat d1)) &&& (own_bit (Int32.ofNat d1) ^^^ (-1 : Int64)))))]))
      refine own_st (fun _ kS => XS.icmpYes X2233.here hx rfl (pc0 := 255) (pc' := 260) rfl (hb hby at_255) rfl (teq (show own_fo _ = _ from (own_bits0 ⟨d1, hd1⟩))).1 (by decide) (by decide) kS) ?_
      show OFin p e below s _ _ _ (T2233.setTop (mkF m 260 #[.val (.int p1), .val (.long t1), .second, .val (.long t2), .second, .val (.int lv), .val (.int ts), .val (.ref tt), .val (.ref rg), .val (.ref x), .val (.ref y), .val (.int (Int32.ofNat d1)), .val (.int (Int32.ofNat d1)), .val (.int (Int32.ofNat d1)), .val (.ref x), .val (.ref y), .val (.int (Int32.ofNat d1)), .val (.int (-1 : Int32)), .val (.int (0 : Int32)), .val (.ref s1)] []))
      refine own_st (fun _ kS => XS.aload X2233.here hx rfl (hb hby at_260) rfl rfl kS) ?_
      show OFin p e below s _ _ _ (T2233.setTop (mkF m 262 #[.val (.int p1), .val (.long t1), .second, .val (.long t2), .second, .val (.int lv), .val (.int ts), .val (.ref tt), .val (.ref rg), .val (.ref x), .val (.ref y), .val (.int (Int32.ofNat d1)), .val (.int (Int32.ofNat d1)), .val (.int (Int32.ofNat d1)), .val (.ref x), .val (.ref y), .val (.int (Int32.ofNat d1)), .val (.int (-1 : Int32)), .val (.int (0 : Int32)), .val (.ref s1)] [(.ref rg)]))
      refine own_st (fun _ kS => XS.aload X2233.here hx rfl (hb hby at_262) rfl rfl kS) ?_
      show OFin p e below s _ _ _ (T2233.setTop (mkF m 264 #[.val (.int p1), .val (.long t1), .second, .val (.long t2), .second, .val (.int lv), .val (.int ts), .val (.ref tt), .val (.ref rg), .val (.ref x), .val (.ref y), .val (.int (Int32.ofNat d1)), .val (.int (Int32.ofNat d1)), .val (.int (Int32.ofNat d1)), .val (.ref x), .val (.ref y), .val (.int (Int32.ofNat d1)), .val (.int (-1 : Int32)), .val (.int (0 : Int32)), .val (.ref s1)] [(.ref x), (.ref rg)]))
      obtain ⟨v2234, T2234, L2234, X2234, hQ2234, st2234⟩ := own_virtual X2233 hx hZ (y := (⟨"com/example/epicycle/epicycle/SlotRing", "holds", "(Lcom/example/epicycle/epicycle/Timeout;)Z"⟩ : MethodName)) (z := (⟨"com/example/epicycle/epicycle/SlotRing", "holds", "(Lcom/example/epicycle/epicycle/Timeout;)Z"⟩ : MethodName)) (rm := ⟨5, 0, 0, 66⟩) (W := 0) (a := rg) (argsL := [(.ref x)]) (rest := []) hown (own_w hw 216 rfl) (own_w hw 217 rfl) (notFace_of_selects (args := #[]) (mvT hZ (own_w hw 219 rfl))) (own_w hw 219 rfl) (own_w hw 218 rfl) (own_w hw 52 rfl) (own_w hw 220 rfl) (rmHN l Z a0 hw rg x T2193.heap sa tt lv (Int32.ofNat d1) (2 : Int32) d1 ((((0 : Int64) ||| own_bit (Int32.ofNat d1)) ||| own_bit (Int32.ofNat d1)) &&& (own_bit (Int32.ofNat d1) ^^^ (-1 : Int64))) t1 (fun i => if i = d1 then .null else (fun i => if i = d1 then .ref s1 else (fun _ => .null) i) i) ⟨u2225, u2226, u2227, u2228, u2229, u2230⟩ ⟨f2200, f2222, f2223, f2224⟩ e1 (own_tn hd1) hd1 (if_pos rfl)) e2233 u2225 (g := (mkF m 264 #[.val (.int p1), .val (.long t1), .second, .val (.long t2), .second, .val (.int lv), .val (.int ts), .val (.ref tt), .val (.ref rg), .val (.ref x), .val (.ref y), .val (.int (Int32.ofNat d1)), .val (.int (Int32.ofNat d1)), .val (.int (Int32.ofNat d1)), .val (.ref x), .val (.ref y), .val (.int (Int32.ofNat d1)), .val (.int (-1 : Int32)), .val (.int (0 : Int32)), .val (.ref s1)] [(.ref x), (.ref rg)])) rfl (by rw [hml]; rfl) (lenOf own_pd15 rfl) rfl (by show 2 * 0 + _ ≤ _; exact Nat.le_of_eq rfl) (hb hby at_264) (by decide) (by decide) (by decide) (by decide)
      obtain ⟨rfl, e2234, rfl⟩ := hQ2234
      rw [List.append_nil] at X2234
      refine own_st (st2234) ?_
      clear st2234 X2233 e2233
      show OFin p e below s _ _ _ (T2234.setTop (mkF m 267 #[.val (.int p1), .val (.long t1), .second, .val (.long t2), .second, .val (.int lv), .val (.int ts), .val (.ref tt), .val (.ref rg), .val (.ref x), .val (.ref y), .val (.int (Int32.ofNat d1)), .val (.int (Int32.ofNat d1)), .val (.int (Int32.ofNat d1)), .val (.ref x), .val (.ref y), .val (.int (Int32.ofNat d1)), .val (.int (-1 : Int32)), .val (.int (0 : Int32)), .val (.ref s1)] [(.int (0 : Int32))]))
      refine own_st (fun _ kS => XS.iload X2234.here hx rfl (hb hby at_267) rfl kS) ?_
      show OFin p e below s _ _ _ (T2234.setTop (mkF m 269 #[.val (.int p1), .val (.long t1), .second, .val (.long t2), .second, .val (.int lv), .val (.int ts), .val (.ref tt), .val (.ref rg), .val (.ref x), .val (.ref y), .val (.int (Int32.ofNat d1)), .val (.int (Int32.ofNat d1)), .val (.int (Int32.ofNat d1)), .val (.ref x), .val (.ref y), .val (.int (Int32.ofNat d1)), .val (.int (-1 : Int32)), .val (.int (0 : Int32)), .val (.ref s1)] [(.int (0 : Int32)), (.int (0 : Int32))]))
      refine own_st (fun _ kS => XS.icmpNo X2234.here hx rfl (hb hby at_269) rfl (teq rfl).2 kS) ?_
      show OFin p e below s _ _ _ (T2234.setTop (mkF m 272 #[.val (.int p1), .val (.long t1), .second, .val (.long t2), .second, .val (.int lv), .val (.int ts), .val (.ref tt), .val (.ref rg), .val (.ref x), .val (.ref y), .val (.int (Int32.ofNat d1)), .val (.int (Int32.ofNat d1)), .val (.int (Int32.ofNat d1)), .val (.ref x), .val (.ref y), .val (.int (Int32.ofNat d1)), .val (.int (-1 : Int32)), .val (.int (0 : Int32)), .val (.ref s1)] []))
      refine own_st (fun _ kS => XS.iconst X2234.here hx rfl (hb hby at_272) kS) ?_
      show OFin p e below s _ _ _ (T2234.setTop (mkF m 273 #[.val (.int p1), .val (.long t1), .second, .val (.long t2), .second, .val (.int lv), .val (.int ts), .val (.ref tt), .val (.ref rg), .val (.ref x), .val (.ref y), .val (.int (Int32.ofNat d1)), .val (.int (Int32.ofNat d1)), .val (.int (Int32.ofNat d1)), .val (.ref x), .val (.ref y), .val (.int (Int32.ofNat d1)), .val (.int (-1 : Int32)), .val (.int (0 : Int32)), .val (.ref s1)] [(.int (1 : Int32))]))
      refine own_st (fun _ kS => XS.goto X2234.here hx rfl (pc0 := 273) (pc' := 277) rfl (hb hby at_273) (by decide) (by decide) kS) ?_
      show OFin p e below s _ _ _ (T2234.setTop (mkF m 277 #[.val (.int p1), .val (.long t1), .second, .val (.long t2), .second, .val (.int lv), .val (.int ts), .val (.ref tt), .val (.ref rg), .val (.ref x), .val (.ref y), .val (.int (Int32.ofNat d1)), .val (.int (Int32.ofNat d1)), .val (.int (Int32.ofNat d1)), .val (.ref x), .val (.ref y), .val (.int (Int32.ofNat d1)), .val (.int (-1 : Int32)), .val (.int (0 : Int32)), .val (.ref s1)] [(.int (1 : Int32))]))
      exact own_ret X2234 hx (t := .boolean) hret hlk rfl (Or.inl ⟨rfl, by simp, _, rfl⟩) (hb hby at_277) (by decide) (by decide) ⟨rfl, fr2193⟩
    · refine own_st (fun _ kS => XS.ifNo X2192.here hx rfl (hb hby at_102) rfl ((if0 _ _).trans (feq cts).1) kS) ?_
      show OFin p e below s _ _ _ (T2192.setTop (mkF m 105 #[.val (.int p1), .val (.long t1), .second, .val (.long t2), .second, .val (.int lv), .val (.int ts), .val (.ref tt), .val (.ref rg), .val (.ref x), .val (.ref y), .val (.int (Int32.ofNat d1)), .val (.int (Int32.ofNat d1)), .unset, .unset, .unset, .unset, .unset, .unset, .unset] []))
      refine own_st (fun _ kS => XS.iload X2192.here hx rfl (hb hby at_105) rfl kS) ?_
      show OFin p e below s _ _ _ (T2192.setTop (mkF m 107 #[.val (.int p1), .val (.long t1), .second, .val (.long t2), .second, .val (.int lv), .val (.int ts), .val (.ref tt), .val (.ref rg), .val (.ref x), .val (.ref y), .val (.int (Int32.ofNat d1)), .val (.int (Int32.ofNat d1)), .unset, .unset, .unset, .unset, .unset, .unset, .unset] [(.int (Int32.ofNat d1))]))
      refine own_st (fun _ kS => XS.goto X2192.here hx rfl (pc0 := 107) (pc' := 112) rfl (hb hby at_107) (by decide) (by decide) kS) ?_
      show OFin p e below s _ _ _ (T2192.setTop (mkF m 112 #[.val (.int p1), .val (.long t1), .second, .val (.long t2), .second, .val (.int lv), .val (.int ts), .val (.ref tt), .val (.ref rg), .val (.ref x), .val (.ref y), .val (.int (Int32.ofNat d1)), .val (.int (Int32.ofNat d1)), .unset, .unset, .unset, .unset, .unset, .unset, .unset] [(.int (Int32.ofNat d1))]))
      refine own_st (fun _ kS => XS.istore X2192.here hx rfl (hb hby at_112) rfl (l' := #[.val (.int p1), .val (.long t1), .second, .val (.long t2), .second, .val (.int lv), .val (.int ts), .val (.ref tt), .val (.ref rg), .val (.ref x), .val (.ref y), .val (.int (Int32.ofNat d1)), .val (.int (Int32.ofNat d1)), .val (.int (Int32.ofNat d1)), .unset, .unset, .unset, .unset, .unset, .unset]) rfl kS) ?_
      show OFin p e below s _ _ _ (T2192.setTop (mkF m 114 #[.val (.int p1), .val (.long t1), .second, .val (.long t2), .second, .val (.int lv), .val (.int ts), .val (.ref tt), .val (.ref rg), .val (.ref x), .val (.ref y), .val (.int (Int32.ofNat d1)), .val (.int (Int32.ofNat d1)), .val (.int (Int32.ofNat d1)), .unset, .unset, .unset, .unset, .unset, .unset] []))
      refine own_st (fun _ kS => XS.iload X2192.here hx rfl (hb hby at_114) rfl kS) ?_
      show OFin p e below s _ _ _ (T2192.setTop (mkF m 116 #[.val (.int p1), .val (.long t1), .second, .val (.long t2), .second, .val (.int lv), .val (.int ts), .val (.ref tt), .val (.ref rg), .val (.ref x), .val (.ref y), .val (.int (Int32.ofNat d1)), .val (.int (Int32.ofNat d1)), .val (.int (Int32.ofNat d1)), .unset, .unset, .unset, .unset, .unset, .unset] [(.int (Int32.ofNat d1))]))
      refine own_st (fun _ kS => XS.iload X2192.here hx rfl (hb hby at_116) rfl kS) ?_
      show OFin p e below s _ _ _ (T2192.setTop (mkF m 118 #[.val (.int p1), .val (.long t1), .second, .val (.long t2), .second, .val (.int lv), .val (.int ts), .val (.ref tt), .val (.ref rg), .val (.ref x), .val (.ref y), .val (.int (Int32.ofNat d1)), .val (.int (Int32.ofNat d1)), .val (.int (Int32.ofNat d1)), .unset, .unset, .unset, .unset, .unset, .unset] [(.int (Int32.ofNat d1)), (.int (Int32.ofNat d1))]))
      refine own_st (fun _ kS => XS.icmpNo X2192.here hx rfl (hb hby at_118) rfl (teq rfl).2 kS) ?_
      show OFin p e below s _ _ _ (T2192.setTop (mkF m 121 #[.val (.int p1), .val (.long t1), .second, .val (.long t2), .second, .val (.int lv), .val (.int ts), .val (.ref tt), .val (.ref rg), .val (.ref x), .val (.ref y), .val (.int (Int32.ofNat d1)), .val (.int (Int32.ofNat d1)), .val (.int (Int32.ofNat d1)), .unset, .unset, .unset, .unset, .unset, .unset] []))
      refine own_st (fun _ kS => XS.iload X2192.here hx rfl (hb hby at_121) rfl kS) ?_
      show OFin p e below s _ _ _ (T2192.setTop (mkF m 123 #[.val (.int p1), .val (.long t1), .second, .val (.long t2), .second, .val (.int lv), .val (.int ts), .val (.ref tt), .val (.ref rg), .val (.ref x), .val (.ref y), .val (.int (Int32.ofNat d1)), .val (.int (Int32.ofNat d1)), .val (.int (Int32.ofNat d1)), .unset, .unset, .unset, .unset, .unset, .unset] [(.int (Int32.ofNat d1))]))
      refine own_st (fun _ kS => XS.iload X2192.here hx rfl (hb hby at_123) rfl kS) ?_
      show OFin p e below s _ _ _ (T2192.setTop (mkF m 125 #[.val (.int p1), .val (.long t1), .second, .val (.long t2), .second, .val (.int lv), .val (.int ts), .val (.ref tt), .val (.ref rg), .val (.ref x), .val (.ref y), .val (.int (Int32.ofNat d1)), .val (.int (Int32.ofNat d1)), .val (.int (Int32.ofNat d1)), .unset, .unset, .unset, .unset, .unset, .unset] [(.int (Int32.ofNat d1)), (.int (Int32.ofNat d1))]))
      refine own_st (fun _ kS => XS.icmpNo X2192.here hx rfl (hb hby at_125) rfl (teq rfl).2 kS) ?_
      show OFin p e below s _ _ _ (T2192.setTop (mkF m 128 #[.val (.int p1), .val (.long t1), .second, .val (.long t2), .second, .val (.int lv), .val (.int ts), .val (.ref tt), .val (.ref rg), .val (.ref x), .val (.ref y), .val (.int (Int32.ofNat d1)), .val (.int (Int32.ofNat d1)), .val (.int (Int32.ofNat d1)), .unset, .unset, .unset, .unset, .unset, .unset] []))
      refine own_st (fun _ kS => XS.aload X2192.here hx rfl (hb hby at_128) rfl rfl kS) ?_
      show OFin p e below s _ _ _ (T2192.setTop (mkF m 130 #[.val (.int p1), .val (.long t1), .second, .val (.long t2), .second, .val (.int lv), .val (.int ts), .val (.ref tt), .val (.ref rg), .val (.ref x), .val (.ref y), .val (.int (Int32.ofNat d1)), .val (.int (Int32.ofNat d1)), .val (.int (Int32.ofNat d1)), .unset, .unset, .unset, .unset, .unset, .unset] [(.ref x)]))
      refine own_st (fun _ kS => XS.astore X2192.here hx rfl (hb hby at_130) rfl rfl (l' := #[.val (.int p1), .val (.long t1), .second, .val (.long t2), .second, .val (.int lv), .val (.int ts), .val (.ref tt), .val (.ref rg), .val (.ref x), .val (.ref y), .val (.int (Int32.ofNat d1)), .val (.int (Int32.ofNat d1)), .val (.int (Int32.ofNat d1)), .val (.ref x), .unset, .unset, .unset, .unset, .unset]) rfl kS) ?_
      show OFin p e below s _ _ _ (T2192.setTop (mkF m 132 #[.val (.int p1), .val (.long t1), .second, .val (.long t2), .second, .val (.int lv), .val (.int ts), .val (.ref tt), .val (.ref rg), .val (.ref x), .val (.ref y), .val (.int (Int32.ofNat d1)), .val (.int (Int32.ofNat d1)), .val (.int (Int32.ofNat d1)), .val (.ref x), .unset, .unset, .unset, .unset, .unset] []))
      refine own_st (fun _ kS => XS.aload X2192.here hx rfl (hb hby at_132) rfl rfl kS) ?_
      show OFin p e below s _ _ _ (T2192.setTop (mkF m 134 #[.val (.int p1), .val (.long t1), .second, .val (.long t2), .second, .val (.int lv), .val (.int ts), .val (.ref tt), .val (.ref rg), .val (.ref x), .val (.ref y), .val (.int (Int32.ofNat d1)), .val (.int (Int32.ofNat d1)), .val (.int (Int32.ofNat d1)), .val (.ref x), .unset, .unset, .unset, .unset, .unset] [(.ref y)]))
      refine own_st (fun _ kS => XS.astore X2192.here hx rfl (hb hby at_134) rfl rfl (l' := #[.val (.int p1), .val (.long t1), .second, .val (.long t2), .second, .val (.int lv), .val (.int ts), .val (.ref tt), .val (.ref rg), .val (.ref x), .val (.ref y), .val (.int (Int32.ofNat d1)), .val (.int (Int32.ofNat d1)), .val (.int (Int32.ofNat d1)), .val (.ref x), .val (.ref y), .unset, .unset, .unset, .unset]) rfl kS) ?_
      show OFin p e below s _ _ _ (T2192.setTop (mkF m 136 #[.val (.int p1), .val (.long t1), .second, .val (.long t2), .second, .val (.int lv), .val (.int ts), .val (.ref tt), .val (.ref rg), .val (.ref x), .val (.ref y), .val (.int (Int32.ofNat d1)), .val (.int (Int32.ofNat d1)), .val (.int (Int32.ofNat d1)), .val (.ref x), .val (.ref y), .unset, .unset, .unset, .unset] []))
      refine own_st (fun _ kS => XS.goto X2192.here hx rfl (pc0 := 136) (pc' := 165) rfl (hb hby at_136) (by decide) (by decide) kS) ?_
      show OFin p e below s _ _ _ (T2192.setTop (mkF m 165 #[.val (.int p1), .val (.long t1), .second, .val (.long t2), .second, .val (.int lv), .val (.int ts), .val (.ref tt), .val (.ref rg), .val (.ref x), .val (.ref y), .val (.int (Int32.ofNat d1)), .val (.int (Int32.ofNat d1)), .val (.int (Int32.ofNat d1)), .val (.ref x), .val (.ref y), .unset, .unset, .unset, .unset] []))
      refine own_st (fun _ kS => XS.iload X2192.here hx rfl (hb hby at_165) rfl kS) ?_
      show OFin p e below s _ _ _ (T2192.setTop (mkF m 167 #[.val (.int p1), .val (.long t1), .second, .val (.long t2), .second, .val (.int lv), .val (.int ts), .val (.ref tt), .val (.ref rg), .val (.ref x), .val (.ref y), .val (.int (Int32.ofNat d1)), .val (.int (Int32.ofNat d1)), .val (.int (Int32.ofNat d1)), .val (.ref x), .val (.ref y), .unset, .unset, .unset, .unset] [(.int ts)]))
      refine own_st (fun _ kS => XS.ifNo X2192.here hx rfl (hb hby at_167) rfl ((if0 _ _).trans (feq cts).1) kS) ?_
      show OFin p e below s _ _ _ (T2192.setTop (mkF m 170 #[.val (.int p1), .val (.long t1), .second, .val (.long t2), .second, .val (.int lv), .val (.int ts), .val (.ref tt), .val (.ref rg), .val (.ref x), .val (.ref y), .val (.int (Int32.ofNat d1)), .val (.int (Int32.ofNat d1)), .val (.int (Int32.ofNat d1)), .val (.ref x), .val (.ref y), .unset, .unset, .unset, .unset] []))
      refine own_st (fun _ kS => XS.iload X2192.here hx rfl (hb hby at_170) rfl kS) ?_
      show OFin p e below s _ _ _ (T2192.setTop (mkF m 172 #[.val (.int p1), .val (.long t1), .second, .val (.long t2), .second, .val (.int lv), .val (.int ts), .val (.ref tt), .val (.ref rg), .val (.ref x), .val (.ref y), .val (.int (Int32.ofNat d1)), .val (.int (Int32.ofNat d1)), .val (.int (Int32.ofNat d1)), .val (.ref x), .val (.ref y), .unset, .unset, .unset, .unset] [(.int (Int32.ofNat d1))]))
      refine own_st (fun _ kS => XS.goto X2192.here hx rfl (pc0 := 172) (pc' := 177) rfl (hb hby at_172) (by decide) (by decide) kS) ?_
      show OFin p e below s _ _ _ (T2192.setTop (mkF m 177 #[.val (.int p1), .val (.long t1), .second, .val (.long t2), .second, .val (.int lv), .val (.int ts), .val (.ref tt), .val (.ref rg), .val (.ref x), .val (.ref y), .val (.int (Int32.ofNat d1)), .val (.int (Int32.ofNat d1)), .val (.int (Int32.ofNat d1)), .val (.ref x), .val (.ref y), .unset, .unset, .unset, .unset] [(.int (Int32.ofNat d1))]))
      refine own_st (fun _ kS => XS.istore X2192.here hx rfl (hb hby at_177) rfl (l' := #[.val (.int p1), .val (.long t1), .second, .val (.long t2), .second, .val (.int lv), .val (.int ts), .val (.ref tt), .val (.ref rg), .val (.ref x), .val (.ref y), .val (.int (Int32.ofNat d1)), .val (.int (Int32.ofNat d1)), .val (.int (Int32.ofNat d1)), .val (.ref x), .val (.ref y), .val (.int (Int32.ofNat d1)), .unset, .unset, .unset]) rfl kS) ?_
      show OFin p e below s _ _ _ (T2192.setTop (mkF m 179 #[.val (.int p1), .val (.long t1), .second, .val (.long t2), .second, .val (.int lv), .val (.int ts), .val (.ref tt), .val (.ref rg), .val (.ref x), .val (.ref y), .val (.int (Int32.ofNat d1)), .val (.int (Int32.ofNat d1)), .val (.int (Int32.ofNat d1)), .val (.ref x), .val (.ref y), .val (.int (Int32.ofNat d1)), .unset, .unset, .unset] []))
      refine own_st (fun _ kS => XS.iload X2192.here hx rfl (hb hby at_179) rfl kS) ?_
      show OFin p e below s _ _ _ (T2192.setTop (mkF m 181 #[.val (.int p1), .val (.long t1), .second, .val (.long t2), .second, .val (.int lv), .val (.int ts), .val (.ref tt), .val (.ref rg), .val (.ref x), .val (.ref y), .val (.int (Int32.ofNat d1)), .val (.int (Int32.ofNat d1)), .val (.int (Int32.ofNat d1)), .val (.ref x), .val (.ref y), .val (.int (Int32.ofNat d1)), .unset, .unset, .unset] [(.int (Int32.ofNat d1))]))
      refine own_st (fun _ kS => XS.iload X2192.here hx rfl (hb hby at_181) rfl kS) ?_
      show OFin p e below s _ _ _ (T2192.setTop (mkF m 183 #[.val (.int p1), .val (.long t1), .second, .val (.long t2), .second, .val (.int lv), .val (.int ts), .val (.ref tt), .val (.ref rg), .val (.ref x), .val (.ref y), .val (.int (Int32.ofNat d1)), .val (.int (Int32.ofNat d1)), .val (.int (Int32.ofNat d1)), .val (.ref x), .val (.ref y), .val (.int (Int32.ofNat d1)), .unset, .unset, .unset] [(.int (Int32.ofNat d1)), (.int (Int32.ofNat d1))]))
      refine own_st (fun _ kS => XS.icmpNo X2192.here hx rfl (hb hby at_183) rfl (teq rfl).2 kS) ?_
      show OFin p e below s _ _ _ (T2192.setTop (mkF m 186 #[.val (.int p1), .val (.long t1), .second, .val (.long t2), .second, .val (.int lv), .val (.int ts), .val (.ref tt), .val (.ref rg), .val (.ref x), .val (.ref y), .val (.int (Int32.ofNat d1)), .val (.int (Int32.ofNat d1)), .val (.int (Int32.ofNat d1)), .val (.ref x), .val (.ref y), .val (.int (Int32.ofNat d1)), .unset, .unset, .unset] []))
      refine own_st (fun _ kS => XS.iconst X2192.here hx rfl (hb hby at_186) kS) ?_
      show OFin p e below s _ _ _ (T2192.setTop (mkF m 187 #[.val (.int p1), .val (.long t1), .second, .val (.long t2), .second, .val (.int lv), .val (.int ts), .val (.ref tt), .val (.ref rg), .val (.ref x), .val (.ref y), .val (.int (Int32.ofNat d1)), .val (.int (Int32.ofNat d1)), .val (.int (Int32.ofNat d1)), .val (.ref x), .val (.ref y), .val (.int (Int32.ofNat d1)), .unset, .unset, .unset] [(.int (-1 : Int32))]))
      refine own_st (fun _ kS => XS.goto X2192.here hx rfl (pc0 := 187) (pc' := 192) rfl (hb hby at_187) (by decide) (by decide) kS) ?_
      show OFin p e below s _ _ _ (T2192.setTop (mkF m 192 #[.val (.int p1), .val (.long t1), .second, .val (.long t2), .second, .val (.int lv), .val (.int ts), .val (.ref tt), .val (.ref rg), .val (.ref x), .val (.ref y), .val (.int (Int32.ofNat d1)), .val (.int (Int32.ofNat d1)), .val (.int (Int32.ofNat d1)), .val (.ref x), .val (.ref y), .val (.int (Int32.ofNat d1)), .unset, .unset, .unset] [(.int (-1 : Int32))]))
      refine own_st (fun _ kS => XS.istore X2192.here hx rfl (hb hby at_192) rfl (l' := #[.val (.int p1), .val (.long t1), .second, .val (.long t2), .second, .val (.int lv), .val (.int ts), .val (.ref tt), .val (.ref rg), .val (.ref x), .val (.ref y), .val (.int (Int32.ofNat d1)), .val (.int (Int32.ofNat d1)), .val (.int (Int32.ofNat d1)), .val (.ref x), .val (.ref y), .val (.int (Int32.ofNat d1)), .val (.int (-1 : Int32)), .unset, .unset]) rfl kS) ?_
      show OFin p e below s _ _ _ (T2192.setTop (mkF m 194 #[.val (.int p1), .val (.long t1), .second, .val (.long t2), .second, .val (.int lv), .val (.int ts), .val (.ref tt), .val (.ref rg), .val (.ref x), .val (.ref y), .val (.int (Int32.ofNat d1)), .val (.int (Int32.ofNat d1)), .val (.int (Int32.ofNat d1)), .val (.ref x), .val (.ref y), .val (.int (Int32.ofNat d1)), .val (.int (-1 : Int32)), .unset, .unset] []))
      refine own_st (fun _ kS => XS.iload X2192.here hx rfl (hb hby at_194) rfl kS) ?_
      show OFin p e below s _ _ _ (T2192.setTop (mkF m 196 #[.val (.int p1), .val (.long t1), .second, .val (.long t2), .second, .val (.int lv), .val (.int ts), .val (.ref tt), .val (.ref rg), .val (.ref x), .val (.ref y), .val (.int (Int32.ofNat d1)), .val (.int (Int32.ofNat d1)), .val (.int (Int32.ofNat d1)), .val (.ref x), .val (.ref y), .val (.int (Int32.ofNat d1)), .val (.int (-1 : Int32)), .unset, .unset] [(.int (Int32.ofNat d1))]))
      refine own_st (fun _ kS => XS.iload X2192.here hx rfl (hb hby at_196) rfl kS) ?_
      show OFin p e below s _ _ _ (T2192.setTop (mkF m 198 #[.val (.int p1), .val (.long t1), .second, .val (.long t2), .second, .val (.int lv), .val (.int ts), .val (.ref tt), .val (.ref rg), .val (.ref x), .val (.ref y), .val (.int (Int32.ofNat d1)), .val (.int (Int32.ofNat d1)), .val (.int (Int32.ofNat d1)), .val (.ref x), .val (.ref y), .val (.int (Int32.ofNat d1)), .val (.int (-1 : Int32)), .unset, .unset] [(.int (Int32.ofNat d1)), (.int (Int32.ofNat d1))]))
      refine own_st (fun _ kS => XS.icmpYes X2192.here hx rfl (pc0 := 198) (pc' := 205) rfl (hb hby at_198) rfl (teq rfl).1 (by decide) (by decide) kS) ?_
      show OFin p e below s _ _ _ (T2192.setTop (mkF m 205 #[.val (.int p1), .val (.long t1), .second, .val (.long t2), .second, .val (.int lv), .val (.int ts), .val (.ref tt), .val (.ref rg), .val (.ref x), .val (.ref y), .val (.int (Int32.ofNat d1)), .val (.int (Int32.ofNat d1)), .val (.int (Int32.ofNat d1)), .val (.ref x), .val (.ref y), .val (.int (Int32.ofNat d1)), .val (.int (-1 : Int32)), .unset, .unset] []))
      refine own_st (fun _ kS => XS.iconst X2192.here hx rfl (hb hby at_205) kS) ?_
      show OFin p e below s _ _ _ (T2192.setTop (mkF m 206 #[.val (.int p1), .val (.long t1), .second, .val (.long t2), .second, .val (.int lv), .val (.int ts), .val (.ref tt), .val (.ref rg), .val (.ref x), .val (.ref y), .val (.int (Int32.ofNat d1)), .val (.int (Int32.ofNat d1)), .val (.int (Int32.ofNat d1)), .val (.ref x), .val (.ref y), .val (.int (Int32.ofNat d1)), .val (.int (-1 : Int32)), .unset, .unset] [(.int (0 : Int32))]))
      refine own_st (fun _ kS => XS.istore X2192.here hx rfl (hb hby at_206) rfl (l' := #[.val (.int p1), .val (.long t1), .second, .val (.long t2), .second, .val (.int lv), .val (.int ts), .val (.ref tt), .val (.ref rg), .val (.ref x), .val (.ref y), .val (.int (Int32.ofNat d1)), .val (.int (Int32.ofNat d1)), .val (.int (Int32.ofNat d1)), .val (.ref x), .val (.ref y), .val (.int (Int32.ofNat d1)), .val (.int (-1 : Int32)), .val (.int (0 : Int32)), .unset]) rfl kS) ?_
      show OFin p e below s _ _ _ (T2192.setTop (mkF m 208 #[.val (.int p1), .val (.long t1), .second, .val (.long t2), .second, .val (.int lv), .val (.int ts), .val (.ref tt), .val (.ref rg), .val (.ref x), .val (.ref y), .val (.int (Int32.ofNat d1)), .val (.int (Int32.ofNat d1)), .val (.int (Int32.ofNat d1)), .val (.ref x), .val (.ref y), .val (.int (Int32.ofNat d1)), .val (.int (-1 : Int32)), .val (.int (0 : Int32)), .unset] []))
      refine own_st (fun _ kS => XS.aload X2192.here hx rfl (hb hby at_208) rfl rfl kS) ?_
      show OFin p e below s _ _ _ (T2192.setTop (mkF m 210 #[.val (.int p1), .val (.long t1), .second, .val (.long t2), .second, .val (.int lv), .val (.int ts), .val (.ref tt), .val (.ref rg), .val (.ref x), .val (.ref y), .val (.int (Int32.ofNat d1)), .val (.int (Int32.ofNat d1)), .val (.int (Int32.ofNat d1)), .val (.ref x), .val (.ref y), .val (.int (Int32.ofNat d1)), .val (.int (-1 : Int32)), .val (.int (0 : Int32)), .unset] [(.ref rg)]))
      refine own_st (fun _ kS => XS.iload X2192.here hx rfl (hb hby at_210) rfl kS) ?_
      show OFin p e below s _ _ _ (T2192.setTop (mkF m 212 #[.val (.int p1), .val (.long t1), .second, .val (.long t2), .second, .val (.int lv), .val (.int ts), .val (.ref tt), .val (.ref rg), .val (.ref x), .val (.ref y), .val (.int (Int32.ofNat d1)), .val (.int (Int32.ofNat d1)), .val (.int (Int32.ofNat d1)), .val (.ref x), .val (.ref y), .val (.int (Int32.ofNat d1)), .val (.int (-1 : Int32)), .val (.int (0 : Int32)), .unset] [(.int (Int32.ofNat d1)), (.ref rg)]))
      obtain ⟨v2235, T2235, L2235, X2235, hQ2235, st2235⟩ := own_virtual X2192 hx hZ (y := (⟨"com/example/epicycle/epicycle/SlotRing", "take", "(I)Lcom/example/epicycle/epicycle/TimeoutList;"⟩ : MethodName)) (z := (⟨"com/example/epicycle/epicycle/SlotRing", "take", "(I)Lcom/example/epicycle/epicycle/TimeoutList;"⟩ : MethodName)) (rm := ⟨0, 0, 0, 0⟩) (W := 0) (a := rg) (argsL := [(.int (Int32.ofNat d1))]) (rest := []) hown (own_w hw 162 rfl) (own_w hw 163 rfl) (notFace_of_selects (args := #[]) (mvT hZ (own_w hw 165 rfl))) (own_w hw 165 rfl) (own_w hw 164 rfl) (own_w hw 52 rfl) (own_w hw 166 rfl) (rmTK l Z a0 hw rg (Int32.ofNat d1) T2132.heap n0 sz2132 sa tt s1 lv d1 (((0 : Int64) ||| own_bit (Int32.ofNat d1)) ||| own_bit (Int32.ofNat d1)) (fun i => if i = d1 then .ref s1 else (fun _ => .null) i) ⟨u2164, u2165, u2166, u2167, u2168, u2169⟩ g_rg g_sa ne_rg_sa (own_tn hd1) hd1 (if_pos rfl)) e2192 u2164 (g := (mkF m 212 #[.val (.int p1), .val (.long t1), .second, .val (.long t2), .second, .val (.int lv), .val (.int ts), .val (.ref tt), .val (.ref rg), .val (.ref x), .val (.ref y), .val (.int (Int32.ofNat d1)), .val (.int (Int32.ofNat d1)), .val (.int (Int32.ofNat d1)), .val (.ref x), .val (.ref y), .val (.int (Int32.ofNat d1)), .val (.int (-1 : Int32)), .val (.int (0 : Int32)), .unset] [(.int (Int32.ofNat d1)), (.ref rg)])) rfl (by rw [hml]; rfl) (lenOf own_pd20 rfl) rfl (by show 2 * 0 + _ ≤ _; exact Nat.le_of_eq rfl) (hb hby at_212) (by decide) (by decide) (by decide) (by decide)
      obtain ⟨rfl, N2235, K2235, B2235_0⟩ := hQ2235
      have fr2235 := Fr.app fr2132 N2235
      clear fr2132 N2235
      have f2236 := f2133.keep K2235
      clear f2133
      have f2237 := f2134.keep K2235 (ninS ne_tt_rg (ninS ne_tt_sa nin0))
      clear f2134
      have f2238 := f2135.keep K2235 (ninS ne_tt_rg (ninS ne_tt_sa nin0))
      clear f2135
      have f2239 := f2136.keep K2235 (ninS ne_tt_rg (ninS ne_tt_sa nin0))
      clear f2136
      have f2240 := u2177.keep K2235
      clear u2177
      have f2241 := u2164.keep K2235
      clear u2164
      have f2242 := u2187.keep K2235
      clear u2187
      have f2243 := u2183.keep K2235
      clear u2183
      clear u2169
      have f2245 := u2170.keep K2235
      clear u2170
      have f2246 := u2181.keep K2235 (ninS ne_ck_rg (ninS ne_ck_sa nin0))
      clear u2181
      clear u2165
      clear u2166
      clear u2167
      clear u2168
      have f2251 := u2171.keep K2235 (ninS (Ne.symm ne_rg_s1) (ninS (Ne.symm ne_sa_s1) nin0))
      clear u2171
      have f2252 := u2172.keep K2235 (ninS (Ne.symm ne_rg_s1) (ninS (Ne.symm ne_sa_s1) nin0))
      clear u2172
      have f2253 := u2173.keep K2235 (ninS (Ne.symm ne_rg_s1) (ninS (Ne.symm ne_sa_s1) nin0))
      clear u2173
      have f2254 := u2174.keep K2235 (ninS (Ne.symm ne_rg_s1) (ninS (Ne.symm ne_sa_s1) nin0))
      clear u2174
      have f2255 := u2175.keep K2235 (ninS (Ne.symm ne_rg_s1) (ninS (Ne.symm ne_sa_s1) nin0))
      clear u2175
      have f2256 := u2176.keep K2235 (ninS (Ne.symm ne_rg_s1) (ninS (Ne.symm ne_sa_s1) nin0))
      clear u2176
      have f2257 := u2178.keep K2235 (ninS ne_cl_rg (ninS ne_cl_sa nin0))
      clear u2178
      have f2258 := u2179.keep K2235 (ninS ne_cl_rg (ninS ne_cl_sa nin0))
      clear u2179
      have f2259 := u2180.keep K2235 (ninS ne_cl_rg (ninS ne_cl_sa nin0))
      clear u2180
      have f2260 := u2182.keep K2235 (ninS (Ne.symm ne_rg_c0) (ninS (Ne.symm ne_sa_c0) nin0))
      clear u2182
      have f2261 := u2184.keep K2235 (ninS (Ne.symm ne_rg_y) (ninS (Ne.symm ne_sa_y) nin0))
      clear u2184
      have f2262 := u2185.keep K2235 (ninS (Ne.symm ne_rg_y) (ninS (Ne.symm ne_sa_y) nin0))
      clear u2185
      have f2263 := u2186.keep K2235 (ninS (Ne.symm ne_rg_y) (ninS (Ne.symm ne_sa_y) nin0))
      clear u2186
      have f2264 := u2188.keep K2235 (ninS (Ne.symm ne_rg_x) (ninS (Ne.symm ne_sa_x) nin0))
      clear u2188
      have f2265 := u2189.keep K2235 (ninS (Ne.symm ne_rg_x) (ninS (Ne.symm ne_sa_x) nin0))
      clear u2189
      have f2266 := u2190.keep K2235 (ninS (Ne.symm ne_rg_x) (ninS (Ne.symm ne_sa_x) nin0))
      clear u2190
      have sz2235 : n0 ≤ T2235.heap.size := Nat.le_trans sz2132 K2235.1
      clear sz2132
      clear K2235
      obtain ⟨u2267, u2268, u2269, u2270, u2271, u2272⟩ := B2235_0
      refine own_st (st2235) ?_
      clear st2235 X2192 e2192
      show OFin p e below s _ _ _ (T2235.setTop (mkF m 215 #[.val (.int p1), .val (.long t1), .second, .val (.long t2), .second, .val (.int lv), .val (.int ts), .val (.ref tt), .val (.ref rg), .val (.ref x), .val (.ref y), .val (.int (Int32.ofNat d1)), .val (.int (Int32.ofNat d1)), .val (.int (Int32.ofNat d1)), .val (.ref x), .val (.ref y), .val (.int (Int32.ofNat d1)), .val (.int (-1 : Int32)), .val (.int (0 : Int32)), .unset] [(.ref s1)]))
      refine own_st (fun _ kS => XS.astore X2235.here hx rfl (hb hby at_215) rfl rfl (l' := #[.val (.int p1), .val (.long t1), .second, .val (.long t2), .second, .val (.int lv), .val (.int ts), .val (.ref tt), .val (.ref rg), .val (.ref x), .val (.ref y), .val (.int (Int32.ofNat d1)), .val (.int (Int32.ofNat d1)), .val (.int (Int32.ofNat d1)), .val (.ref x), .val (.ref y), .val (.int (Int32.ofNat d1)), .val (.int (-1 : Int32)), .val (.int (0 : Int32)), .val (.ref s1)]) rfl kS) ?_
      show OFin p e below s _ _ _ (T2235.setTop (mkF m 217 #[.val (.int p1), .val (.long t1), .second, .val (.long t2), .second, .val (.int lv), .val (.int ts), .val (.ref tt), .val (.ref rg), .val (.ref x), .val (.ref y), .val (.int (Int32.ofNat d1)), .val (.int (Int32.ofNat d1)), .val (.int (Int32.ofNat d1)), .val (.ref x), .val (.ref y), .val (.int (Int32.ofNat d1)), .val (.int (-1 : Int32)), .val (.int (0 : Int32)), .val (.ref s1)] []))
      refine own_st (fun _ kS => XS.aload X2235.here hx rfl (hb hby at_217) rfl rfl kS) ?_
      show OFin p e below s _ _ _ (T2235.setTop (mkF m 219 #[.val (.int p1), .val (.long t1), .second, .val (.long t2), .second, .val (.int lv), .val (.int ts), .val (.ref tt), .val (.ref rg), .val (.ref x), .val (.ref y), .val (.int (Int32.ofNat d1)), .val (.int (Int32.ofNat d1)), .val (.int (Int32.ofNat d1)), .val (.ref x), .val (.ref y), .val (.int (Int32.ofNat d1)), .val (.int (-1 : Int32)), .val (.int (0 : Int32)), .val (.ref s1)] [(.ref s1)]))
      refine own_st (fun _ kS => XS.ifnonnullYes X2235.here hx rfl (pc0 := 219) (pc' := 224) rfl (hb hby at_219) rfl (by decide) (by decide) kS) ?_
      show OFin p e below s _ _ _ (T2235.setTop (mkF m 224 #[.val (.int p1), .val (.long t1), .second, .val (.long t2), .second, .val (.int lv), .val (.int ts), .val (.ref tt), .val (.ref rg), .val (.ref x), .val (.ref y), .val (.int (Int32.ofNat d1)), .val (.int (Int32.ofNat d1)), .val (.int (Int32.ofNat d1)), .val (.ref x), .val (.ref y), .val (.int (Int32.ofNat d1)), .val (.int (-1 : Int32)), .val (.int (0 : Int32)), .val (.ref s1)] []))
      refine own_st (fun _ kS => XS.aload X2235.here hx rfl (hb hby at_224) rfl rfl kS) ?_
      show OFin p e below s _ _ _ (T2235.setTop (mkF m 226 #[.val (.int p1), .val (.long t1), .second, .val (.long t2), .second, .val (.int lv), .val (.int ts), .val (.ref tt), .val (.ref rg), .val (.ref x), .val (.ref y), .val (.int (Int32.ofNat d1)), .val (.int (Int32.ofNat d1)), .val (.int (Int32.ofNat d1)), .val (.ref x), .val (.ref y), .val (.int (Int32.ofNat d1)), .val (.int (-1 : Int32)), .val (.int (0 : Int32)), .val (.ref s1)] [(.ref s1)]))
      obtain ⟨v2273, T2273, L2273, X2273, hQ2273, st2273⟩ := own_virtual X2235 hx hZ (y := (⟨"com/example/epicycle/epicycle/TimeoutList", "first", "()Lcom/example/epicycle/epicycle/Timeout;"⟩ : MethodName)) (z := (⟨"com/example/epicycle/epicycle/TimeoutList", "first", "()Lcom/example/epicycle/epicycle/Timeout;"⟩ : MethodName)) (rm := ⟨5, 0, 0, 66⟩) (W := 0) (a := s1) (argsL := []) (rest := []) hown (own_w hw 168 rfl) (own_w hw 169 rfl) (notFace_of_selects (args := #[]) (mvT hZ (own_w hw 171 rfl))) (own_w hw 171 rfl) (own_w hw 170 rfl) (own_w hw 99 rfl) (own_w hw 172 rfl) (rmFI0 l Z a0 hw s1 T2235.heap tt cl ck c0 x 2 (1 : Int32) (2 : Int32) (2 : Int32) ea' (fun i => if i = 0 then .ref c0 else .null) (fun i => if i = 1 then .ref y else (fun i => if i = 0 then .ref x else .null) i) ⟨f2245, f2251, f2252, f2253, f2254, f2255, f2256⟩ ⟨f2236, f2237, f2238, f2239⟩ ⟨f2240, f2257, f2258, f2259, f2246, f2260⟩ f2242 rfl (by decide) rfl rfl) rfl f2245 (g := (mkF m 226 #[.val (.int p1), .val (.long t1), .second, .val (.long t2), .second, .val (.int lv), .val (.int ts), .val (.ref tt), .val (.ref rg), .val (.ref x), .val (.ref y), .val (.int (Int32.ofNat d1)), .val (.int (Int32.ofNat d1)), .val (.int (Int32.ofNat d1)), .val (.ref x), .val (.ref y), .val (.int (Int32.ofNat d1)), .val (.int (-1 : Int32)), .val (.int (0 : Int32)), .val (.ref s1)] [(.ref s1)])) rfl (by rw [hml]; rfl) (lenOf own_pd21 rfl) rfl (by show 2 * 0 + _ ≤ _; exact Nat.le_of_eq rfl) (hb hby at_226) (by decide) (by decide) (by decide) (by decide)
      obtain ⟨rfl, e2273, rfl⟩ := hQ2273
      rw [List.append_nil] at X2273
      refine own_st (st2273) ?_
      clear st2273 X2235
      show OFin p e below s _ _ _ (T2273.setTop (mkF m 229 #[.val (.int p1), .val (.long t1), .second, .val (.long t2), .second, .val (.int lv), .val (.int ts), .val (.ref tt), .val (.ref rg), .val (.ref x), .val (.ref y), .val (.int (Int32.ofNat d1)), .val (.int (Int32.ofNat d1)), .val (.int (Int32.ofNat d1)), .val (.ref x), .val (.ref y), .val (.int (Int32.ofNat d1)), .val (.int (-1 : Int32)), .val (.int (0 : Int32)), .val (.ref s1)] [(.ref x)]))
      refine own_st (fun _ kS => XS.aload X2273.here hx rfl (hb hby at_229) rfl rfl kS) ?_
      show OFin p e below s _ _ _ (T2273.setTop (mkF m 231 #[.val (.int p1), .val (.long t1), .second, .val (.long t2), .second, .val (.int lv), .val (.int ts), .val (.ref tt), .val (.ref rg), .val (.ref x), .val (.ref y), .val (.int (Int32.ofNat d1)), .val (.int (Int32.ofNat d1)), .val (.int (Int32.ofNat d1)), .val (.ref x), .val (.ref y), .val (.int (Int32.ofNat d1)), .val (.int (-1 : Int32)), .val (.int (0 : Int32)), .val (.ref s1)] [(.ref x), (.ref x)]))
      refine own_st (fun _ kS => Jvm.RoadKit.acmp (g := (mkF m 231 #[.val (.int p1), .val (.long t1), .second, .val (.long t2), .second, .val (.int lv), .val (.int ts), .val (.ref tt), .val (.ref rg), .val (.ref x), .val (.ref y), .val (.int (Int32.ofNat d1)), .val (.int (Int32.ofNat d1)), .val (.int (Int32.ofNat d1)), .val (.ref x), .val (.ref y), .val (.int (Int32.ofNat d1)), .val (.int (-1 : Int32)), .val (.int (0 : Int32)), .val (.ref s1)] [(.ref x), (.ref x)])) X2273 hx rfl rfl rfl (pc0 := 231) (pc' := 236) (same := true) rfl (hb hby at_231) rfl (decide_eq_true rfl) (by decide) (by decide) kS) ?_
      show OFin p e below s _ _ _ (T2273.setTop (mkF m 236 #[.val (.int p1), .val (.long t1), .second, .val (.long t2), .second, .val (.int lv), .val (.int ts), .val (.ref tt), .val (.ref rg), .val (.ref x), .val (.ref y), .val (.int (Int32.ofNat d1)), .val (.int (Int32.ofNat d1)), .val (.int (Int32.ofNat d1)), .val (.ref x), .val (.ref y), .val (.int (Int32.ofNat d1)), .val (.int (-1 : Int32)), .val (.int (0 : Int32)), .val (.ref s1)] []))
      refine own_st (fun _ kS => XS.aload X2273.here hx rfl (hb hby at_236) rfl rfl kS) ?_
      show OFin p e below s _ _ _ (T2273.setTop (mkF m 238 #[.val (.int p1), .val (.long t1), .second, .val (.long t2), .second, .val (.int lv), .val (.int ts), .val (.ref tt), .val (.ref rg), .val (.ref x), .val (.ref y), .val (.int (Int32.ofNat d1)), .val (.int (Int32.ofNat d1)), .val (.int (Int32.ofNat d1)), .val (.ref x), .val (.ref y), .val (.int (Int32.ofNat d1)), .val (.int (-1 : Int32)), .val (.int (0 : Int32)), .val (.ref s1)] [(.ref s1)]))
      obtain ⟨v2274, T2274, L2274, X2274, hQ2274, st2274⟩ := own_virtual X2273 hx hZ (y := (⟨"com/example/epicycle/epicycle/TimeoutList", "last", "()Lcom/example/epicycle/epicycle/Timeout;"⟩ : MethodName)) (z := (⟨"com/example/epicycle/epicycle/TimeoutList", "last", "()Lcom/example/epicycle/epicycle/Timeout;"⟩ : MethodName)) (rm := ⟨5, 0, 0, 66⟩) (W := 0) (a := s1) (argsL := []) (rest := []) hown (own_w hw 197 rfl) (own_w hw 198 rfl) (notFace_of_selects (args := #[]) (mvT hZ (own_w hw 200 rfl))) (own_w hw 200 rfl) (own_w hw 199 rfl) (own_w hw 99 rfl) (own_w hw 201 rfl) (rmLA1 l Z a0 hw s1 T2235.heap tt cl ck c0 y 2 (1 : Int32) (2 : Int32) (2 : Int32) ea' (fun i => if i = 0 then .ref c0 else .null) (fun i => if i = 1 then .ref y else (fun i => if i = 0 then .ref x else .null) i) ⟨f2245, f2251, f2252, f2253, f2254, f2255, f2256⟩ ⟨f2236, f2237, f2238, f2239⟩ ⟨f2240, f2257, f2258, f2259, f2246, f2260⟩ f2243 rfl (by decide) rfl rfl) e2273 f2245 (g := (mkF m 238 #[.val (.int p1), .val (.long t1), .second, .val (.long t2), .second, .val (.int lv), .val (.int ts), .val (.ref tt), .val (.ref rg), .val (.ref x), .val (.ref y), .val (.int (Int32.ofNat d1)), .val (.int (Int32.ofNat d1)), .val (.int (Int32.ofNat d1)), .val (.ref x), .val (.ref y), .val (.int (Int32.ofNat d1)), .val (.int (-1 : Int32)), .val (.int (0 : Int32)), .val (.ref s1)] [(.ref s1)])) rfl (by rw [hml]; rfl) (lenOf own_pd21 rfl) rfl (by show 2 * 0 + _ ≤ _; exact Nat.le_of_eq rfl) (hb hby at_238) (by decide) (by decide) (by decide) (by decide)
      obtain ⟨rfl, e2274, rfl⟩ := hQ2274
      rw [List.append_nil] at X2274
      refine own_st (st2274) ?_
      clear st2274 X2273 e2273
      show OFin p e below s _ _ _ (T2274.setTop (mkF m 241 #[.val (.int p1), .val (.long t1), .second, .val (.long t2), .second, .val (.int lv), .val (.int ts), .val (.ref tt), .val (.ref rg), .val (.ref x), .val (.ref y), .val (.int (Int32.ofNat d1)), .val (.int (Int32.ofNat d1)), .val (.int (Int32.ofNat d1)), .val (.ref x), .val (.ref y), .val (.int (Int32.ofNat d1)), .val (.int (-1 : Int32)), .val (.int (0 : Int32)), .val (.ref s1)] [(.ref y)]))
      refine own_st (fun _ kS => XS.aload X2274.here hx rfl (hb hby at_241) rfl rfl kS) ?_
      show OFin p e below s _ _ _ (T2274.setTop (mkF m 243 #[.val (.int p1), .val (.long t1), .second, .val (.long t2), .second, .val (.int lv), .val (.int ts), .val (.ref tt), .val (.ref rg), .val (.ref x), .val (.ref y), .val (.int (Int32.ofNat d1)), .val (.int (Int32.ofNat d1)), .val (.int (Int32.ofNat d1)), .val (.ref x), .val (.ref y), .val (.int (Int32.ofNat d1)), .val (.int (-1 : Int32)), .val (.int (0 : Int32)), .val (.ref s1)] [(.ref y), (.ref y)]))
      refine own_st (fun _ kS => Jvm.RoadKit.acmp (g := (mkF m 243 #[.val (.int p1), .val (.long t1), .second, .val (.long t2), .second, .val (.int lv), .val (.int ts), .val (.ref tt), .val (.ref rg), .val (.ref x), .val (.ref y), .val (.int (Int32.ofNat d1)), .val (.int (Int32.ofNat d1)), .val (.int (Int32.ofNat d1)), .val (.ref x), .val (.ref y), .val (.int (Int32.ofNat d1)), .val (.int (-1 : Int32)), .val (.int (0 : Int32)), .val (.ref s1)] [(.ref y), (.ref y)])) X2274 hx rfl rfl rfl (pc0 := 243) (pc' := 248) (same := true) rfl (hb hby at_243) rfl (decide_eq_true rfl) (by decide) (by decide) kS) ?_
      show OFin p e below s _ _ _ (T2274.setTop (mkF m 248 #[.val (.int p1), .val (.long t1), .second, .val (.long t2), .second, .val (.int lv), .val (.int ts), .val (.ref tt), .val (.ref rg), .val (.ref x), .val (.ref y), .val (.int (Int32.ofNat d1)), .val (.int (Int32.ofNat d1)), .val (.int (Int32.ofNat d1)), .val (.ref x), .val (.ref y), .val (.int (Int32.ofNat d1)), .val (.int (-1 : Int32)), .val (.int (0 : Int32)), .val (.ref s1)] []))
      refine own_st (fun _ kS => XS.aload X2274.here hx rfl (hb hby at_248) rfl rfl kS) ?_
      show OFin p e below s _ _ _ (T2274.setTop (mkF m 250 #[.val (.int p1), .val (.long t1), .second, .val (.long t2), .second, .val (.int lv), .val (.int ts), .val (.ref tt), .val (.ref rg), .val (.ref x), .val (.ref y), .val (.int (Int32.ofNat d1)), .val (.int (Int32.ofNat d1)), .val (.int (Int32.ofNat d1)), .val (.ref x), .val (.ref y), .val (.int (Int32.ofNat d1)), .val (.int (-1 : Int32)), .val (.int (0 : Int32)), .val (.ref s1)] [(.ref rg)]))
      obtain ⟨v2275, T2275, L2275, X2275, hQ2275, st2275⟩ := own_virtual X2274 hx hZ (y := (⟨"com/example/epicycle/epicycle/SlotRing", "firstOccupied", "()I"⟩ : MethodName)) (z := (⟨"com/example/epicycle/epicycle/SlotRing", "firstOccupied", "()I"⟩ : MethodName)) (rm := ⟨2, 0, 0, 28⟩) (W := 0) (a := rg) (argsL := []) (rest := []) hown (own_w hw 202 rfl) (own_w hw 203 rfl) (notFace_of_selects (args := #[]) (mvT hZ (own_w hw 205 rfl))) (own_w hw 205 rfl) (own_w hw 204 rfl) (own_w hw 52 rfl) (own_w hw 206 rfl) (rmFO l Z a0 hw rg T2235.heap sa tt lv ((((0 : Int64) ||| own_bit (Int32.ofNat d1)) ||| own_bit (Int32.ofNat d1)) &&& (own_bit (Int32.ofNat d1) ^^^ (-1 : Int64))) (fun i => if i = d1 then .null else (fun i => if i = d1 then .ref s1 else (fun _ => .null) i) i) ⟨u2267, u2268, u2269, u2270, u2271, u2272⟩) e2274 u2267 (g := (mkF m 250 #[.val (.int p1), .val (.long t1), .second, .val (.long t2), .second, .val (.int lv), .val (.int ts), .val (.ref tt), .val (.ref rg), .val (.ref x), .val (.ref y), .val (.int (Int32.ofNat d1)), .val (.int (Int32.ofNat d1)), .val (.int (Int32.ofNat d1)), .val (.ref x), .val (.ref y), .val (.int (Int32.ofNat d1)), .val (.int (-1 : Int32)), .val (.int (0 : Int32)), .val (.ref s1)] [(.ref rg)])) rfl (by rw [hml]; rfl) (lenOf own_pd5 rfl) rfl (by show 2 * 0 + _ ≤ _; exact Nat.le_of_eq rfl) (hb hby at_250) (by decide) (by decide) (by decide) (by decide)
      obtain ⟨rfl, e2275, rfl⟩ := hQ2275
      rw [List.append_nil] at X2275
      refine own_st (st2275) ?_
      clear st2275 X2274 e2274
      show OFin p e below s _ _ _ (T2275.setTop (mkF m 253 #[.val (.int p1), .val (.long t1), .second, .val (.long t2), .second, .val (.int lv), .val (.int ts), .val (.ref tt), .val (.ref rg), .val (.ref x), .val (.ref y), .val (.int (Int32.ofNat d1)), .val (.int (Int32.ofNat d1)), .val (.int (Int32.ofNat d1)), .val (.ref x), .val (.ref y), .val (.int (Int32.ofNat d1)), .val (.int (-1 : Int32)), .val (.int (0 : Int32)), .val (.ref s1)] [(.int (own_fo ((((0 : Int64) ||| own_bit (Int32.ofNat d1)) ||| own_bit (Int32.ofNat d1)) &&& (own_bit (Int32.ofNat d1) ^^^ (-1 : Int64)))))]))
      refine own_st (fun _ kS => XS.iload X2275.here hx rfl (hb hby at_253) rfl kS) ?_
      show OFin p e below s _ _ _ (T2275.setTop (mkF m 255 #[.val (.int p1), .val (.long t1), .second, .val (.long t2), .second, .val (.int lv), .val (.int ts), .val (.ref tt), .val (.ref rg), .val (.ref x), .val (.ref y), .val (.int (Int32.ofNat d1)), .val (.int (Int32.ofNat d1)), .val (.int (Int32.ofNat d1)), .val (.ref x), .val (.ref y), .val (.int (Int32.ofNat d1)), .val (.int (-1 : Int32)), .val (.int (0 : Int32)), .val (.ref s1)] [(.int (-1 : Int32)), (.int (own_fo ((((0 : Int64) ||| own_bit (Int32.ofNat d1)) ||| own_bit (Int32.ofNat d1)) &&& (own_bit (Int32.ofNat d1) ^^^ (-1 : Int64)))))]))
      refine own_st (fun _ kS => XS.icmpYes X2275.here hx rfl (pc0 := 255) (pc' := 260) rfl (hb hby at_255) rfl (teq (show own_fo _ = _ from (own_bits0 ⟨d1, hd1⟩))).1 (by decide) (by decide) kS) ?_
      show OFin p e below s _ _ _ (T2275.setTop (mkF m 260 #[.val (.int p1), .val (.long t1), .second, .val (.long t2), .second, .val (.int lv), .val (.int ts), .val (.ref tt), .val (.ref rg), .val (.ref x), .val (.ref y), .val (.int (Int32.ofNat d1)), .val (.int (Int32.ofNat d1)), .val (.int (Int32.ofNat d1)), .val (.ref x), .val (.ref y), .val (.int (Int32.ofNat d1)), .val (.int (-1 : Int32)), .val (.int (0 : Int32)), .val (.ref s1)] []))
      refine own_st (fun _ kS => XS.aload X2275.here hx rfl (hb hby at_260) rfl rfl kS) ?_
      show OFin p e below s _ _ _ (T2275.setTop (mkF m 262 #[.val (.int p1), .val (.long t1), .second, .val (.long t2), .second, .val (.int lv), .val (.int ts), .val (.ref tt), .val (.ref rg), .val (.ref x), .val (.ref y), .val (.int (Int32.ofNat d1)), .val (.int (Int32.ofNat d1)), .val (.int (Int32.ofNat d1)), .val (.ref x), .val (.ref y), .val (.int (Int32.ofNat d1)), .val (.int (-1 : Int32)), .val (.int (0 : Int32)), .val (.ref s1)] [(.ref rg)]))
      refine own_st (fun _ kS => XS.aload X2275.here hx rfl (hb hby at_262) rfl rfl kS) ?_
      show OFin p e below s _ _ _ (T2275.setTop (mkF m 264 #[.val (.int p1), .val (.long t1), .second, .val (.long t2), .second, .val (.int lv), .val (.int ts), .val (.ref tt), .val (.ref rg), .val (.ref x), .val (.ref y), .val (.int (Int32.ofNat d1)), .val (.int (Int32.ofNat d1)), .val (.int (Int32.ofNat d1)), .val (.ref x), .val (.ref y), .val (.int (Int32.ofNat d1)), .val (.int (-1 : Int32)), .val (.int (0 : Int32)), .val (.ref s1)] [(.ref x), (.ref rg)]))
      obtain ⟨v2276, T2276, L2276, X2276, hQ2276, st2276⟩ := own_virtual X2275 hx hZ (y := (⟨"com/example/epicycle/epicycle/SlotRing", "holds", "(Lcom/example/epicycle/epicycle/Timeout;)Z"⟩ : MethodName)) (z := (⟨"com/example/epicycle/epicycle/SlotRing", "holds", "(Lcom/example/epicycle/epicycle/Timeout;)Z"⟩ : MethodName)) (rm := ⟨5, 0, 0, 66⟩) (W := 0) (a := rg) (argsL := [(.ref x)]) (rest := []) hown (own_w hw 216 rfl) (own_w hw 217 rfl) (notFace_of_selects (args := #[]) (mvT hZ (own_w hw 219 rfl))) (own_w hw 219 rfl) (own_w hw 218 rfl) (own_w hw 52 rfl) (own_w hw 220 rfl) (rmHN l Z a0 hw rg x T2235.heap sa tt lv (Int32.ofNat d1) (2 : Int32) d1 ((((0 : Int64) ||| own_bit (Int32.ofNat d1)) ||| own_bit (Int32.ofNat d1)) &&& (own_bit (Int32.ofNat d1) ^^^ (-1 : Int64))) t1 (fun i => if i = d1 then .null else (fun i => if i = d1 then .ref s1 else (fun _ => .null) i) i) ⟨u2267, u2268, u2269, u2270, u2271, u2272⟩ ⟨f2242, f2264, f2265, f2266⟩ e1 (own_tn hd1) hd1 (if_pos rfl)) e2275 u2267 (g := (mkF m 264 #[.val (.int p1), .val (.long t1), .second, .val (.long t2), .second, .val (.int lv), .val (.int ts), .val (.ref tt), .val (.ref rg), .val (.ref x), .val (.ref y), .val (.int (Int32.ofNat d1)), .val (.int (Int32.ofNat d1)), .val (.int (Int32.ofNat d1)), .val (.ref x), .val (.ref y), .val (.int (Int32.ofNat d1)), .val (.int (-1 : Int32)), .val (.int (0 : Int32)), .val (.ref s1)] [(.ref x), (.ref rg)])) rfl (by rw [hml]; rfl) (lenOf own_pd15 rfl) rfl (by show 2 * 0 + _ ≤ _; exact Nat.le_of_eq rfl) (hb hby at_264) (by decide) (by decide) (by decide) (by decide)
      obtain ⟨rfl, e2276, rfl⟩ := hQ2276
      rw [List.append_nil] at X2276
      refine own_st (st2276) ?_
      clear st2276 X2275 e2275
      show OFin p e below s _ _ _ (T2276.setTop (mkF m 267 #[.val (.int p1), .val (.long t1), .second, .val (.long t2), .second, .val (.int lv), .val (.int ts), .val (.ref tt), .val (.ref rg), .val (.ref x), .val (.ref y), .val (.int (Int32.ofNat d1)), .val (.int (Int32.ofNat d1)), .val (.int (Int32.ofNat d1)), .val (.ref x), .val (.ref y), .val (.int (Int32.ofNat d1)), .val (.int (-1 : Int32)), .val (.int (0 : Int32)), .val (.ref s1)] [(.int (0 : Int32))]))
      refine own_st (fun _ kS => XS.iload X2276.here hx rfl (hb hby at_267) rfl kS) ?_
      show OFin p e below s _ _ _ (T2276.setTop (mkF m 269 #[.val (.int p1), .val (.long t1), .second, .val (.long t2), .second, .val (.int lv), .val (.int ts), .val (.ref tt), .val (.ref rg), .val (.ref x), .val (.ref y), .val (.int (Int32.ofNat d1)), .val (.int (Int32.ofNat d1)), .val (.int (Int32.ofNat d1)), .val (.ref x), .val (.ref y), .val (.int (Int32.ofNat d1)), .val (.int (-1 : Int32)), .val (.int (0 : Int32)), .val (.ref s1)] [(.int (0 : Int32)), (.int (0 : Int32))]))
      refine own_st (fun _ kS => XS.icmpNo X2276.here hx rfl (hb hby at_269) rfl (teq rfl).2 kS) ?_
      show OFin p e below s _ _ _ (T2276.setTop (mkF m 272 #[.val (.int p1), .val (.long t1), .second, .val (.long t2), .second, .val (.int lv), .val (.int ts), .val (.ref tt), .val (.ref rg), .val (.ref x), .val (.ref y), .val (.int (Int32.ofNat d1)), .val (.int (Int32.ofNat d1)), .val (.int (Int32.ofNat d1)), .val (.ref x), .val (.ref y), .val (.int (Int32.ofNat d1)), .val (.int (-1 : Int32)), .val (.int (0 : Int32)), .val (.ref s1)] []))
      refine own_st (fun _ kS => XS.iconst X2276.here hx rfl (hb hby at_272) kS) ?_
      show OFin p e below s _ _ _ (T2276.setTop (mkF m 273 #[.val (.int p1), .val (.long t1), .second, .val (.long t2), .second, .val (.int lv), .val (.int ts), .val (.ref tt), .val (.ref rg), .val (.ref x), .val (.ref y), .val (.int (Int32.ofNat d1)), .val (.int (Int32.ofNat d1)), .val (.int (Int32.ofNat d1)), .val (.ref x), .val (.ref y), .val (.int (Int32.ofNat d1)), .val (.int (-1 : Int32)), .val (.int (0 : Int32)), .val (.ref s1)] [(.int (1 : Int32))]))
      refine own_st (fun _ kS => XS.goto X2276.here hx rfl (pc0 := 273) (pc' := 277) rfl (hb hby at_273) (by decide) (by decide) kS) ?_
      show OFin p e below s _ _ _ (T2276.setTop (mkF m 277 #[.val (.int p1), .val (.long t1), .second, .val (.long t2), .second, .val (.int lv), .val (.int ts), .val (.ref tt), .val (.ref rg), .val (.ref x), .val (.ref y), .val (.int (Int32.ofNat d1)), .val (.int (Int32.ofNat d1)), .val (.int (Int32.ofNat d1)), .val (.ref x), .val (.ref y), .val (.int (Int32.ofNat d1)), .val (.int (-1 : Int32)), .val (.int (0 : Int32)), .val (.ref s1)] [(.int (1 : Int32))]))
      exact own_ret X2276 hx (t := .boolean) hret hlk rfl (Or.inl ⟨rfl, by simp, _, rfl⟩) (hb hby at_277) (by decide) (by decide) ⟨rfl, fr2235⟩
  · obtain ⟨v2277, T2277, L2277, X2277, hQ2277, st2277⟩ := own_virtual X2085 hx hZ (y := (⟨"com/example/epicycle/epicycle/SlotRing", "add", "(Lcom/example/epicycle/epicycle/Timeout;)V"⟩ : MethodName)) (z := (⟨"com/example/epicycle/epicycle/SlotRing", "add", "(Lcom/example/epicycle/epicycle/Timeout;)V"⟩ : MethodName)) (rm := ⟨5, 1, 7, 67⟩) (W := 0) (a := rg) (argsL := [(.ref y)]) (rest := []) hown (own_w hw 78 rfl) (own_w hw 79 rfl) (notFace_of_selects (args := #[]) (mvT hZ (own_w hw 81 rfl))) (own_w hw 81 rfl) (own_w hw 80 rfl) (own_w hw 52 rfl) (own_w hw 82 rfl) (rmAD1 l Z a0 hw rg y T2085.heap n0 sz2085 sa tt cl ck c0 lv (Int32.ofNat d2) d2 ((0 : Int64) ||| own_bit (Int32.ofNat d1)) t2 (fun i => if i = d1 then .ref s1 else (fun _ => .null) i) (fun i => if i = 0 then .ref c0 else .null) (fun i => if i = 0 then .ref x else .null) ⟨u2109, u2110, u2111, u2112, u2113, u2114⟩ ⟨f2086, f2087, f2088, f2089⟩ ⟨u2122, u2123, u2124, u2125, u2126, u2127⟩ ⟨f2105, f2106, f2107, f2108⟩ g_rg g_sa g_y g_cl g_c0 ne_rg_sa (Ne.symm ne_tt_rg) (Ne.symm ne_cl_rg) (Ne.symm ne_ck_rg) ne_rg_c0 ne_rg_y (Ne.symm ne_tt_sa) (Ne.symm ne_cl_sa) (Ne.symm ne_ck_sa) ne_sa_c0 ne_sa_y ne_tt_cl ne_tt_ck ne_tt_c0 ne_tt_y ne_cl_ck ne_cl_c0 ne_cl_y ne_ck_c0 ne_ck_y (Ne.symm ne_y_c0) e2 (own_tn hd2) hd2 (if_neg (Ne.symm hab)) rfl) rfl u2109 (g := (mkF m 81 #[.val (.int p1), .val (.long t1), .second, .val (.long t2), .second, .val (.int lv), .val (.int ts), .val (.ref tt), .val (.ref rg), .val (.ref x), .val (.ref y), .unset, .unset, .unset, .unset, .unset, .unset, .unset, .unset, .unset] [(.ref y), (.ref rg)])) rfl (by rw [hml]; rfl) (lenOf own_pd14 rfl) rfl (by show 2 * 0 + _ ≤ _; exact Nat.le_of_eq rfl) (hb hby at_81) (by decide) (by decide) (by decide) (by decide)
    obtain ⟨rfl, N2277, K2277, s2, ge_s2, B2277_0, B2277_1, B2277_2, B2277_3⟩ := hQ2277
    have ne_c0_s2 : c0 ≠ s2 := Nat.ne_of_lt (Nat.lt_of_lt_of_le u2127.lt ge_s2)
    have ne_ck_s2 : ck ≠ s2 := Nat.ne_of_lt (Nat.lt_of_lt_of_le u2126.lt ge_s2)
    have ne_cl_s2 : cl ≠ s2 := Nat.ne_of_lt (Nat.lt_of_lt_of_le u2122.lt ge_s2)
    have ne_rg_s2 : rg ≠ s2 := Nat.ne_of_lt (Nat.lt_of_lt_of_le u2109.lt ge_s2)
    have ne_s1_s2 : s1 ≠ s2 := Nat.ne_of_lt (Nat.lt_of_lt_of_le u2115.lt ge_s2)
    have ne_sa_s2 : sa ≠ s2 := Nat.ne_of_lt (Nat.lt_of_lt_of_le u2114.lt ge_s2)
    have ne_tt_s2 : tt ≠ s2 := Nat.ne_of_lt (Nat.lt_of_lt_of_le f2086.lt ge_s2)
    have ne_x_s2 : x ≠ s2 := Nat.ne_of_lt (Nat.lt_of_lt_of_le u2128.lt ge_s2)
    have ne_y_s2 : y ≠ s2 := Nat.ne_of_lt (Nat.lt_of_lt_of_le f2105.lt ge_s2)
    have g_s2 : n0 ≤ s2 := Nat.le_trans sz2085 ge_s2
    have fr2277 := Fr.app fr2085 N2277
    clear fr2085 N2277
    have f2278 := f2086.keep K2277
    clear f2086
    have f2279 := f2087.keep K2277 (ninS ne_tt_rg (ninS ne_tt_sa (ninS ne_tt_y (ninS ne_tt_cl (ninS ne_tt_c0 nin0)))))
    clear f2087
    have f2280 := f2088.keep K2277 (ninS ne_tt_rg (ninS ne_tt_sa (ninS ne_tt_y (ninS ne_tt_cl (ninS ne_tt_c0 nin0)))))
    clear f2088
    have f2281 := f2089.keep K2277 (ninS ne_tt_rg (ninS ne_tt_sa (ninS ne_tt_y (ninS ne_tt_cl (ninS ne_tt_c0 nin0)))))
    clear f2089
    have f2282 := u2122.keep K2277
    clear u2122
    have f2283 := u2109.keep K2277
    clear u2109
    have f2284 := u2128.keep K2277
    clear u2128
    have f2285 := f2105.keep K2277
    clear f2105
    clear f2106
    clear f2107
    clear f2108
    clear u2110
    clear u2111
    clear u2112
    clear u2113
    clear u2114
    have f2294 := u2115.keep K2277
    clear u2115
    have f2295 := u2116.keep K2277 (ninS (Ne.symm ne_rg_s1) (ninS (Ne.symm ne_sa_s1) (ninS (Ne.symm ne_y_s1) (ninS (Ne.symm ne_cl_s1) (ninS ne_s1_c0 nin0)))))
    clear u2116
    have f2296 := u2117.keep K2277 (ninS (Ne.symm ne_rg_s1) (ninS (Ne.symm ne_sa_s1) (ninS (Ne.symm ne_y_s1) (ninS (Ne.symm ne_cl_s1) (ninS ne_s1_c0 nin0)))))
    clear u2117
    have f2297 := u2118.keep K2277 (ninS (Ne.symm ne_rg_s1) (ninS (Ne.symm ne_sa_s1) (ninS (Ne.symm ne_y_s1) (ninS (Ne.symm ne_cl_s1) (ninS ne_s1_c0 nin0)))))
    clear u2118
    have f2298 := u2119.keep K2277 (ninS (Ne.symm ne_rg_s1) (ninS (Ne.symm ne_sa_s1) (ninS (Ne.symm ne_y_s1) (ninS (Ne.symm ne_cl_s1) (ninS ne_s1_c0 nin0)))))
    clear u2119
    have f2299 := u2120.keep K2277 (ninS (Ne.symm ne_rg_s1) (ninS (Ne.symm ne_sa_s1) (ninS (Ne.symm ne_y_s1) (ninS (Ne.symm ne_cl_s1) (ninS ne_s1_c0 nin0)))))
    clear u2120
    have f2300 := u2121.keep K2277 (ninS (Ne.symm ne_rg_s1) (ninS (Ne.symm ne_sa_s1) (ninS (Ne.symm ne_y_s1) (ninS (Ne.symm ne_cl_s1) (ninS ne_s1_c0 nin0)))))
    clear u2121
    clear u2123
    clear u2124
    clear u2125
    have f2304 := u2126.keep K2277 (ninS ne_ck_rg (ninS ne_ck_sa (ninS ne_ck_y (ninS (Ne.symm ne_cl_ck) (ninS ne_ck_c0 nin0)))))
    clear u2126
    clear u2127
    have f2306 := u2129.keep K2277 (ninS (Ne.symm ne_rg_x) (ninS (Ne.symm ne_sa_x) (ninS ne_x_y (ninS (Ne.symm ne_cl_x) (ninS ne_x_c0 nin0)))))
    clear u2129
    have f2307 := u2130.keep K2277 (ninS (Ne.symm ne_rg_x) (ninS (Ne.symm ne_sa_x) (ninS ne_x_y (ninS (Ne.symm ne_cl_x) (ninS ne_x_c0 nin0)))))
    clear u2130
    have f2308 := u2131.keep K2277 (ninS (Ne.symm ne_rg_x) (ninS (Ne.symm ne_sa_x) (ninS ne_x_y (ninS (Ne.symm ne_cl_x) (ninS ne_x_c0 nin0)))))
    clear u2131
    have sz2277 : n0 ≤ T2277.heap.size := Nat.le_trans sz2085 K2277.1
    clear sz2085
    clear K2277
    obtain ⟨u2309, u2310, u2311, u2312, u2313, u2314⟩ := B2277_0
    obtain ⟨u2315, u2316, u2317, u2318, u2319, u2320, u2321⟩ := B2277_1
    obtain ⟨u2322, u2323, u2324, u2325, u2326, u2327⟩ := B2277_2
    obtain ⟨u2328, u2329, u2330, u2331⟩ := B2277_3
    refine own_st (st2277) ?_
    clear st2277 X2085
    show OFin p e below s _ _ _ (T2277.setTop (mkF m 84 #[.val (.int p1), .val (.long t1), .second, .val (.long t2), .second, .val (.int lv), .val (.int ts), .val (.ref tt), .val (.ref rg), .val (.ref x), .val (.ref y), .unset, .unset, .unset, .unset, .unset, .unset, .unset, .unset, .unset] []))
    refine own_st (fun _ kS => XS.lloadN X2277.here hx rfl (hb hby at_84) rfl kS) ?_
    show OFin p e below s _ _ _ (T2277.setTop (mkF m 85 #[.val (.int p1), .val (.long t1), .second, .val (.long t2), .second, .val (.int lv), .val (.int ts), .val (.ref tt), .val (.ref rg), .val (.ref x), .val (.ref y), .unset, .unset, .unset, .unset, .unset, .unset, .unset, .unset, .unset] [(.long t1)]))
    refine own_st (fun _ kS => XS.iload X2277.here hx rfl (hb hby at_85) rfl kS) ?_
    show OFin p e below s _ _ _ (T2277.setTop (mkF m 87 #[.val (.int p1), .val (.long t1), .second, .val (.long t2), .second, .val (.int lv), .val (.int ts), .val (.ref tt), .val (.ref rg), .val (.ref x), .val (.ref y), .unset, .unset, .unset, .unset, .unset, .unset, .unset, .unset, .unset] [(.int lv), (.long t1)]))
    obtain ⟨v2332, T2332, L2332, X2332, hQ2332, st2332⟩ := own_static X2277 hx hZ (y := (⟨"com/example/epicycle/epicycle/SlotRingTakePinLaw", "dig", "(JI)I"⟩ : MethodName)) (rm := ⟨0, 0, 0, 0⟩) (W := 0) (argsL := [(.long t1), (.int lv)]) (rest := []) hown (own_w hw 157 rfl) (own_w hw 158 rfl) (own_w hw 159 rfl) (own_w hw 160 rfl) (rmLG l Z a0 hw t1 lv T2277.heap) rfl (g := (mkF m 87 #[.val (.int p1), .val (.long t1), .second, .val (.long t2), .second, .val (.int lv), .val (.int ts), .val (.ref tt), .val (.ref rg), .val (.ref x), .val (.ref y), .unset, .unset, .unset, .unset, .unset, .unset, .unset, .unset, .unset] [(.int lv), (.long t1)])) rfl (by rw [hml]; rfl) (lenOf own_pd12 rfl) rfl (by show 2 * 0 + _ ≤ _; exact Nat.le_of_eq rfl) (hb hby at_87) (by decide) (by decide) (by decide) (by decide)
    obtain ⟨rfl, e2332, rfl⟩ := hQ2332
    rw [List.append_nil] at X2332
    refine own_st (st2332) ?_
    clear st2332 X2277
    show OFin p e below s _ _ _ (T2332.setTop (mkF m 90 #[.val (.int p1), .val (.long t1), .second, .val (.long t2), .second, .val (.int lv), .val (.int ts), .val (.ref tt), .val (.ref rg), .val (.ref x), .val (.ref y), .unset, .unset, .unset, .unset, .unset, .unset, .unset, .unset, .unset] [(.int (own_dgl t1 lv))]))
    rw [own_dgl_eq, e1]
    show OFin p e below s _ _ _ (T2332.setTop (mkF m 90 #[.val (.int p1), .val (.long t1), .second, .val (.long t2), .second, .val (.int lv), .val (.int ts), .val (.ref tt), .val (.ref rg), .val (.ref x), .val (.ref y), .unset, .unset, .unset, .unset, .unset, .unset, .unset, .unset, .unset] [(.int (Int32.ofNat d1))]))
    refine own_st (fun _ kS => XS.istore X2332.here hx rfl (hb hby at_90) rfl (l' := #[.val (.int p1), .val (.long t1), .second, .val (.long t2), .second, .val (.int lv), .val (.int ts), .val (.ref tt), .val (.ref rg), .val (.ref x), .val (.ref y), .val (.int (Int32.ofNat d1)), .unset, .unset, .unset, .unset, .unset, .unset, .unset, .unset]) rfl kS) ?_
    show OFin p e below s _ _ _ (T2332.setTop (mkF m 92 #[.val (.int p1), .val (.long t1), .second, .val (.long t2), .second, .val (.int lv), .val (.int ts), .val (.ref tt), .val (.ref rg), .val (.ref x), .val (.ref y), .val (.int (Int32.ofNat d1)), .unset, .unset, .unset, .unset, .unset, .unset, .unset, .unset] []))
    refine own_st (fun _ kS => XS.lloadN X2332.here hx rfl (hb hby at_92) rfl kS) ?_
    show OFin p e below s _ _ _ (T2332.setTop (mkF m 93 #[.val (.int p1), .val (.long t1), .second, .val (.long t2), .second, .val (.int lv), .val (.int ts), .val (.ref tt), .val (.ref rg), .val (.ref x), .val (.ref y), .val (.int (Int32.ofNat d1)), .unset, .unset, .unset, .unset, .unset, .unset, .unset, .unset] [(.long t2)]))
    refine own_st (fun _ kS => XS.iload X2332.here hx rfl (hb hby at_93) rfl kS) ?_
    show OFin p e below s _ _ _ (T2332.setTop (mkF m 95 #[.val (.int p1), .val (.long t1), .second, .val (.long t2), .second, .val (.int lv), .val (.int ts), .val (.ref tt), .val (.ref rg), .val (.ref x), .val (.ref y), .val (.int (Int32.ofNat d1)), .unset, .unset, .unset, .unset, .unset, .unset, .unset, .unset] [(.int lv), (.long t2)]))
    obtain ⟨v2333, T2333, L2333, X2333, hQ2333, st2333⟩ := own_static X2332 hx hZ (y := (⟨"com/example/epicycle/epicycle/SlotRingTakePinLaw", "dig", "(JI)I"⟩ : MethodName)) (rm := ⟨0, 0, 0, 0⟩) (W := 0) (argsL := [(.long t2), (.int lv)]) (rest := []) hown (own_w hw 157 rfl) (own_w hw 158 rfl) (own_w hw 159 rfl) (own_w hw 160 rfl) (rmLG l Z a0 hw t2 lv T2277.heap) e2332 (g := (mkF m 95 #[.val (.int p1), .val (.long t1), .second, .val (.long t2), .second, .val (.int lv), .val (.int ts), .val (.ref tt), .val (.ref rg), .val (.ref x), .val (.ref y), .val (.int (Int32.ofNat d1)), .unset, .unset, .unset, .unset, .unset, .unset, .unset, .unset] [(.int lv), (.long t2)])) rfl (by rw [hml]; rfl) (lenOf own_pd12 rfl) rfl (by show 2 * 0 + _ ≤ _; exact Nat.le_of_eq rfl) (hb hby at_95) (by decide) (by decide) (by decide) (by decide)
    obtain ⟨rfl, e2333, rfl⟩ := hQ2333
    rw [List.append_nil] at X2333
    refine own_st (st2333) ?_
    clear st2333 X2332 e2332
    show OFin p e below s _ _ _ (T2333.setTop (mkF m 98 #[.val (.int p1), .val (.long t1), .second, .val (.long t2), .second, .val (.int lv), .val (.int ts), .val (.ref tt), .val (.ref rg), .val (.ref x), .val (.ref y), .val (.int (Int32.ofNat d1)), .unset, .unset, .unset, .unset, .unset, .unset, .unset, .unset] [(.int (own_dgl t2 lv))]))
    rw [own_dgl_eq, e2]
    show OFin p e below s _ _ _ (T2333.setTop (mkF m 98 #[.val (.int p1), .val (.long t1), .second, .val (.long t2), .second, .val (.int lv), .val (.int ts), .val (.ref tt), .val (.ref rg), .val (.ref x), .val (.ref y), .val (.int (Int32.ofNat d1)), .unset, .unset, .unset, .unset, .unset, .unset, .unset, .unset] [(.int (Int32.ofNat d2))]))
    refine own_st (fun _ kS => XS.istore X2333.here hx rfl (hb hby at_98) rfl (l' := #[.val (.int p1), .val (.long t1), .second, .val (.long t2), .second, .val (.int lv), .val (.int ts), .val (.ref tt), .val (.ref rg), .val (.ref x), .val (.ref y), .val (.int (Int32.ofNat d1)), .val (.int (Int32.ofNat d2)), .unset, .unset, .unset, .unset, .unset, .unset, .unset]) rfl kS) ?_
    show OFin p e below s _ _ _ (T2333.setTop (mkF m 100 #[.val (.int p1), .val (.long t1), .second, .val (.long t2), .second, .val (.int lv), .val (.int ts), .val (.ref tt), .val (.ref rg), .val (.ref x), .val (.ref y), .val (.int (Int32.ofNat d1)), .val (.int (Int32.ofNat d2)), .unset, .unset, .unset, .unset, .unset, .unset, .unset] []))
    refine own_st (fun _ kS => XS.iload X2333.here hx rfl (hb hby at_100) rfl kS) ?_
    show OFin p e below s _ _ _ (T2333.setTop (mkF m 102 #[.val (.int p1), .val (.long t1), .second, .val (.long t2), .second, .val (.int lv), .val (.int ts), .val (.ref tt), .val (.ref rg), .val (.ref x), .val (.ref y), .val (.int (Int32.ofNat d1)), .val (.int (Int32.ofNat d2)), .unset, .unset, .unset, .unset, .unset, .unset, .unset] [(.int ts)]))
    by_cases cts : ts = (0 : Int32)
    · refine own_st (fun _ kS => XS.ifYes X2333.here hx rfl (pc0 := 102) (pc' := 110) rfl (hb hby at_102) rfl ((if0 _ _).trans (teq cts).1) (by decide) (by decide) kS) ?_
      show OFin p e below s _ _ _ (T2333.setTop (mkF m 110 #[.val (.int p1), .val (.long t1), .second, .val (.long t2), .second, .val (.int lv), .val (.int ts), .val (.ref tt), .val (.ref rg), .val (.ref x), .val (.ref y), .val (.int (Int32.ofNat d1)), .val (.int (Int32.ofNat d2)), .unset, .unset, .unset, .unset, .unset, .unset, .unset] []))
      refine own_st (fun _ kS => XS.iload X2333.here hx rfl (hb hby at_110) rfl kS) ?_
      show OFin p e below s _ _ _ (T2333.setTop (mkF m 112 #[.val (.int p1), .val (.long t1), .second, .val (.long t2), .second, .val (.int lv), .val (.int ts), .val (.ref tt), .val (.ref rg), .val (.ref x), .val (.ref y), .val (.int (Int32.ofNat d1)), .val (.int (Int32.ofNat d2)), .unset, .unset, .unset, .unset, .unset, .unset, .unset] [(.int (Int32.ofNat d1))]))
      refine own_st (fun _ kS => XS.istore X2333.here hx rfl (hb hby at_112) rfl (l' := #[.val (.int p1), .val (.long t1), .second, .val (.long t2), .second, .val (.int lv), .val (.int ts), .val (.ref tt), .val (.ref rg), .val (.ref x), .val (.ref y), .val (.int (Int32.ofNat d1)), .val (.int (Int32.ofNat d2)), .val (.int (Int32.ofNat d1)), .unset, .unset, .unset, .unset, .unset, .unset]) rfl kS) ?_
      show OFin p e below s _ _ _ (T2333.setTop (mkF m 114 #[.val (.int p1), .val (.long t1), .second, .val (.long t2), .second, .val (.int lv), .val (.int ts), .val (.ref tt), .val (.ref rg), .val (.ref x), .val (.ref y), .val (.int (Int32.ofNat d1)), .val (.int (Int32.ofNat d2)), .val (.int (Int32.ofNat d1)), .unset, .unset, .unset, .unset, .unset, .unset] []))
      refine own_st (fun _ kS => XS.iload X2333.here hx rfl (hb hby at_114) rfl kS) ?_
      show OFin p e below s _ _ _ (T2333.setTop (mkF m 116 #[.val (.int p1), .val (.long t1), .second, .val (.long t2), .second, .val (.int lv), .val (.int ts), .val (.ref tt), .val (.ref rg), .val (.ref x), .val (.ref y), .val (.int (Int32.ofNat d1)), .val (.int (Int32.ofNat d2)), .val (.int (Int32.ofNat d1)), .unset, .unset, .unset, .unset, .unset, .unset] [(.int (Int32.ofNat d1))]))
      refine own_st (fun _ kS => XS.iload X2333.here hx rfl (hb hby at_116) rfl kS) ?_
      show OFin p e below s _ _ _ (T2333.setTop (mkF m 118 #[.val (.int p1), .val (.long t1), .second, .val (.long t2), .second, .val (.int lv), .val (.int ts), .val (.ref tt), .val (.ref rg), .val (.ref x), .val (.ref y), .val (.int (Int32.ofNat d1)), .val (.int (Int32.ofNat d2)), .val (.int (Int32.ofNat d1)), .unset, .unset, .unset, .unset, .unset, .unset] [(.int (Int32.ofNat d1)), (.int (Int32.ofNat d1))]))
      refine own_st (fun _ kS => XS.icmpNo X2333.here hx rfl (hb hby at_118) rfl (teq rfl).2 kS) ?_
      show OFin p e below s _ _ _ (T2333.setTop (mkF m 121 #[.val (.int p1), .val (.long t1), .second, .val (.long t2), .second, .val (.int lv), .val (.int ts), .val (.ref tt), .val (.ref rg), .val (.ref x), .val (.ref y), .val (.int (Int32.ofNat d1)), .val (.int (Int32.ofNat d2)), .val (.int (Int32.ofNat d1)), .unset, .unset, .unset, .unset, .unset, .unset] []))
      refine own_st (fun _ kS => XS.iload X2333.here hx rfl (hb hby at_121) rfl kS) ?_
      show OFin p e below s _ _ _ (T2333.setTop (mkF m 123 #[.val (.int p1), .val (.long t1), .second, .val (.long t2), .second, .val (.int lv), .val (.int ts), .val (.ref tt), .val (.ref rg), .val (.ref x), .val (.ref y), .val (.int (Int32.ofNat d1)), .val (.int (Int32.ofNat d2)), .val (.int (Int32.ofNat d1)), .unset, .unset, .unset, .unset, .unset, .unset] [(.int (Int32.ofNat d2))]))
      refine own_st (fun _ kS => XS.iload X2333.here hx rfl (hb hby at_123) rfl kS) ?_
      show OFin p e below s _ _ _ (T2333.setTop (mkF m 125 #[.val (.int p1), .val (.long t1), .second, .val (.long t2), .second, .val (.int lv), .val (.int ts), .val (.ref tt), .val (.ref rg), .val (.ref x), .val (.ref y), .val (.int (Int32.ofNat d1)), .val (.int (Int32.ofNat d2)), .val (.int (Int32.ofNat d1)), .unset, .unset, .unset, .unset, .unset, .unset] [(.int (Int32.ofNat d1)), (.int (Int32.ofNat d2))]))
      refine own_st (fun _ kS => XS.icmpYes X2333.here hx rfl (pc0 := 125) (pc' := 139) rfl (hb hby at_125) rfl (feq (own_ofn hd2 hd1 (Ne.symm hab))).2 (by decide) (by decide) kS) ?_
      show OFin p e below s _ _ _ (T2333.setTop (mkF m 139 #[.val (.int p1), .val (.long t1), .second, .val (.long t2), .second, .val (.int lv), .val (.int ts), .val (.ref tt), .val (.ref rg), .val (.ref x), .val (.ref y), .val (.int (Int32.ofNat d1)), .val (.int (Int32.ofNat d2)), .val (.int (Int32.ofNat d1)), .unset, .unset, .unset, .unset, .unset, .unset] []))
      refine own_st (fun _ kS => XS.iload X2333.here hx rfl (hb hby at_139) rfl kS) ?_
      show OFin p e below s _ _ _ (T2333.setTop (mkF m 141 #[.val (.int p1), .val (.long t1), .second, .val (.long t2), .second, .val (.int lv), .val (.int ts), .val (.ref tt), .val (.ref rg), .val (.ref x), .val (.ref y), .val (.int (Int32.ofNat d1)), .val (.int (Int32.ofNat d2)), .val (.int (Int32.ofNat d1)), .unset, .unset, .unset, .unset, .unset, .unset] [(.int (Int32.ofNat d1))]))
      refine own_st (fun _ kS => XS.iload X2333.here hx rfl (hb hby at_141) rfl kS) ?_
      show OFin p e below s _ _ _ (T2333.setTop (mkF m 143 #[.val (.int p1), .val (.long t1), .second, .val (.long t2), .second, .val (.int lv), .val (.int ts), .val (.ref tt), .val (.ref rg), .val (.ref x), .val (.ref y), .val (.int (Int32.ofNat d1)), .val (.int (Int32.ofNat d2)), .val (.int (Int32.ofNat d1)), .unset, .unset, .unset, .unset, .unset, .unset] [(.int (Int32.ofNat d1)), (.int (Int32.ofNat d1))]))
      refine own_st (fun _ kS => XS.icmpNo X2333.here hx rfl (hb hby at_143) rfl (teq rfl).2 kS) ?_
      show OFin p e below s _ _ _ (T2333.setTop (mkF m 146 #[.val (.int p1), .val (.long t1), .second, .val (.long t2), .second, .val (.int lv), .val (.int ts), .val (.ref tt), .val (.ref rg), .val (.ref x), .val (.ref y), .val (.int (Int32.ofNat d1)), .val (.int (Int32.ofNat d2)), .val (.int (Int32.ofNat d1)), .unset, .unset, .unset, .unset, .unset, .unset] []))
      refine own_st (fun _ kS => XS.aload X2333.here hx rfl (hb hby at_146) rfl rfl kS) ?_
      show OFin p e below s _ _ _ (T2333.setTop (mkF m 148 #[.val (.int p1), .val (.long t1), .second, .val (.long t2), .second, .val (.int lv), .val (.int ts), .val (.ref tt), .val (.ref rg), .val (.ref x), .val (.ref y), .val (.int (Int32.ofNat d1)), .val (.int (Int32.ofNat d2)), .val (.int (Int32.ofNat d1)), .unset, .unset, .unset, .unset, .unset, .unset] [(.ref x)]))
      refine own_st (fun _ kS => XS.astore X2333.here hx rfl (hb hby at_148) rfl rfl (l' := #[.val (.int p1), .val (.long t1), .second, .val (.long t2), .second, .val (.int lv), .val (.int ts), .val (.ref tt), .val (.ref rg), .val (.ref x), .val (.ref y), .val (.int (Int32.ofNat d1)), .val (.int (Int32.ofNat d2)), .val (.int (Int32.ofNat d1)), .val (.ref x), .unset, .unset, .unset, .unset, .unset]) rfl kS) ?_
      show OFin p e below s _ _ _ (T2333.setTop (mkF m 150 #[.val (.int p1), .val (.long t1), .second, .val (.long t2), .second, .val (.int lv), .val (.int ts), .val (.ref tt), .val (.ref rg), .val (.ref x), .val (.ref y), .val (.int (Int32.ofNat d1)), .val (.int (Int32.ofNat d2)), .val (.int (Int32.ofNat d1)), .val (.ref x), .unset, .unset, .unset, .unset, .unset] []))
      refine own_st (fun _ kS => XS.aload X2333.here hx rfl (hb hby at_150) rfl rfl kS) ?_
      show OFin p e below s _ _ _ (T2333.setTop (mkF m 152 #[.val (.int p1), .val (.long t1), .second, .val (.long t2), .second, .val (.int lv), .val (.int ts), .val (.ref tt), .val (.ref rg), .val (.ref x), .val (.ref y), .val (.int (Int32.ofNat d1)), .val (.int (Int32.ofNat d2)), .val (.int (Int32.ofNat d1)), .val (.ref x), .unset, .unset, .unset, .unset, .unset] [(.ref x)]))
      refine own_st (fun _ kS => XS.astore X2333.here hx rfl (hb hby at_152) rfl rfl (l' := #[.val (.int p1), .val (.long t1), .second, .val (.long t2), .second, .val (.int lv), .val (.int ts), .val (.ref tt), .val (.ref rg), .val (.ref x), .val (.ref y), .val (.int (Int32.ofNat d1)), .val (.int (Int32.ofNat d2)), .val (.int (Int32.ofNat d1)), .val (.ref x), .val (.ref x), .unset, .unset, .unset, .unset]) rfl kS) ?_
      show OFin p e below s _ _ _ (T2333.setTop (mkF m 154 #[.val (.int p1), .val (.long t1), .second, .val (.long t2), .second, .val (.int lv), .val (.int ts), .val (.ref tt), .val (.ref rg), .val (.ref x), .val (.ref y), .val (.int (Int32.ofNat d1)), .val (.int (Int32.ofNat d2)), .val (.int (Int32.ofNat d1)), .val (.ref x), .val (.ref x), .unset, .unset, .unset, .unset] []))
      refine own_st (fun _ kS => XS.goto X2333.here hx rfl (pc0 := 154) (pc' := 165) rfl (hb hby at_154) (by decide) (by decide) kS) ?_
      show OFin p e below s _ _ _ (T2333.setTop (mkF m 165 #[.val (.int p1), .val (.long t1), .second, .val (.long t2), .second, .val (.int lv), .val (.int ts), .val (.ref tt), .val (.ref rg), .val (.ref x), .val (.ref y), .val (.int (Int32.ofNat d1)), .val (.int (Int32.ofNat d2)), .val (.int (Int32.ofNat d1)), .val (.ref x), .val (.ref x), .unset, .unset, .unset, .unset] []))
      refine own_st (fun _ kS => XS.iload X2333.here hx rfl (hb hby at_165) rfl kS) ?_
      show OFin p e below s _ _ _ (T2333.setTop (mkF m 167 #[.val (.int p1), .val (.long t1), .second, .val (.long t2), .second, .val (.int lv), .val (.int ts), .val (.ref tt), .val (.ref rg), .val (.ref x), .val (.ref y), .val (.int (Int32.ofNat d1)), .val (.int (Int32.ofNat d2)), .val (.int (Int32.ofNat d1)), .val (.ref x), .val (.ref x), .unset, .unset, .unset, .unset] [(.int ts)]))
      refine own_st (fun _ kS => XS.ifYes X2333.here hx rfl (pc0 := 167) (pc' := 175) rfl (hb hby at_167) rfl ((if0 _ _).trans (teq cts).1) (by decide) (by decide) kS) ?_
      show OFin p e below s _ _ _ (T2333.setTop (mkF m 175 #[.val (.int p1), .val (.long t1), .second, .val (.long t2), .second, .val (.int lv), .val (.int ts), .val (.ref tt), .val (.ref rg), .val (.ref x), .val (.ref y), .val (.int (Int32.ofNat d1)), .val (.int (Int32.ofNat d2)), .val (.int (Int32.ofNat d1)), .val (.ref x), .val (.ref x), .unset, .unset, .unset, .unset] []))
      refine own_st (fun _ kS => XS.iload X2333.here hx rfl (hb hby at_175) rfl kS) ?_
      show OFin p e below s _ _ _ (T2333.setTop (mkF m 177 #[.val (.int p1), .val (.long t1), .second, .val (.long t2), .second, .val (.int lv), .val (.int ts), .val (.ref tt), .val (.ref rg), .val (.ref x), .val (.ref y), .val (.int (Int32.ofNat d1)), .val (.int (Int32.ofNat d2)), .val (.int (Int32.ofNat d1)), .val (.ref x), .val (.ref x), .unset, .unset, .unset, .unset] [(.int (Int32.ofNat d2))]))
      refine own_st (fun _ kS => XS.istore X2333.here hx rfl (hb hby at_177) rfl (l' := #[.val (.int p1), .val (.long t1), .second, .val (.long t2), .second, .val (.int lv), .val (.int ts), .val (.ref tt), .val (.ref rg), .val (.ref x), .val (.ref y), .val (.int (Int32.ofNat d1)), .val (.int (Int32.ofNat d2)), .val (.int (Int32.ofNat d1)), .val (.ref x), .val (.ref x), .val (.int (Int32.ofNat d2)), .unset, .unset, .unset]) rfl kS) ?_
      show OFin p e below s _ _ _ (T2333.setTop (mkF m 179 #[.val (.int p1), .val (.long t1), .second, .val (.long t2), .second, .val (.int lv), .val (.int ts), .val (.ref tt), .val (.ref rg), .val (.ref x), .val (.ref y), .val (.int (Int32.ofNat d1)), .val (.int (Int32.ofNat d2)), .val (.int (Int32.ofNat d1)), .val (.ref x), .val (.ref x), .val (.int (Int32.ofNat d2)), .unset, .unset, .unset] []))
      refine own_st (fun _ kS => XS.iload X2333.here hx rfl (hb hby at_179) rfl kS) ?_
      show OFin p e below s _ _ _ (T2333.setTop (mkF m 181 #[.val (.int p1), .val (.long t1), .second, .val (.long t2), .second, .val (.int lv), .val (.int ts), .val (.ref tt), .val (.ref rg), .val (.ref x), .val (.ref y), .val (.int (Int32.ofNat d1)), .val (.int (Int32.ofNat d2)), .val (.int (Int32.ofNat d1)), .val (.ref x), .val (.ref x), .val (.int (Int32.ofNat d2)), .unset, .unset, .unset] [(.int (Int32.ofNat d2))]))
      refine own_st (fun _ kS => XS.iload X2333.here hx rfl (hb hby at_181) rfl kS) ?_
      show OFin p e below s _ _ _ (T2333.setTop (mkF m 183 #[.val (.int p1), .val (.long t1), .second, .val (.long t2), .second, .val (.int lv), .val (.int ts), .val (.ref tt), .val (.ref rg), .val (.ref x), .val (.ref y), .val (.int (Int32.ofNat d1)), .val (.int (Int32.ofNat d2)), .val (.int (Int32.ofNat d1)), .val (.ref x), .val (.ref x), .val (.int (Int32.ofNat d2)), .unset, .unset, .unset] [(.int (Int32.ofNat d1)), (.int (Int32.ofNat d2))]))
      refine own_st (fun _ kS => XS.icmpYes X2333.here hx rfl (pc0 := 183) (pc' := 190) rfl (hb hby at_183) rfl (feq (own_ofn hd2 hd1 (Ne.symm hab))).2 (by decide) (by decide) kS) ?_
      show OFin p e below s _ _ _ (T2333.setTop (mkF m 190 #[.val (.int p1), .val (.long t1), .second, .val (.long t2), .second, .val (.int lv), .val (.int ts), .val (.ref tt), .val (.ref rg), .val (.ref x), .val (.ref y), .val (.int (Int32.ofNat d1)), .val (.int (Int32.ofNat d2)), .val (.int (Int32.ofNat d1)), .val (.ref x), .val (.ref x), .val (.int (Int32.ofNat d2)), .unset, .unset, .unset] []))
      refine own_st (fun _ kS => XS.iload X2333.here hx rfl (hb hby at_190) rfl kS) ?_
      show OFin p e below s _ _ _ (T2333.setTop (mkF m 192 #[.val (.int p1), .val (.long t1), .second, .val (.long t2), .second, .val (.int lv), .val (.int ts), .val (.ref tt), .val (.ref rg), .val (.ref x), .val (.ref y), .val (.int (Int32.ofNat d1)), .val (.int (Int32.ofNat d2)), .val (.int (Int32.ofNat d1)), .val (.ref x), .val (.ref x), .val (.int (Int32.ofNat d2)), .unset, .unset, .unset] [(.int (Int32.ofNat d2))]))
      refine own_st (fun _ kS => XS.istore X2333.here hx rfl (hb hby at_192) rfl (l' := #[.val (.int p1), .val (.long t1), .second, .val (.long t2), .second, .val (.int lv), .val (.int ts), .val (.ref tt), .val (.ref rg), .val (.ref x), .val (.ref y), .val (.int (Int32.ofNat d1)), .val (.int (Int32.ofNat d2)), .val (.int (Int32.ofNat d1)), .val (.ref x), .val (.ref x), .val (.int (Int32.ofNat d2)), .val (.int (Int32.ofNat d2)), .unset, .unset]) rfl kS) ?_
      show OFin p e below s _ _ _ (T2333.setTop (mkF m 194 #[.val (.int p1), .val (.long t1), .second, .val (.long t2), .second, .val (.int lv), .val (.int ts), .val (.ref tt), .val (.ref rg), .val (.ref x), .val (.ref y), .val (.int (Int32.ofNat d1)), .val (.int (Int32.ofNat d2)), .val (.int (Int32.ofNat d1)), .val (.ref x), .val (.ref x), .val (.int (Int32.ofNat d2)), .val (.int (Int32.ofNat d2)), .unset, .unset] []))
      refine own_st (fun _ kS => XS.iload X2333.here hx rfl (hb hby at_194) rfl kS) ?_
      show OFin p e below s _ _ _ (T2333.setTop (mkF m 196 #[.val (.int p1), .val (.long t1), .second, .val (.long t2), .second, .val (.int lv), .val (.int ts), .val (.ref tt), .val (.ref rg), .val (.ref x), .val (.ref y), .val (.int (Int32.ofNat d1)), .val (.int (Int32.ofNat d2)), .val (.int (Int32.ofNat d1)), .val (.ref x), .val (.ref x), .val (.int (Int32.ofNat d2)), .val (.int (Int32.ofNat d2)), .unset, .unset] [(.int (Int32.ofNat d1))]))
      refine own_st (fun _ kS => XS.iload X2333.here hx rfl (hb hby at_196) rfl kS) ?_
      show OFin p e below s _ _ _ (T2333.setTop (mkF m 198 #[.val (.int p1), .val (.long t1), .second, .val (.long t2), .second, .val (.int lv), .val (.int ts), .val (.ref tt), .val (.ref rg), .val (.ref x), .val (.ref y), .val (.int (Int32.ofNat d1)), .val (.int (Int32.ofNat d2)), .val (.int (Int32.ofNat d1)), .val (.ref x), .val (.ref x), .val (.int (Int32.ofNat d2)), .val (.int (Int32.ofNat d2)), .unset, .unset] [(.int (Int32.ofNat d1)), (.int (Int32.ofNat d1))]))
      refine own_st (fun _ kS => XS.icmpYes X2333.here hx rfl (pc0 := 198) (pc' := 205) rfl (hb hby at_198) rfl (teq rfl).1 (by decide) (by decide) kS) ?_
      show OFin p e below s _ _ _ (T2333.setTop (mkF m 205 #[.val (.int p1), .val (.long t1), .second, .val (.long t2), .second, .val (.int lv), .val (.int ts), .val (.ref tt), .val (.ref rg), .val (.ref x), .val (.ref y), .val (.int (Int32.ofNat d1)), .val (.int (Int32.ofNat d2)), .val (.int (Int32.ofNat d1)), .val (.ref x), .val (.ref x), .val (.int (Int32.ofNat d2)), .val (.int (Int32.ofNat d2)), .unset, .unset] []))
      refine own_st (fun _ kS => XS.iconst X2333.here hx rfl (hb hby at_205) kS) ?_
      show OFin p e below s _ _ _ (T2333.setTop (mkF m 206 #[.val (.int p1), .val (.long t1), .second, .val (.long t2), .second, .val (.int lv), .val (.int ts), .val (.ref tt), .val (.ref rg), .val (.ref x), .val (.ref y), .val (.int (Int32.ofNat d1)), .val (.int (Int32.ofNat d2)), .val (.int (Int32.ofNat d1)), .val (.ref x), .val (.ref x), .val (.int (Int32.ofNat d2)), .val (.int (Int32.ofNat d2)), .unset, .unset] [(.int (0 : Int32))]))
      refine own_st (fun _ kS => XS.istore X2333.here hx rfl (hb hby at_206) rfl (l' := #[.val (.int p1), .val (.long t1), .second, .val (.long t2), .second, .val (.int lv), .val (.int ts), .val (.ref tt), .val (.ref rg), .val (.ref x), .val (.ref y), .val (.int (Int32.ofNat d1)), .val (.int (Int32.ofNat d2)), .val (.int (Int32.ofNat d1)), .val (.ref x), .val (.ref x), .val (.int (Int32.ofNat d2)), .val (.int (Int32.ofNat d2)), .val (.int (0 : Int32)), .unset]) rfl kS) ?_
      show OFin p e below s _ _ _ (T2333.setTop (mkF m 208 #[.val (.int p1), .val (.long t1), .second, .val (.long t2), .second, .val (.int lv), .val (.int ts), .val (.ref tt), .val (.ref rg), .val (.ref x), .val (.ref y), .val (.int (Int32.ofNat d1)), .val (.int (Int32.ofNat d2)), .val (.int (Int32.ofNat d1)), .val (.ref x), .val (.ref x), .val (.int (Int32.ofNat d2)), .val (.int (Int32.ofNat d2)), .val (.int (0 : Int32)), .unset] []))
      refine own_st (fun _ kS => XS.aload X2333.here hx rfl (hb hby at_208) rfl rfl kS) ?_
      show OFin p e below s _ _ _ (T2333.setTop (mkF m 210 #[.val (.int p1), .val (.long t1), .second, .val (.long t2), .second, .val (.int lv), .val (.int ts), .val (.ref tt), .val (.ref rg), .val (.ref x), .val (.ref y), .val (.int (Int32.ofNat d1)), .val (.int (Int32.ofNat d2)), .val (.int (Int32.ofNat d1)), .val (.ref x), .val (.ref x), .val (.int (Int32.ofNat d2)), .val (.int (Int32.ofNat d2)), .val (.int (0 : Int32)), .unset] [(.ref rg)]))
      refine own_st (fun _ kS => XS.iload X2333.here hx rfl (hb hby at_210) rfl kS) ?_
      show OFin p e below s _ _ _ (T2333.setTop (mkF m 212 #[.val (.int p1), .val (.long t1), .second, .val (.long t2), .second, .val (.int lv), .val (.int ts), .val (.ref tt), .val (.ref rg), .val (.ref x), .val (.ref y), .val (.int (Int32.ofNat d1)), .val (.int (Int32.ofNat d2)), .val (.int (Int32.ofNat d1)), .val (.ref x), .val (.ref x), .val (.int (Int32.ofNat d2)), .val (.int (Int32.ofNat d2)), .val (.int (0 : Int32)), .unset] [(.int (Int32.ofNat d1)), (.ref rg)]))
      obtain ⟨v2334, T2334, L2334, X2334, hQ2334, st2334⟩ := own_virtual X2333 hx hZ (y := (⟨"com/example/epicycle/epicycle/SlotRing", "take", "(I)Lcom/example/epicycle/epicycle/TimeoutList;"⟩ : MethodName)) (z := (⟨"com/example/epicycle/epicycle/SlotRing", "take", "(I)Lcom/example/epicycle/epicycle/TimeoutList;"⟩ : MethodName)) (rm := ⟨0, 0, 0, 0⟩) (W := 0) (a := rg) (argsL := [(.int (Int32.ofNat d1))]) (rest := []) hown (own_w hw 162 rfl) (own_w hw 163 rfl) (notFace_of_selects (args := #[]) (mvT hZ (own_w hw 165 rfl))) (own_w hw 165 rfl) (own_w hw 164 rfl) (own_w hw 52 rfl) (own_w hw 166 rfl) (rmTK l Z a0 hw rg (Int32.ofNat d1) T2277.heap n0 sz2277 sa tt s1 lv d1 (((0 : Int64) ||| own_bit (Int32.ofNat d1)) ||| own_bit (Int32.ofNat d2)) (fun i => if i = d2 then .ref s2 else (fun i => if i = d1 then .ref s1 else (fun _ => .null) i) i) ⟨u2309, u2310, u2311, u2312, u2313, u2314⟩ g_rg g_sa ne_rg_sa (own_tn hd1) hd1 ((if_neg hab).trans (if_pos rfl))) e2333 u2309 (g := (mkF m 212 #[.val (.int p1), .val (.long t1), .second, .val (.long t2), .second, .val (.int lv), .val (.int ts), .val (.ref tt), .val (.ref rg), .val (.ref x), .val (.ref y), .val (.int (Int32.ofNat d1)), .val (.int (Int32.ofNat d2)), .val (.int (Int32.ofNat d1)), .val (.ref x), .val (.ref x), .val (.int (Int32.ofNat d2)), .val (.int (Int32.ofNat d2)), .val (.int (0 : Int32)), .unset] [(.int (Int32.ofNat d1)), (.ref rg)])) rfl (by rw [hml]; rfl) (lenOf own_pd20 rfl) rfl (by show 2 * 0 + _ ≤ _; exact Nat.le_of_eq rfl) (hb hby at_212) (by decide) (by decide) (by decide) (by decide)
      obtain ⟨rfl, N2334, K2334, B2334_0⟩ := hQ2334
      have fr2334 := Fr.app fr2277 N2334
      clear fr2277 N2334
      have f2335 := f2278.keep K2334
      clear f2278
      have f2336 := f2279.keep K2334 (ninS ne_tt_rg (ninS ne_tt_sa nin0))
      clear f2279
      have f2337 := f2280.keep K2334 (ninS ne_tt_rg (ninS ne_tt_sa nin0))
      clear f2280
      have f2338 := f2281.keep K2334 (ninS ne_tt_rg (ninS ne_tt_sa nin0))
      clear f2281
      have f2339 := u2322.keep K2334
      clear u2322
      have f2340 := u2309.keep K2334
      clear u2309
      have f2341 := f2284.keep K2334
      clear f2284
      have f2342 := u2328.keep K2334
      clear u2328
      have f2343 := f2294.keep K2334
      clear f2294
      have f2344 := f2295.keep K2334 (ninS (Ne.symm ne_rg_s1) (ninS (Ne.symm ne_sa_s1) nin0))
      clear f2295
      have f2345 := f2296.keep K2334 (ninS (Ne.symm ne_rg_s1) (ninS (Ne.symm ne_sa_s1) nin0))
      clear f2296
      have f2346 := f2297.keep K2334 (ninS (Ne.symm ne_rg_s1) (ninS (Ne.symm ne_sa_s1) nin0))
      clear f2297
      have f2347 := f2298.keep K2334 (ninS (Ne.symm ne_rg_s1) (ninS (Ne.symm ne_sa_s1) nin0))
      clear f2298
      have f2348 := f2299.keep K2334 (ninS (Ne.symm ne_rg_s1) (ninS (Ne.symm ne_sa_s1) nin0))
      clear f2299
      have f2349 := f2300.keep K2334 (ninS (Ne.symm ne_rg_s1) (ninS (Ne.symm ne_sa_s1) nin0))
      clear f2300
      have f2350 := u2326.keep K2334 (ninS ne_ck_rg (ninS ne_ck_sa nin0))
      clear u2326
      have f2351 := f2306.keep K2334 (ninS (Ne.symm ne_rg_x) (ninS (Ne.symm ne_sa_x) nin0))
      clear f2306
      have f2352 := f2307.keep K2334 (ninS (Ne.symm ne_rg_x) (ninS (Ne.symm ne_sa_x) nin0))
      clear f2307
      have f2353 := f2308.keep K2334 (ninS (Ne.symm ne_rg_x) (ninS (Ne.symm ne_sa_x) nin0))
      clear f2308
      clear u2310
      clear u2311
      clear u2312
      clear u2313
      clear u2314
      have f2359 := u2315.keep K2334
      clear u2315
      have f2360 := u2316.keep K2334 (ninS (Ne.symm ne_rg_s2) (ninS (Ne.symm ne_sa_s2) nin0))
      clear u2316
      have f2361 := u2317.keep K2334 (ninS (Ne.symm ne_rg_s2) (ninS (Ne.symm ne_sa_s2) nin0))
      clear u2317
      have f2362 := u2318.keep K2334 (ninS (Ne.symm ne_rg_s2) (ninS (Ne.symm ne_sa_s2) nin0))
      clear u2318
      have f2363 := u2319.keep K2334 (ninS (Ne.symm ne_rg_s2) (ninS (Ne.symm ne_sa_s2) nin0))
      clear u2319
      have f2364 := u2320.keep K2334 (ninS (Ne.symm ne_rg_s2) (ninS (Ne.symm ne_sa_s2) nin0))
      clear u2320
      have f2365 := u2321.keep K2334 (ninS (Ne.symm ne_rg_s2) (ninS (Ne.symm ne_sa_s2) nin0))
      clear u2321
      have f2366 := u2323.keep K2334 (ninS ne_cl_rg (ninS ne_cl_sa nin0))
      clear u2323
      have f2367 := u2324.keep K2334 (ninS ne_cl_rg (ninS ne_cl_sa nin0))
      clear u2324
      have f2368 := u2325.keep K2334 (ninS ne_cl_rg (ninS ne_cl_sa nin0))
      clear u2325
      have f2369 := u2327.keep K2334 (ninS (Ne.symm ne_rg_c0) (ninS (Ne.symm ne_sa_c0) nin0))
      clear u2327
      have f2370 := u2329.keep K2334 (ninS (Ne.symm ne_rg_y) (ninS (Ne.symm ne_sa_y) nin0))
      clear u2329
      have f2371 := u2330.keep K2334 (ninS (Ne.symm ne_rg_y) (ninS (Ne.symm ne_sa_y) nin0))
      clear u2330
      have f2372 := u2331.keep K2334 (ninS (Ne.symm ne_rg_y) (ninS (Ne.symm ne_sa_y) nin0))
      clear u2331
      have sz2334 : n0 ≤ T2334.heap.size := Nat.le_trans sz2277 K2334.1
      clear sz2277
      clear K2334
      obtain ⟨u2373, u2374, u2375, u2376, u2377, u2378⟩ := B2334_0
      refine own_st (st2334) ?_
      clear st2334 X2333 e2333
      show OFin p e below s _ _ _ (T2334.setTop (mkF m 215 #[.val (.int p1), .val (.long t1), .second, .val (.long t2), .second, .val (.int lv), .val (.int ts), .val (.ref tt), .val (.ref rg), .val (.ref x), .val (.ref y), .val (.int (Int32.ofNat d1)), .val (.int (Int32.ofNat d2)), .val (.int (Int32.ofNat d1)), .val (.ref x), .val (.ref x), .val (.int (Int32.ofNat d2)), .val (.int (Int32.ofNat d2)), .val (.int (0 : Int32)), .unset] [(.ref s1)]))
      refine own_st (fun _ kS => XS.astore X2334.here hx rfl (hb hby at_215) rfl rfl (l' := #[.val (.int p1), .val (.long t1), .second, .val (.long t2), .second, .val (.int lv), .val (.int ts), .val (.ref tt), .val (.ref rg), .val (.ref x), .val (.ref y), .val (.int (Int32.ofNat d1)), .val (.int (Int32.ofNat d2)), .val (.int (Int32.ofNat d1)), .val (.ref x), .val (.ref x), .val (.int (Int32.ofNat d2)), .val (.int (Int32.ofNat d2)), .val (.int (0 : Int32)), .val (.ref s1)]) rfl kS) ?_
      show OFin p e below s _ _ _ (T2334.setTop (mkF m 217 #[.val (.int p1), .val (.long t1), .second, .val (.long t2), .second, .val (.int lv), .val (.int ts), .val (.ref tt), .val (.ref rg), .val (.ref x), .val (.ref y), .val (.int (Int32.ofNat d1)), .val (.int (Int32.ofNat d2)), .val (.int (Int32.ofNat d1)), .val (.ref x), .val (.ref x), .val (.int (Int32.ofNat d2)), .val (.int (Int32.ofNat d2)), .val (.int (0 : Int32)), .val (.ref s1)] []))
      refine own_st (fun _ kS => XS.aload X2334.here hx rfl (hb hby at_217) rfl rfl kS) ?_
      show OFin p e below s _ _ _ (T2334.setTop (mkF m 219 #[.val (.int p1), .val (.long t1), .second, .val (.long t2), .second, .val (.int lv), .val (.int ts), .val (.ref tt), .val (.ref rg), .val (.ref x), .val (.ref y), .val (.int (Int32.ofNat d1)), .val (.int (Int32.ofNat d2)), .val (.int (Int32.ofNat d1)), .val (.ref x), .val (.ref x), .val (.int (Int32.ofNat d2)), .val (.int (Int32.ofNat d2)), .val (.int (0 : Int32)), .val (.ref s1)] [(.ref s1)]))
      refine own_st (fun _ kS => XS.ifnonnullYes X2334.here hx rfl (pc0 := 219) (pc' := 224) rfl (hb hby at_219) rfl (by decide) (by decide) kS) ?_
      show OFin p e below s _ _ _ (T2334.setTop (mkF m 224 #[.val (.int p1), .val (.long t1), .second, .val (.long t2), .second, .val (.int lv), .val (.int ts), .val (.ref tt), .val (.ref rg), .val (.ref x), .val (.ref y), .val (.int (Int32.ofNat d1)), .val (.int (Int32.ofNat d2)), .val (.int (Int32.ofNat d1)), .val (.ref x), .val (.ref x), .val (.int (Int32.ofNat d2)), .val (.int (Int32.ofNat d2)), .val (.int (0 : Int32)), .val (.ref s1)] []))
      refine own_st (fun _ kS => XS.aload X2334.here hx rfl (hb hby at_224) rfl rfl kS) ?_
      show OFin p e below s _ _ _ (T2334.setTop (mkF m 226 #[.val (.int p1), .val (.long t1), .second, .val (.long t2), .second, .val (.int lv), .val (.int ts), .val (.ref tt), .val (.ref rg), .val (.ref x), .val (.ref y), .val (.int (Int32.ofNat d1)), .val (.int (Int32.ofNat d2)), .val (.int (Int32.ofNat d1)), .val (.ref x), .val (.ref x), .val (.int (Int32.ofNat d2)), .val (.int (Int32.ofNat d2)), .val (.int (0 : Int32)), .val (.ref s1)] [(.ref s1)]))
      obtain ⟨v2379, T2379, L2379, X2379, hQ2379, st2379⟩ := own_virtual X2334 hx hZ (y := (⟨"com/example/epicycle/epicycle/TimeoutList", "first", "()Lcom/example/epicycle/epicycle/Timeout;"⟩ : MethodName)) (z := (⟨"com/example/epicycle/epicycle/TimeoutList", "first", "()Lcom/example/epicycle/epicycle/Timeout;"⟩ : MethodName)) (rm := ⟨5, 0, 0, 66⟩) (W := 0) (a := s1) (argsL := []) (rest := []) hown (own_w hw 168 rfl) (own_w hw 169 rfl) (notFace_of_selects (args := #[]) (mvT hZ (own_w hw 171 rfl))) (own_w hw 171 rfl) (own_w hw 170 rfl) (own_w hw 99 rfl) (own_w hw 172 rfl) (rmFI0 l Z a0 hw s1 T2334.heap tt cl ck c0 x 2 (1 : Int32) (1 : Int32) (1 : Int32) t1 (fun i => if i = 0 then .ref c0 else .null) (fun i => if i = 1 then .ref y else (fun i => if i = 0 then .ref x else .null) i) ⟨f2343, f2344, f2345, f2346, f2347, f2348, f2349⟩ ⟨f2335, f2336, f2337, f2338⟩ ⟨f2339, f2366, f2367, f2368, f2350, f2369⟩ f2341 rfl (by decide) rfl rfl) rfl f2343 (g := (mkF m 226 #[.val (.int p1), .val (.long t1), .second, .val (.long t2), .second, .val (.int lv), .val (.int ts), .val (.ref tt), .val (.ref rg), .val (.ref x), .val (.ref y), .val (.int (Int32.ofNat d1)), .val (.int (Int32.ofNat d2)), .val (.int (Int32.ofNat d1)), .val (.ref x), .val (.ref x), .val (.int (Int32.ofNat d2)), .val (.int (Int32.ofNat d2)), .val (.int (0 : Int32)), .val (.ref s1)] [(.ref s1)])) rfl (by rw [hml]; rfl) (lenOf own_pd21 rfl) rfl (by show 2 * 0 + _ ≤ _; exact Nat.le_of_eq rfl) (hb hby at_226) (by decide) (by decide) (by decide) (by decide)
      obtain ⟨rfl, e2379, rfl⟩ := hQ2379
      rw [List.append_nil] at X2379
      refine own_st (st2379) ?_
      clear st2379 X2334
      show OFin p e below s _ _ _ (T2379.setTop (mkF m 229 #[.val (.int p1), .val (.long t1), .second, .val (.long t2), .second, .val (.int lv), .val (.int ts), .val (.ref tt), .val (.ref rg), .val (.ref x), .val (.ref y), .val (.int (Int32.ofNat d1)), .val (.int (Int32.ofNat d2)), .val (.int (Int32.ofNat d1)), .val (.ref x), .val (.ref x), .val (.int (Int32.ofNat d2)), .val (.int (Int32.ofNat d2)), .val (.int (0 : Int32)), .val (.ref s1)] [(.ref x)]))
      refine own_st (fun _ kS => XS.aload X2379.here hx rfl (hb hby at_229) rfl rfl kS) ?_
      show OFin p e below s _ _ _ (T2379.setTop (mkF m 231 #[.val (.int p1), .val (.long t1), .second, .val (.long t2), .second, .val (.int lv), .val (.int ts), .val (.ref tt), .val (.ref rg), .val (.ref x), .val (.ref y), .val (.int (Int32.ofNat d1)), .val (.int (Int32.ofNat d2)), .val (.int (Int32.ofNat d1)), .val (.ref x), .val (.ref x), .val (.int (Int32.ofNat d2)), .val (.int (Int32.ofNat d2)), .val (.int (0 : Int32)), .val (.ref s1)] [(.ref x), (.ref x)]))
      refine own_st (fun _ kS => Jvm.RoadKit.acmp (g := (mkF m 231 #[.val (.int p1), .val (.long t1), .second, .val (.long t2), .second, .val (.int lv), .val (.int ts), .val (.ref tt), .val (.ref rg), .val (.ref x), .val (.ref y), .val (.int (Int32.ofNat d1)), .val (.int (Int32.ofNat d2)), .val (.int (Int32.ofNat d1)), .val (.ref x), .val (.ref x), .val (.int (Int32.ofNat d2)), .val (.int (Int32.ofNat d2)), .val (.int (0 : Int32)), .val (.ref s1)] [(.ref x), (.ref x)])) X2379 hx rfl rfl rfl (pc0 := 231) (pc' := 236) (same := true) rfl (hb hby at_231) rfl (decide_eq_true rfl) (by decide) (by decide) kS) ?_
      show OFin p e below s _ _ _ (T2379.setTop (mkF m 236 #[.val (.int p1), .val (.long t1), .second, .val (.long t2), .second, .val (.int lv), .val (.int ts), .val (.ref tt), .val (.ref rg), .val (.ref x), .val (.ref y), .val (.int (Int32.ofNat d1)), .val (.int (Int32.ofNat d2)), .val (.int (Int32.ofNat d1)), .val (.ref x), .val (.ref x), .val (.int (Int32.ofNat d2)), .val (.int (Int32.ofNat d2)), .val (.int (0 : Int32)), .val (.ref s1)] []))
      refine own_st (fun _ kS => XS.aload X2379.here hx rfl (hb hby at_236) rfl rfl kS) ?_
      show OFin p e below s _ _ _ (T2379.setTop (mkF m 238 #[.val (.int p1), .val (.long t1), .second, .val (.long t2), .second, .val (.int lv), .val (.int ts), .val (.ref tt), .val (.ref rg), .val (.ref x), .val (.ref y), .val (.int (Int32.ofNat d1)), .val (.int (Int32.ofNat d2)), .val (.int (Int32.ofNat d1)), .val (.ref x), .val (.ref x), .val (.int (Int32.ofNat d2)), .val (.int (Int32.ofNat d2)), .val (.int (0 : Int32)), .val (.ref s1)] [(.ref s1)]))
      obtain ⟨v2380, T2380, L2380, X2380, hQ2380, st2380⟩ := own_virtual X2379 hx hZ (y := (⟨"com/example/epicycle/epicycle/TimeoutList", "last", "()Lcom/example/epicycle/epicycle/Timeout;"⟩ : MethodName)) (z := (⟨"com/example/epicycle/epicycle/TimeoutList", "last", "()Lcom/example/epicycle/epicycle/Timeout;"⟩ : MethodName)) (rm := ⟨5, 0, 0, 66⟩) (W := 0) (a := s1) (argsL := []) (rest := []) hown (own_w hw 197 rfl) (own_w hw 198 rfl) (notFace_of_selects (args := #[]) (mvT hZ (own_w hw 200 rfl))) (own_w hw 200 rfl) (own_w hw 199 rfl) (own_w hw 99 rfl) (own_w hw 201 rfl) (rmLA0 l Z a0 hw s1 T2334.heap tt cl ck c0 x 2 (1 : Int32) (1 : Int32) (1 : Int32) t1 (fun i => if i = 0 then .ref c0 else .null) (fun i => if i = 1 then .ref y else (fun i => if i = 0 then .ref x else .null) i) ⟨f2343, f2344, f2345, f2346, f2347, f2348, f2349⟩ ⟨f2335, f2336, f2337, f2338⟩ ⟨f2339, f2366, f2367, f2368, f2350, f2369⟩ f2341 rfl (by decide) rfl rfl) e2379 f2343 (g := (mkF m 238 #[.val (.int p1), .val (.long t1), .second, .val (.long t2), .second, .val (.int lv), .val (.int ts), .val (.ref tt), .val (.ref rg), .val (.ref x), .val (.ref y), .val (.int (Int32.ofNat d1)), .val (.int (Int32.ofNat d2)), .val (.int (Int32.ofNat d1)), .val (.ref x), .val (.ref x), .val (.int (Int32.ofNat d2)), .val (.int (Int32.ofNat d2)), .val (.int (0 : Int32)), .val (.ref s1)] [(.ref s1)])) rfl (by rw [hml]; rfl) (lenOf own_pd21 rfl) rfl (by show 2 * 0 + _ ≤ _; exact Nat.le_of_eq rfl) (hb hby at_238) (by decide) (by decide) (by decide) (by decide)
      obtain ⟨rfl, e2380, rfl⟩ := hQ2380
      rw [List.append_nil] at X2380
      refine own_st (st2380) ?_
      clear st2380 X2379 e2379
      show OFin p e below s _ _ _ (T2380.setTop (mkF m 241 #[.val (.int p1), .val (.long t1), .second, .val (.long t2), .second, .val (.int lv), .val (.int ts), .val (.ref tt), .val (.ref rg), .val (.ref x), .val (.ref y), .val (.int (Int32.ofNat d1)), .val (.int (Int32.ofNat d2)), .val (.int (Int32.ofNat d1)), .val (.ref x), .val (.ref x), .val (.int (Int32.ofNat d2)), .val (.int (Int32.ofNat d2)), .val (.int (0 : Int32)), .val (.ref s1)] [(.ref x)]))
      refine own_st (fun _ kS => XS.aload X2380.here hx rfl (hb hby at_241) rfl rfl kS) ?_
      show OFin p e below s _ _ _ (T2380.setTop (mkF m 243 #[.val (.int p1), .val (.long t1), .second, .val (.long t2), .second, .val (.int lv), .val (.int ts), .val (.ref tt), .val (.ref rg), .val (.ref x), .val (.ref y), .val (.int (Int32.ofNat d1)), .val (.int (Int32.ofNat d2)), .val (.int (Int32.ofNat d1)), .val (.ref x), .val (.ref x), .val (.int (Int32.ofNat d2)), .val (.int (Int32.ofNat d2)), .val (.int (0 : Int32)), .val (.ref s1)] [(.ref x), (.ref x)]))
      refine own_st (fun _ kS => Jvm.RoadKit.acmp (g := (mkF m 243 #[.val (.int p1), .val (.long t1), .second, .val (.long t2), .second, .val (.int lv), .val (.int ts), .val (.ref tt), .val (.ref rg), .val (.ref x), .val (.ref y), .val (.int (Int32.ofNat d1)), .val (.int (Int32.ofNat d2)), .val (.int (Int32.ofNat d1)), .val (.ref x), .val (.ref x), .val (.int (Int32.ofNat d2)), .val (.int (Int32.ofNat d2)), .val (.int (0 : Int32)), .val (.ref s1)] [(.ref x), (.ref x)])) X2380 hx rfl rfl rfl (pc0 := 243) (pc' := 248) (same := true) rfl (hb hby at_243) rfl (decide_eq_true rfl) (by decide) (by decide) kS) ?_
      show OFin p e below s _ _ _ (T2380.setTop (mkF m 248 #[.val (.int p1), .val (.long t1), .second, .val (.long t2), .second, .val (.int lv), .val (.int ts), .val (.ref tt), .val (.ref rg), .val (.ref x), .val (.ref y), .val (.int (Int32.ofNat d1)), .val (.int (Int32.ofNat d2)), .val (.int (Int32.ofNat d1)), .val (.ref x), .val (.ref x), .val (.int (Int32.ofNat d2)), .val (.int (Int32.ofNat d2)), .val (.int (0 : Int32)), .val (.ref s1)] []))
      refine own_st (fun _ kS => XS.aload X2380.here hx rfl (hb hby at_248) rfl rfl kS) ?_
      show OFin p e below s _ _ _ (T2380.setTop (mkF m 250 #[.val (.int p1), .val (.long t1), .second, .val (.long t2), .second, .val (.int lv), .val (.int ts), .val (.ref tt), .val (.ref rg), .val (.ref x), .val (.ref y), .val (.int (Int32.ofNat d1)), .val (.int (Int32.ofNat d2)), .val (.int (Int32.ofNat d1)), .val (.ref x), .val (.ref x), .val (.int (Int32.ofNat d2)), .val (.int (Int32.ofNat d2)), .val (.int (0 : Int32)), .val (.ref s1)] [(.ref rg)]))
      obtain ⟨v2381, T2381, L2381, X2381, hQ2381, st2381⟩ := own_virtual X2380 hx hZ (y := (⟨"com/example/epicycle/epicycle/SlotRing", "firstOccupied", "()I"⟩ : MethodName)) (z := (⟨"com/example/epicycle/epicycle/SlotRing", "firstOccupied", "()I"⟩ : MethodName)) (rm := ⟨2, 0, 0, 28⟩) (W := 0) (a := rg) (argsL := []) (rest := []) hown (own_w hw 202 rfl) (own_w hw 203 rfl) (notFace_of_selects (args := #[]) (mvT hZ (own_w hw 205 rfl))) (own_w hw 205 rfl) (own_w hw 204 rfl) (own_w hw 52 rfl) (own_w hw 206 rfl) (rmFO l Z a0 hw rg T2334.heap sa tt lv ((((0 : Int64) ||| own_bit (Int32.ofNat d1)) ||| own_bit (Int32.ofNat d2)) &&& (own_bit (Int32.ofNat d1) ^^^ (-1 : Int64))) (fun i => if i = d1 then .null else (fun i => if i = d2 then .ref s2 else (fun i => if i = d1 then .ref s1 else (fun _ => .null) i) i) i) ⟨u2373, u2374, u2375, u2376, u2377, u2378⟩) e2380 u2373 (g := (mkF m 250 #[.val (.int p1), .val (.long t1), .second, .val (.long t2), .second, .val (.int lv), .val (.int ts), .val (.ref tt), .val (.ref rg), .val (.ref x), .val (.ref y), .val (.int (Int32.ofNat d1)), .val (.int (Int32.ofNat d2)), .val (.int (Int32.ofNat d1)), .val (.ref x), .val (.ref x), .val (.int (Int32.ofNat d2)), .val (.int (Int32.ofNat d2)), .val (.int (0 : Int32)), .val (.ref s1)] [(.ref rg)])) rfl (by rw [hml]; rfl) (lenOf own_pd5 rfl) rfl (by show 2 * 0 + _ ≤ _; exact Nat.le_of_eq rfl) (hb hby at_250) (by decide) (by decide) (by decide) (by decide)
      obtain ⟨rfl, e2381, rfl⟩ := hQ2381
      rw [List.append_nil] at X2381
      refine own_st (st2381) ?_
      clear st2381 X2380 e2380
      show OFin p e below s _ _ _ (T2381.setTop (mkF m 253 #[.val (.int p1), .val (.long t1), .second, .val (.long t2), .second, .val (.int lv), .val (.int ts), .val (.ref tt), .val (.ref rg), .val (.ref x), .val (.ref y), .val (.int (Int32.ofNat d1)), .val (.int (Int32.ofNat d2)), .val (.int (Int32.ofNat d1)), .val (.ref x), .val (.ref x), .val (.int (Int32.ofNat d2)), .val (.int (Int32.ofNat d2)), .val (.int (0 : Int32)), .val (.ref s1)] [(.int (own_fo ((((0 : Int64) ||| own_bit (Int32.ofNat d1)) ||| own_bit (Int32.ofNat d2)) &&& (own_bit (Int32.ofNat d1) ^^^ (-1 : Int64)))))]))
      refine own_st (fun _ kS => XS.iload X2381.here hx rfl (hb hby at_253) rfl kS) ?_
      show OFin p e below s _ _ _ (T2381.setTop (mkF m 255 #[.val (.int p1), .val (.long t1), .second, .val (.long t2), .second, .val (.int lv), .val (.int ts), .val (.ref tt), .val (.ref rg), .val (.ref x), .val (.ref y), .val (.int (Int32.ofNat d1)), .val (.int (Int32.ofNat d2)), .val (.int (Int32.ofNat d1)), .val (.ref x), .val (.ref x), .val (.int (Int32.ofNat d2)), .val (.int (Int32.ofNat d2)), .val (.int (0 : Int32)), .val (.ref s1)] [(.int (Int32.ofNat d2)), (.int (own_fo ((((0 : Int64) ||| own_bit (Int32.ofNat d1)) ||| own_bit (Int32.ofNat d2)) &&& (own_bit (Int32.ofNat d1) ^^^ (-1 : Int64)))))]))
      refine own_st (fun _ kS => XS.icmpYes X2381.here hx rfl (pc0 := 255) (pc' := 260) rfl (hb hby at_255) rfl (teq (show own_fo _ = _ from (own_bits ⟨d1, hd1⟩ ⟨d2, hd2⟩ (fun q => hab (congrArg Fin.val q))).2)).1 (by decide) (by decide) kS) ?_
      show OFin p e below s _ _ _ (T2381.setTop (mkF m 260 #[.val (.int p1), .val (.long t1), .second, .val (.long t2), .second, .val (.int lv), .val (.int ts), .val (.ref tt), .val (.ref rg), .val (.ref x), .val (.ref y), .val (.int (Int32.ofNat d1)), .val (.int (Int32.ofNat d2)), .val (.int (Int32.ofNat d1)), .val (.ref x), .val (.ref x), .val (.int (Int32.ofNat d2)), .val (.int (Int32.ofNat d2)), .val (.int (0 : Int32)), .val (.ref s1)] []))
      refine own_st (fun _ kS => XS.aload X2381.here hx rfl (hb hby at_260) rfl rfl kS) ?_
      show OFin p e below s _ _ _ (T2381.setTop (mkF m 262 #[.val (.int p1), .val (.long t1), .second, .val (.long t2), .second, .val (.int lv), .val (.int ts), .val (.ref tt), .val (.ref rg), .val (.ref x), .val (.ref y), .val (.int (Int32.ofNat d1)), .val (.int (Int32.ofNat d2)), .val (.int (Int32.ofNat d1)), .val (.ref x), .val (.ref x), .val (.int (Int32.ofNat d2)), .val (.int (Int32.ofNat d2)), .val (.int (0 : Int32)), .val (.ref s1)] [(.ref rg)]))
      refine own_st (fun _ kS => XS.aload X2381.here hx rfl (hb hby at_262) rfl rfl kS) ?_
      show OFin p e below s _ _ _ (T2381.setTop (mkF m 264 #[.val (.int p1), .val (.long t1), .second, .val (.long t2), .second, .val (.int lv), .val (.int ts), .val (.ref tt), .val (.ref rg), .val (.ref x), .val (.ref y), .val (.int (Int32.ofNat d1)), .val (.int (Int32.ofNat d2)), .val (.int (Int32.ofNat d1)), .val (.ref x), .val (.ref x), .val (.int (Int32.ofNat d2)), .val (.int (Int32.ofNat d2)), .val (.int (0 : Int32)), .val (.ref s1)] [(.ref x), (.ref rg)]))
      obtain ⟨v2382, T2382, L2382, X2382, hQ2382, st2382⟩ := own_virtual X2381 hx hZ (y := (⟨"com/example/epicycle/epicycle/SlotRing", "holds", "(Lcom/example/epicycle/epicycle/Timeout;)Z"⟩ : MethodName)) (z := (⟨"com/example/epicycle/epicycle/SlotRing", "holds", "(Lcom/example/epicycle/epicycle/Timeout;)Z"⟩ : MethodName)) (rm := ⟨5, 0, 0, 66⟩) (W := 0) (a := rg) (argsL := [(.ref x)]) (rest := []) hown (own_w hw 216 rfl) (own_w hw 217 rfl) (notFace_of_selects (args := #[]) (mvT hZ (own_w hw 219 rfl))) (own_w hw 219 rfl) (own_w hw 218 rfl) (own_w hw 52 rfl) (own_w hw 220 rfl) (rmHN l Z a0 hw rg x T2334.heap sa tt lv (Int32.ofNat d1) (0 : Int32) d1 ((((0 : Int64) ||| own_bit (Int32.ofNat d1)) ||| own_bit (Int32.ofNat d2)) &&& (own_bit (Int32.ofNat d1) ^^^ (-1 : Int64))) t1 (fun i => if i = d1 then .null else (fun i => if i = d2 then .ref s2 else (fun i => if i = d1 then .ref s1 else (fun _ => .null) i) i) i) ⟨u2373, u2374, u2375, u2376, u2377, u2378⟩ ⟨f2341, f2351, f2352, f2353⟩ e1 (own_tn hd1) hd1 (if_pos rfl)) e2381 u2373 (g := (mkF m 264 #[.val (.int p1), .val (.long t1), .second, .val (.long t2), .second, .val (.int lv), .val (.int ts), .val (.ref tt), .val (.ref rg), .val (.ref x), .val (.ref y), .val (.int (Int32.ofNat d1)), .val (.int (Int32.ofNat d2)), .val (.int (Int32.ofNat d1)), .val (.ref x), .val (.ref x), .val (.int (Int32.ofNat d2)), .val (.int (Int32.ofNat d2)), .val (.int (0 : Int32)), .val (.ref s1)] [(.ref x), (.ref rg)])) rfl (by rw [hml]; rfl) (lenOf own_pd15 rfl) rfl (by show 2 * 0 + _ ≤ _; exact Nat.le_of_eq rfl) (hb hby at_264) (by decide) (by decide) (by decide) (by decide)
      obtain ⟨rfl, e2382, rfl⟩ := hQ2382
      rw [List.append_nil] at X2382
      refine own_st (st2382) ?_
      clear st2382 X2381 e2381
      show OFin p e below s _ _ _ (T2382.setTop (mkF m 267 #[.val (.int p1), .val (.long t1), .second, .val (.long t2), .second, .val (.int lv), .val (.int ts), .val (.ref tt), .val (.ref rg), .val (.ref x), .val (.ref y), .val (.int (Int32.ofNat d1)), .val (.int (Int32.ofNat d2)), .val (.int (Int32.ofNat d1)), .val (.ref x), .val (.ref x), .val (.int (Int32.ofNat d2)), .val (.int (Int32.ofNat d2)), .val (.int (0 : Int32)), .val (.ref s1)] [(.int (0 : Int32))]))
      refine own_st (fun _ kS => XS.iload X2382.here hx rfl (hb hby at_267) rfl kS) ?_
      show OFin p e below s _ _ _ (T2382.setTop (mkF m 269 #[.val (.int p1), .val (.long t1), .second, .val (.long t2), .second, .val (.int lv), .val (.int ts), .val (.ref tt), .val (.ref rg), .val (.ref x), .val (.ref y), .val (.int (Int32.ofNat d1)), .val (.int (Int32.ofNat d2)), .val (.int (Int32.ofNat d1)), .val (.ref x), .val (.ref x), .val (.int (Int32.ofNat d2)), .val (.int (Int32.ofNat d2)), .val (.int (0 : Int32)), .val (.ref s1)] [(.int (0 : Int32)), (.int (0 : Int32))]))
      refine own_st (fun _ kS => XS.icmpNo X2382.here hx rfl (hb hby at_269) rfl (teq rfl).2 kS) ?_
      show OFin p e below s _ _ _ (T2382.setTop (mkF m 272 #[.val (.int p1), .val (.long t1), .second, .val (.long t2), .second, .val (.int lv), .val (.int ts), .val (.ref tt), .val (.ref rg), .val (.ref x), .val (.ref y), .val (.int (Int32.ofNat d1)), .val (.int (Int32.ofNat d2)), .val (.int (Int32.ofNat d1)), .val (.ref x), .val (.ref x), .val (.int (Int32.ofNat d2)), .val (.int (Int32.ofNat d2)), .val (.int (0 : Int32)), .val (.ref s1)] []))
      refine own_st (fun _ kS => XS.iconst X2382.here hx rfl (hb hby at_272) kS) ?_
      show OFin p e below s _ _ _ (T2382.setTop (mkF m 273 #[.val (.int p1), .val (.long t1), .second, .val (.long t2), .second, .val (.int lv), .val (.int ts), .val (.ref tt), .val (.ref rg), .val (.ref x), .val (.ref y), .val (.int (Int32.ofNat d1)), .val (.int (Int32.ofNat d2)), .val (.int (Int32.ofNat d1)), .val (.ref x), .val (.ref x), .val (.int (Int32.ofNat d2)), .val (.int (Int32.ofNat d2)), .val (.int (0 : Int32)), .val (.ref s1)] [(.int (1 : Int32))]))
      refine own_st (fun _ kS => XS.goto X2382.here hx rfl (pc0 := 273) (pc' := 277) rfl (hb hby at_273) (by decide) (by decide) kS) ?_
      show OFin p e below s _ _ _ (T2382.setTop (mkF m 277 #[.val (.int p1), .val (.long t1), .second, .val (.long t2), .second, .val (.int lv), .val (.int ts), .val (.ref tt), .val (.ref rg), .val (.ref x), .val (.ref y), .val (.int (Int32.ofNat d1)), .val (.int (Int32.ofNat d2)), .val (.int (Int32.ofNat d1)), .val (.ref x), .val (.ref x), .val (.int (Int32.ofNat d2)), .val (.int (Int32.ofNat d2)), .val (.int (0 : Int32)), .val (.ref s1)] [(.int (1 : Int32))]))
      exact own_ret X2382 hx (t := .boolean) hret hlk rfl (Or.inl ⟨rfl, by simp, _, rfl⟩) (hb hby at_277) (by decide) (by decide) ⟨rfl, fr2334⟩
    · refine own_st (fun _ kS => XS.ifNo X2333.here hx rfl (hb hby at_102) rfl ((if0 _ _).trans (feq cts).1) kS) ?_
      show OFin p e below s _ _ _ (T2333.setTop (mkF m 105 #[.val (.int p1), .val (.long t1), .second, .val (.long t2), .second, .val (.int lv), .val (.int ts), .val (.ref tt), .val (.ref rg), .val (.ref x), .val (.ref y), .val (.int (Int32.ofNat d1)), .val (.int (Int32.ofNat d2)), .unset, .unset, .unset, .unset, .unset, .unset, .unset] []))
      refine own_st (fun _ kS => XS.iload X2333.here hx rfl (hb hby at_105) rfl kS) ?_
      show OFin p e below s _ _ _ (T2333.setTop (mkF m 107 #[.val (.int p1), .val (.long t1), .second, .val (.long t2), .second, .val (.int lv), .val (.int ts), .val (.ref tt), .val (.ref rg), .val (.ref x), .val (.ref y), .val (.int (Int32.ofNat d1)), .val (.int (Int32.ofNat d2)), .unset, .unset, .unset, .unset, .unset, .unset, .unset] [(.int (Int32.ofNat d2))]))
      refine own_st (fun _ kS => XS.goto X2333.here hx rfl (pc0 := 107) (pc' := 112) rfl (hb hby at_107) (by decide) (by decide) kS) ?_
      show OFin p e below s _ _ _ (T2333.setTop (mkF m 112 #[.val (.int p1), .val (.long t1), .second, .val (.long t2), .second, .val (.int lv), .val (.int ts), .val (.ref tt), .val (.ref rg), .val (.ref x), .val (.ref y), .val (.int (Int32.ofNat d1)), .val (.int (Int32.ofNat d2)), .unset, .unset, .unset, .unset, .unset, .unset, .unset] [(.int (Int32.ofNat d2))]))
      refine own_st (fun _ kS => XS.istore X2333.here hx rfl (hb hby at_112) rfl (l' := #[.val (.int p1), .val (.long t1), .second, .val (.long t2), .second, .val (.int lv), .val (.int ts), .val (.ref tt), .val (.ref rg), .val (.ref x), .val (.ref y), .val (.int (Int32.ofNat d1)), .val (.int (Int32.ofNat d2)), .val (.int (Int32.ofNat d2)), .unset, .unset, .unset, .unset, .unset, .unset]) rfl kS) ?_
      show OFin p e below s _ _ _ (T2333.setTop (mkF m 114 #[.val (.int p1), .val (.long t1), .second, .val (.long t2), .second, .val (.int lv), .val (.int ts), .val (.ref tt), .val (.ref rg), .val (.ref x), .val (.ref y), .val (.int (Int32.ofNat d1)), .val (.int (Int32.ofNat d2)), .val (.int (Int32.ofNat d2)), .unset, .unset, .unset, .unset, .unset, .unset] []))
      refine own_st (fun _ kS => XS.iload X2333.here hx rfl (hb hby at_114) rfl kS) ?_
      show OFin p e below s _ _ _ (T2333.setTop (mkF m 116 #[.val (.int p1), .val (.long t1), .second, .val (.long t2), .second, .val (.int lv), .val (.int ts), .val (.ref tt), .val (.ref rg), .val (.ref x), .val (.ref y), .val (.int (Int32.ofNat d1)), .val (.int (Int32.ofNat d2)), .val (.int (Int32.ofNat d2)), .unset, .unset, .unset, .unset, .unset, .unset] [(.int (Int32.ofNat d1))]))
      refine own_st (fun _ kS => XS.iload X2333.here hx rfl (hb hby at_116) rfl kS) ?_
      show OFin p e below s _ _ _ (T2333.setTop (mkF m 118 #[.val (.int p1), .val (.long t1), .second, .val (.long t2), .second, .val (.int lv), .val (.int ts), .val (.ref tt), .val (.ref rg), .val (.ref x), .val (.ref y), .val (.int (Int32.ofNat d1)), .val (.int (Int32.ofNat d2)), .val (.int (Int32.ofNat d2)), .unset, .unset, .unset, .unset, .unset, .unset] [(.int (Int32.ofNat d2)), (.int (Int32.ofNat d1))]))
      refine own_st (fun _ kS => XS.icmpYes X2333.here hx rfl (pc0 := 118) (pc' := 139) rfl (hb hby at_118) rfl (feq (own_ofn hd1 hd2 hab)).2 (by decide) (by decide) kS) ?_
      show OFin p e below s _ _ _ (T2333.setTop (mkF m 139 #[.val (.int p1), .val (.long t1), .second, .val (.long t2), .second, .val (.int lv), .val (.int ts), .val (.ref tt), .val (.ref rg), .val (.ref x), .val (.ref y), .val (.int (Int32.ofNat d1)), .val (.int (Int32.ofNat d2)), .val (.int (Int32.ofNat d2)), .unset, .unset, .unset, .unset, .unset, .unset] []))
      refine own_st (fun _ kS => XS.iload X2333.here hx rfl (hb hby at_139) rfl kS) ?_
      show OFin p e below s _ _ _ (T2333.setTop (mkF m 141 #[.val (.int p1), .val (.long t1), .second, .val (.long t2), .second, .val (.int lv), .val (.int ts), .val (.ref tt), .val (.ref rg), .val (.ref x), .val (.ref y), .val (.int (Int32.ofNat d1)), .val (.int (Int32.ofNat d2)), .val (.int (Int32.ofNat d2)), .unset, .unset, .unset, .unset, .unset, .unset] [(.int (Int32.ofNat d1))]))
      refine own_st (fun _ kS => XS.iload X2333.here hx rfl (hb hby at_141) rfl kS) ?_
      show OFin p e below s _ _ _ (T2333.setTop (mkF m 143 #[.val (.int p1), .val (.long t1), .second, .val (.long t2), .second, .val (.int lv), .val (.int ts), .val (.ref tt), .val (.ref rg), .val (.ref x), .val (.ref y), .val (.int (Int32.ofNat d1)), .val (.int (Int32.ofNat d2)), .val (.int (Int32.ofNat d2)), .unset, .unset, .unset, .unset, .unset, .unset] [(.int (Int32.ofNat d2)), (.int (Int32.ofNat d1))]))
      refine own_st (fun _ kS => XS.icmpYes X2333.here hx rfl (pc0 := 143) (pc' := 157) rfl (hb hby at_143) rfl (feq (own_ofn hd1 hd2 hab)).2 (by decide) (by decide) kS) ?_
      show OFin p e below s _ _ _ (T2333.setTop (mkF m 157 #[.val (.int p1), .val (.long t1), .second, .val (.long t2), .second, .val (.int lv), .val (.int ts), .val (.ref tt), .val (.ref rg), .val (.ref x), .val (.ref y), .val (.int (Int32.ofNat d1)), .val (.int (Int32.ofNat d2)), .val (.int (Int32.ofNat d2)), .unset, .unset, .unset, .unset, .unset, .unset] []))
      refine own_st (fun _ kS => XS.aload X2333.here hx rfl (hb hby at_157) rfl rfl kS) ?_
      show OFin p e below s _ _ _ (T2333.setTop (mkF m 159 #[.val (.int p1), .val (.long t1), .second, .val (.long t2), .second, .val (.int lv), .val (.int ts), .val (.ref tt), .val (.ref rg), .val (.ref x), .val (.ref y), .val (.int (Int32.ofNat d1)), .val (.int (Int32.ofNat d2)), .val (.int (Int32.ofNat d2)), .unset, .unset, .unset, .unset, .unset, .unset] [(.ref y)]))
      refine own_st (fun _ kS => XS.astore X2333.here hx rfl (hb hby at_159) rfl rfl (l' := #[.val (.int p1), .val (.long t1), .second, .val (.long t2), .second, .val (.int lv), .val (.int ts), .val (.ref tt), .val (.ref rg), .val (.ref x), .val (.ref y), .val (.int (Int32.ofNat d1)), .val (.int (Int32.ofNat d2)), .val (.int (Int32.ofNat d2)), .val (.ref y), .unset, .unset, .unset, .unset, .unset]) rfl kS) ?_
      show OFin p e below s _ _ _ (T2333.setTop (mkF m 161 #[.val (.int p1), .val (.long t1), .second, .val (.long t2), .second, .val (.int lv), .val (.int ts), .val (.ref tt), .val (.ref rg), .val (.ref x), .val (.ref y), .val (.int (Int32.ofNat d1)), .val (.int (Int32.ofNat d2)), .val (.int (Int32.ofNat d2)), .val (.ref y), .unset, .unset, .unset, .unset, .unset] []))
      refine own_st (fun _ kS => XS.aload X2333.here hx rfl (hb hby at_161) rfl rfl kS) ?_
      show OFin p e below s _ _ _ (T2333.setTop (mkF m 163 #[.val (.int p1), .val (.long t1), .second, .val (.long t2), .second, .val (.int lv), .val (.int ts), .val (.ref tt), .val (.ref rg), .val (.ref x), .val (.ref y), .val (.int (Int32.ofNat d1)), .val (.int (Int32.ofNat d2)), .val (.int (Int32.ofNat d2)), .val (.ref y), .unset, .unset, .unset, .unset, .unset] [(.ref y)]))
      refine own_st (fun _ kS => XS.astore X2333.here hx rfl (hb hby at_163) rfl rfl (l' := #[.val (.int p1), .val (.long t1), .second, .val (.long t2), .second, .val (.int lv), .val (.int ts), .val (.ref tt), .val (.ref rg), .val (.ref x), .val (.ref y), .val (.int (Int32.ofNat d1)), .val (.int (Int32.ofNat d2)), .val (.int (Int32.ofNat d2)), .val (.ref y), .val (.ref y), .unset, .unset, .unset, .unset]) rfl kS) ?_
      show OFin p e below s _ _ _ (T2333.setTop (mkF m 165 #[.val (.int p1), .val (.long t1), .second, .val (.long t2), .second, .val (.int lv), .val (.int ts), .val (.ref tt), .val (.ref rg), .val (.ref x), .val (.ref y), .val (.int (Int32.ofNat d1)), .val (.int (Int32.ofNat d2)), .val (.int (Int32.ofNat d2)), .val (.ref y), .val (.ref y), .unset, .unset, .unset, .unset] []))
      refine own_st (fun _ kS => XS.iload X2333.here hx rfl (hb hby at_165) rfl kS) ?_
      show OFin p e below s _ _ _ (T2333.setTop (mkF m 167 #[.val (.int p1), .val (.long t1), .second, .val (.long t2), .second, .val (.int lv), .val (.int ts), .val (.ref tt), .val (.ref rg), .val (.ref x), .val (.ref y), .val (.int (Int32.ofNat d1)), .val (.int (Int32.ofNat d2)), .val (.int (Int32.ofNat d2)), .val (.ref y), .val (.ref y), .unset, .unset, .unset, .unset] [(.int ts)]))
      refine own_st (fun _ kS => XS.ifNo X2333.here hx rfl (hb hby at_167) rfl ((if0 _ _).trans (feq cts).1) kS) ?_
      show OFin p e below s _ _ _ (T2333.setTop (mkF m 170 #[.val (.int p1), .val (.long t1), .second, .val (.long t2), .second, .val (.int lv), .val (.int ts), .val (.ref tt), .val (.ref rg), .val (.ref x), .val (.ref y), .val (.int (Int32.ofNat d1)), .val (.int (Int32.ofNat d2)), .val (.int (Int32.ofNat d2)), .val (.ref y), .val (.ref y), .unset, .unset, .unset, .unset] []))
      refine own_st (fun _ kS => XS.iload X2333.here hx rfl (hb hby at_170) rfl kS) ?_
      show OFin p e below s _ _ _ (T2333.setTop (mkF m 172 #[.val (.int p1), .val (.long t1), .second, .val (.long t2), .second, .val (.int lv), .val (.int ts), .val (.ref tt), .val (.ref rg), .val (.ref x), .val (.ref y), .val (.int (Int32.ofNat d1)), .val (.int (Int32.ofNat d2)), .val (.int (Int32.ofNat d2)), .val (.ref y), .val (.ref y), .unset, .unset, .unset, .unset] [(.int (Int32.ofNat d1))]))
      refine own_st (fun _ kS => XS.goto X2333.here hx rfl (pc0 := 172) (pc' := 177) rfl (hb hby at_172) (by decide) (by decide) kS) ?_
      show OFin p e below s _ _ _ (T2333.setTop (mkF m 177 #[.val (.int p1), .val (.long t1), .second, .val (.long t2), .second, .val (.int lv), .val (.int ts), .val (.ref tt), .val (.ref rg), .val (.ref x), .val (.ref y), .val (.int (Int32.ofNat d1)), .val (.int (Int32.ofNat d2)), .val (.int (Int32.ofNat d2)), .val (.ref y), .val (.ref y), .unset, .unset, .unset, .unset] [(.int (Int32.ofNat d1))]))
      refine own_st (fun _ kS => XS.istore X2333.here hx rfl (hb hby at_177) rfl (l' := #[.val (.int p1), .val (.long t1), .second, .val (.long t2), .second, .val (.int lv), .val (.int ts), .val (.ref tt), .val (.ref rg), .val (.ref x), .val (.ref y), .val (.int (Int32.ofNat d1)), .val (.int (Int32.ofNat d2)), .val (.int (Int32.ofNat d2)), .val (.ref y), .val (.ref y), .val (.int (Int32.ofNat d1)), .unset, .unset, .unset]) rfl kS) ?_
      show OFin p e below s _ _ _ (T2333.setTop (mkF m 179 #[.val (.int p1), .val (.long t1), .second, .val (.long t2), .second, .val (.int lv), .val (.int ts), .val (.ref tt), .val (.ref rg), .val (.ref x), .val (.ref y), .val (.int (Int32.ofNat d1)), .val (.int (Int32.ofNat d2)), .val (.int (Int32.ofNat d2)), .val (.ref y), .val (.ref y), .val (.int (Int32.ofNat d1)), .unset, .unset, .unset] []))
      refine own_st (fun _ kS => XS.iload X2333.here hx rfl (hb hby at_179) rfl kS) ?_
      show OFin p e below s _ _ _ (T2333.setTop (mkF m 181 #[.val (.int p1), .val (.long t1), .second, .val (.long t2), .second, .val (.int lv), .val (.int ts), .val (.ref tt), .val (.ref rg), .val (.ref x), .val (.ref y), .val (.int (Int32.ofNat d1)), .val (.int (Int32.ofNat d2)), .val (.int (Int32.ofNat d2)), .val (.ref y), .val (.ref y), .val (.int (Int32.ofNat d1)), .unset, .unset, .unset] [(.int (Int32.ofNat d1))]))
      refine own_st (fun _ kS => XS.iload X2333.here hx rfl (hb hby at_181) rfl kS) ?_
      show OFin p e below s _ _ _ (T2333.setTop (mkF m 183 #[.val (.int p1), .val (.long t1), .second, .val (.long t2), .second, .val (.int lv), .val (.int ts), .val (.ref tt), .val (.ref rg), .val (.ref x), .val (.ref y), .val (.int (Int32.ofNat d1)), .val (.int (Int32.ofNat d2)), .val (.int (Int32.ofNat d2)), .val (.ref y), .val (.ref y), .val (.int (Int32.ofNat d1)), .unset, .unset, .unset] [(.int (Int32.ofNat d2)), (.int (Int32.ofNat d1))]))
      refine own_st (fun _ kS => XS.icmpYes X2333.here hx rfl (pc0 := 183) (pc' := 190) rfl (hb hby at_183) rfl (feq (own_ofn hd1 hd2 hab)).2 (by decide) (by decide) kS) ?_
      show OFin p e below s _ _ _ (T2333.setTop (mkF m 190 #[.val (.int p1), .val (.long t1), .second, .val (.long t2), .second, .val (.int lv), .val (.int ts), .val (.ref tt), .val (.ref rg), .val (.ref x), .val (.ref y), .val (.int (Int32.ofNat d1)), .val (.int (Int32.ofNat d2)), .val (.int (Int32.ofNat d2)), .val (.ref y), .val (.ref y), .val (.int (Int32.ofNat d1)), .unset, .unset, .unset] []))
      refine own_st (fun _ kS => XS.iload X2333.here hx rfl (hb hby at_190) rfl kS) ?_
      show OFin p e below s _ _ _ (T2333.setTop (mkF m 192 #[.val (.int p1), .val (.long t1), .second, .val (.long t2), .second, .val (.int lv), .val (.int ts), .val (.ref tt), .val (.ref rg), .val (.ref x), .val (.ref y), .val (.int (Int32.ofNat d1)), .val (.int (Int32.ofNat d2)), .val (.int (Int32.ofNat d2)), .val (.ref y), .val (.ref y), .val (.int (Int32.ofNat d1)), .unset, .unset, .unset] [(.int (Int32.ofNat d1))]))
      refine own_st (fun _ kS => XS.istore X2333.here hx rfl (hb hby at_192) rfl (l' := #[.val (.int p1), .val (.long t1), .second, .val (.long t2), .second, .val (.int lv), .val (.int ts), .val (.ref tt), .val (.ref rg), .val (.ref x), .val (.ref y), .val (.int (Int32.ofNat d1)), .val (.int (Int32.ofNat d2)), .val (.int (Int32.ofNat d2)), .val (.ref y), .val (.ref y), .val (.int (Int32.ofNat d1)), .val (.int (Int32.ofNat d1)), .unset, .unset]) rfl kS) ?_
      show OFin p e below s _ _ _ (T2333.setTop (mkF m 194 #[.val (.int p1), .val (.long t1), .second, .val (.long t2), .second, .val (.int lv), .val (.int ts), .val (.ref tt), .val (.ref rg), .val (.ref x), .val (.ref y), .val (.int (Int32.ofNat d1)), .val (.int (Int32.ofNat d2)), .val (.int (Int32.ofNat d2)), .val (.ref y), .val (.ref y), .val (.int (Int32.ofNat d1)), .val (.int (Int32.ofNat d1)), .unset, .unset] []))
      refine own_st (fun _ kS => XS.iload X2333.here hx rfl (hb hby at_194) rfl kS) ?_
      show OFin p e below s _ _ _ (T2333.setTop (mkF m 196 #[.val (.int p1), .val (.long t1), .second, .val (.long t2), .second, .val (.int lv), .val (.int ts), .val (.ref tt), .val (.ref rg), .val (.ref x), .val (.ref y), .val (.int (Int32.ofNat d1)), .val (.int (Int32.ofNat d2)), .val (.int (Int32.ofNat d2)), .val (.ref y), .val (.ref y), .val (.int (Int32.ofNat d1)), .val (.int (Int32.ofNat d1)), .unset, .unset] [(.int (Int32.ofNat d1))]))
      refine own_st (fun _ kS => XS.iload X2333.here hx rfl (hb hby at_196) rfl kS) ?_
      show OFin p e below s _ _ _ (T2333.setTop (mkF m 198 #[.val (.int p1), .val (.long t1), .second, .val (.long t2), .second, .val (.int lv), .val (.int ts), .val (.ref tt), .val (.ref rg), .val (.ref x), .val (.ref y), .val (.int (Int32.ofNat d1)), .val (.int (Int32.ofNat d2)), .val (.int (Int32.ofNat d2)), .val (.ref y), .val (.ref y), .val (.int (Int32.ofNat d1)), .val (.int (Int32.ofNat d1)), .unset, .unset] [(.int (Int32.ofNat d2)), (.int (Int32.ofNat d1))]))
      refine own_st (fun _ kS => XS.icmpNo X2333.here hx rfl (hb hby at_198) rfl (feq (own_ofn hd1 hd2 hab)).1 kS) ?_
      show OFin p e below s _ _ _ (T2333.setTop (mkF m 201 #[.val (.int p1), .val (.long t1), .second, .val (.long t2), .second, .val (.int lv), .val (.int ts), .val (.ref tt), .val (.ref rg), .val (.ref x), .val (.ref y), .val (.int (Int32.ofNat d1)), .val (.int (Int32.ofNat d2)), .val (.int (Int32.ofNat d2)), .val (.ref y), .val (.ref y), .val (.int (Int32.ofNat d1)), .val (.int (Int32.ofNat d1)), .unset, .unset] []))
      refine own_st (fun _ kS => XS.iconst X2333.here hx rfl (hb hby at_201) kS) ?_
      show OFin p e below s _ _ _ (T2333.setTop (mkF m 202 #[.val (.int p1), .val (.long t1), .second, .val (.long t2), .second, .val (.int lv), .val (.int ts), .val (.ref tt), .val (.ref rg), .val (.ref x), .val (.ref y), .val (.int (Int32.ofNat d1)), .val (.int (Int32.ofNat d2)), .val (.int (Int32.ofNat d2)), .val (.ref y), .val (.ref y), .val (.int (Int32.ofNat d1)), .val (.int (Int32.ofNat d1)), .unset, .unset] [(.int (1 : Int32))]))
      refine own_st (fun _ kS => XS.goto X2333.here hx rfl (pc0 := 202) (pc' := 206) rfl (hb hby at_202) (by decide) (by decide) kS) ?_
      show OFin p e below s _ _ _ (T2333.setTop (mkF m 206 #[.val (.int p1), .val (.long t1), .second, .val (.long t2), .second, .val (.int lv), .val (.int ts), .val (.ref tt), .val (.ref rg), .val (.ref x), .val (.ref y), .val (.int (Int32.ofNat d1)), .val (.int (Int32.ofNat d2)), .val (.int (Int32.ofNat d2)), .val (.ref y), .val (.ref y), .val (.int (Int32.ofNat d1)), .val (.int (Int32.ofNat d1)), .unset, .unset] [(.int (1 : Int32))]))
      refine own_st (fun _ kS => XS.istore X2333.here hx rfl (hb hby at_206) rfl (l' := #[.val (.int p1), .val (.long t1), .second, .val (.long t2), .second, .val (.int lv), .val (.int ts), .val (.ref tt), .val (.ref rg), .val (.ref x), .val (.ref y), .val (.int (Int32.ofNat d1)), .val (.int (Int32.ofNat d2)), .val (.int (Int32.ofNat d2)), .val (.ref y), .val (.ref y), .val (.int (Int32.ofNat d1)), .val (.int (Int32.ofNat d1)), .val (.int (1 : Int32)), .unset]) rfl kS) ?_
      show OFin p e below s _ _ _ (T2333.setTop (mkF m 208 #[.val (.int p1), .val (.long t1), .second, .val (.long t2), .second, .val (.int lv), .val (.int ts), .val (.ref tt), .val (.ref rg), .val (.ref x), .val (.ref y), .val (.int (Int32.ofNat d1)), .val (.int (Int32.ofNat d2)), .val (.int (Int32.ofNat d2)), .val (.ref y), .val (.ref y), .val (.int (Int32.ofNat d1)), .val (.int (Int32.ofNat d1)), .val (.int (1 : Int32)), .unset] []))
      refine own_st (fun _ kS => XS.aload X2333.here hx rfl (hb hby at_208) rfl rfl kS) ?_
      show OFin p e below s _ _ _ (T2333.setTop (mkF m 210 #[.val (.int p1), .val (.long t1), .second, .val (.long t2), .second, .val (.int lv), .val (.int ts), .val (.ref tt), .val (.ref rg), .val (.ref x), .val (.ref y), .val (.int (Int32.ofNat d1)), .val (.int (Int32.ofNat d2)), .val (.int (Int32.ofNat d2)), .val (.ref y), .val (.ref y), .val (.int (Int32.ofNat d1)), .val (.int (Int32.ofNat d1)), .val (.int (1 : Int32)), .unset] [(.ref rg)]))
      refine own_st (fun _ kS => XS.iload X2333.here hx rfl (hb hby at_210) rfl kS) ?_
      show OFin p e below s _ _ _ (T2333.setTop (mkF m 212 #[.val (.int p1), .val (.long t1), .second, .val (.long t2), .second, .val (.int lv), .val (.int ts), .val (.ref tt), .val (.ref rg), .val (.ref x), .val (.ref y), .val (.int (Int32.ofNat d1)), .val (.int (Int32.ofNat d2)), .val (.int (Int32.ofNat d2)), .val (.ref y), .val (.ref y), .val (.int (Int32.ofNat d1)), .val (.int (Int32.ofNat d1)), .val (.int (1 : Int32)), .unset] [(.int (Int32.ofNat d2)), (.ref rg)]))
      obtain ⟨v2383, T2383, L2383, X2383, hQ2383, st2383⟩ := own_virtual X2333 hx hZ (y := (⟨"com/example/epicycle/epicycle/SlotRing", "take", "(I)Lcom/example/epicycle/epicycle/TimeoutList;"⟩ : MethodName)) (z := (⟨"com/example/epicycle/epicycle/SlotRing", "take", "(I)Lcom/example/epicycle/epicycle/TimeoutList;"⟩ : MethodName)) (rm := ⟨0, 0, 0, 0⟩) (W := 0) (a := rg) (argsL := [(.int (Int32.ofNat d2))]) (rest := []) hown (own_w hw 162 rfl) (own_w hw 163 rfl) (notFace_of_selects (args := #[]) (mvT hZ (own_w hw 165 rfl))) (own_w hw 165 rfl) (own_w hw 164 rfl) (own_w hw 52 rfl) (own_w hw 166 rfl) (rmTK l Z a0 hw rg (Int32.ofNat d2) T2277.heap n0 sz2277 sa tt s2 lv d2 (((0 : Int64) ||| own_bit (Int32.ofNat d1)) ||| own_bit (Int32.ofNat d2)) (fun i => if i = d2 then .ref s2 else (fun i => if i = d1 then .ref s1 else (fun _ => .null) i) i) ⟨u2309, u2310, u2311, u2312, u2313, u2314⟩ g_rg g_sa ne_rg_sa (own_tn hd2) hd2 (if_pos rfl)) e2333 u2309 (g := (mkF m 212 #[.val (.int p1), .val (.long t1), .second, .val (.long t2), .second, .val (.int lv), .val (.int ts), .val (.ref tt), .val (.ref rg), .val (.ref x), .val (.ref y), .val (.int (Int32.ofNat d1)), .val (.int (Int32.ofNat d2)), .val (.int (Int32.ofNat d2)), .val (.ref y), .val (.ref y), .val (.int (Int32.ofNat d1)), .val (.int (Int32.ofNat d1)), .val (.int (1 : Int32)), .unset] [(.int (Int32.ofNat d2)), (.ref rg)])) rfl (by rw [hml]; rfl) (lenOf own_pd20 rfl) rfl (by show 2 * 0 + _ ≤ _; exact Nat.le_of_eq rfl) (hb hby at_212) (by decide) (by decide) (by decide) (by decide)
      obtain ⟨rfl, N2383, K2383, B2383_0⟩ := hQ2383
      have fr2383 := Fr.app fr2277 N2383
      clear fr2277 N2383
      have f2384 := f2278.keep K2383
      clear f2278
      have f2385 := f2279.keep K2383 (ninS ne_tt_rg (ninS ne_tt_sa nin0))
      clear f2279
      have f2386 := f2280.keep K2383 (ninS ne_tt_rg (ninS ne_tt_sa nin0))
      clear f2280
      have f2387 := f2281.keep K2383 (ninS ne_tt_rg (ninS ne_tt_sa nin0))
      clear f2281
      have f2388 := u2322.keep K2383
      clear u2322
      have f2389 := u2309.keep K2383
      clear u2309
      have f2390 := f2284.keep K2383
      clear f2284
      have f2391 := u2328.keep K2383
      clear u2328
      have f2392 := f2294.keep K2383
      clear f2294
      have f2393 := f2295.keep K2383 (ninS (Ne.symm ne_rg_s1) (ninS (Ne.symm ne_sa_s1) nin0))
      clear f2295
      have f2394 := f2296.keep K2383 (ninS (Ne.symm ne_rg_s1) (ninS (Ne.symm ne_sa_s1) nin0))
      clear f2296
      have f2395 := f2297.keep K2383 (ninS (Ne.symm ne_rg_s1) (ninS (Ne.symm ne_sa_s1) nin0))
      clear f2297
      have f2396 := f2298.keep K2383 (ninS (Ne.symm ne_rg_s1) (ninS (Ne.symm ne_sa_s1) nin0))
      clear f2298
      have f2397 := f2299.keep K2383 (ninS (Ne.symm ne_rg_s1) (ninS (Ne.symm ne_sa_s1) nin0))
      clear f2299
      have f2398 := f2300.keep K2383 (ninS (Ne.symm ne_rg_s1) (ninS (Ne.symm ne_sa_s1) nin0))
      clear f2300
      have f2399 := u2326.keep K2383 (ninS ne_ck_rg (ninS ne_ck_sa nin0))
      clear u2326
      have f2400 := f2306.keep K2383 (ninS (Ne.symm ne_rg_x) (ninS (Ne.symm ne_sa_x) nin0))
      clear f2306
      have f2401 := f2307.keep K2383 (ninS (Ne.symm ne_rg_x) (ninS (Ne.symm ne_sa_x) nin0))
      clear f2307
      have f2402 := f2308.keep K2383 (ninS (Ne.symm ne_rg_x) (ninS (Ne.symm ne_sa_x) nin0))
      clear f2308
      clear u2310
      clear u2311
      clear u2312
      clear u2313
      clear u2314
      have f2408 := u2315.keep K2383
      clear u2315
      have f2409 := u2316.keep K2383 (ninS (Ne.symm ne_rg_s2) (ninS (Ne.symm ne_sa_s2) nin0))
      clear u2316
      have f2410 := u2317.keep K2383 (ninS (Ne.symm ne_rg_s2) (ninS (Ne.symm ne_sa_s2) nin0))
      clear u2317
      have f2411 := u2318.keep K2383 (ninS (Ne.symm ne_rg_s2) (ninS (Ne.symm ne_sa_s2) nin0))
      clear u2318
      have f2412 := u2319.keep K2383 (ninS (Ne.symm ne_rg_s2) (ninS (Ne.symm ne_sa_s2) nin0))
      clear u2319
      have f2413 := u2320.keep K2383 (ninS (Ne.symm ne_rg_s2) (ninS (Ne.symm ne_sa_s2) nin0))
      clear u2320
      have f2414 := u2321.keep K2383 (ninS (Ne.symm ne_rg_s2) (ninS (Ne.symm ne_sa_s2) nin0))
      clear u2321
      have f2415 := u2323.keep K2383 (ninS ne_cl_rg (ninS ne_cl_sa nin0))
      clear u2323
      have f2416 := u2324.keep K2383 (ninS ne_cl_rg (ninS ne_cl_sa nin0))
      clear u2324
      have f2417 := u2325.keep K2383 (ninS ne_cl_rg (ninS ne_cl_sa nin0))
      clear u2325
      have f2418 := u2327.keep K2383 (ninS (Ne.symm ne_rg_c0) (ninS (Ne.symm ne_sa_c0) nin0))
      clear u2327
      have f2419 := u2329.keep K2383 (ninS (Ne.symm ne_rg_y) (ninS (Ne.symm ne_sa_y) nin0))
      clear u2329
      have f2420 := u2330.keep K2383 (ninS (Ne.symm ne_rg_y) (ninS (Ne.symm ne_sa_y) nin0))
      clear u2330
      have f2421 := u2331.keep K2383 (ninS (Ne.symm ne_rg_y) (ninS (Ne.symm ne_sa_y) nin0))
      clear u2331
      have sz2383 : n0 ≤ T2383.heap.size := Nat.le_trans sz2277 K2383.1
      clear sz2277
      clear K2383
      obtain ⟨u2422, u2423, u2424, u2425, u2426, u2427⟩ := B2383_0
      refine own_st (st2383) ?_
      clear st2383 X2333 e2333
      show OFin p e below s _ _ _ (T2383.setTop (mkF m 215 #[.val (.int p1), .val (.long t1), .second, .val (.long t2), .second, .val (.int lv), .val (.int ts), .val (.ref tt), .val (.ref rg), .val (.ref x), .val (.ref y), .val (.int (Int32.ofNat d1)), .val (.int (Int32.ofNat d2)), .val (.int (Int32.ofNat d2)), .val (.ref y), .val (.ref y), .val (.int (Int32.ofNat d1)), .val (.int (Int32.ofNat d1)), .val (.int (1 : Int32)), .unset] [(.ref s2)]))
      refine own_st (fun _ kS => XS.astore X2383.here hx rfl (hb hby at_215) rfl rfl (l' := #[.val (.int p1), .val (.long t1), .second, .val (.long t2), .second, .val (.int lv), .val (.int ts), .val (.ref tt), .val (.ref rg), .val (.ref x), .val (.ref y), .val (.int (Int32.ofNat d1)), .val (.int (Int32.ofNat d2)), .val (.int (Int32.ofNat d2)), .val (.ref y), .val (.ref y), .val (.int (Int32.ofNat d1)), .val (.int (Int32.ofNat d1)), .val (.int (1 : Int32)), .val (.ref s2)]) rfl kS) ?_
      show OFin p e below s _ _ _ (T2383.setTop (mkF m 217 #[.val (.int p1), .val (.long t1), .second, .val (.long t2), .second, .val (.int lv), .val (.int ts), .val (.ref tt), .val (.ref rg), .val (.ref x), .val (.ref y), .val (.int (Int32.ofNat d1)), .val (.int (Int32.ofNat d2)), .val (.int (Int32.ofNat d2)), .val (.ref y), .val (.ref y), .val (.int (Int32.ofNat d1)), .val (.int (Int32.ofNat d1)), .val (.int (1 : Int32)), .val (.ref s2)] []))
      refine own_st (fun _ kS => XS.aload X2383.here hx rfl (hb hby at_217) rfl rfl kS) ?_
      show OFin p e below s _ _ _ (T2383.setTop (mkF m 219 #[.val (.int p1), .val (.long t1), .second, .val (.long t2), .second, .val (.int lv), .val (.int ts), .val (.ref tt), .val (.ref rg), .val (.ref x), .val (.ref y), .val (.int (Int32.ofNat d1)), .val (.int (Int32.ofNat d2)), .val (.int (Int32.ofNat d2)), .val (.ref y), .val (.ref y), .val (.int (Int32.ofNat d1)), .val (.int (Int32.ofNat d1)), .val (.int (1 : Int32)), .val (.ref s2)] [(.ref s2)]))
      refine own_st (fun _ kS => XS.ifnonnullYes X2383.here hx rfl (pc0 := 219) (pc' := 224) rfl (hb hby at_219) rfl (by decide) (by decide) kS) ?_
      show OFin p e below s _ _ _ (T2383.setTop (mkF m 224 #[.val (.int p1), .val (.long t1), .second, .val (.long t2), .second, .val (.int lv), .val (.int ts), .val (.ref tt), .val (.ref rg), .val (.ref x), .val (.ref y), .val (.int (Int32.ofNat d1)), .val (.int (Int32.ofNat d2)), .val (.int (Int32.ofNat d2)), .val (.ref y), .val (.ref y), .val (.int (Int32.ofNat d1)), .val (.int (Int32.ofNat d1)), .val (.int (1 : Int32)), .val (.ref s2)] []))
      refine own_st (fun _ kS => XS.aload X2383.here hx rfl (hb hby at_224) rfl rfl kS) ?_
      show OFin p e below s _ _ _ (T2383.setTop (mkF m 226 #[.val (.int p1), .val (.long t1), .second, .val (.long t2), .second, .val (.int lv), .val (.int ts), .val (.ref tt), .val (.ref rg), .val (.ref x), .val (.ref y), .val (.int (Int32.ofNat d1)), .val (.int (Int32.ofNat d2)), .val (.int (Int32.ofNat d2)), .val (.ref y), .val (.ref y), .val (.int (Int32.ofNat d1)), .val (.int (Int32.ofNat d1)), .val (.int (1 : Int32)), .val (.ref s2)] [(.ref s2)]))
      obtain ⟨v2428, T2428, L2428, X2428, hQ2428, st2428⟩ := own_virtual X2383 hx hZ (y := (⟨"com/example/epicycle/epicycle/TimeoutList", "first", "()Lcom/example/epicycle/epicycle/Timeout;"⟩ : MethodName)) (z := (⟨"com/example/epicycle/epicycle/TimeoutList", "first", "()Lcom/example/epicycle/epicycle/Timeout;"⟩ : MethodName)) (rm := ⟨5, 0, 0, 66⟩) (W := 0) (a := s2) (argsL := []) (rest := []) hown (own_w hw 168 rfl) (own_w hw 169 rfl) (notFace_of_selects (args := #[]) (mvT hZ (own_w hw 171 rfl))) (own_w hw 171 rfl) (own_w hw 170 rfl) (own_w hw 99 rfl) (own_w hw 172 rfl) (rmFI1 l Z a0 hw s2 T2383.heap tt cl ck c0 y 2 (2 : Int32) (2 : Int32) (1 : Int32) t2 (fun i => if i = 0 then .ref c0 else .null) (fun i => if i = 1 then .ref y else (fun i => if i = 0 then .ref x else .null) i) ⟨f2408, f2409, f2410, f2411, f2412, f2413, f2414⟩ ⟨f2384, f2385, f2386, f2387⟩ ⟨f2388, f2415, f2416, f2417, f2399, f2418⟩ f2391 rfl (by decide) rfl rfl) rfl f2408 (g := (mkF m 226 #[.val (.int p1), .val (.long t1), .second, .val (.long t2), .second, .val (.int lv), .val (.int ts), .val (.ref tt), .val (.ref rg), .val (.ref x), .val (.ref y), .val (.int (Int32.ofNat d1)), .val (.int (Int32.ofNat d2)), .val (.int (Int32.ofNat d2)), .val (.ref y), .val (.ref y), .val (.int (Int32.ofNat d1)), .val (.int (Int32.ofNat d1)), .val (.int (1 : Int32)), .val (.ref s2)] [(.ref s2)])) rfl (by rw [hml]; rfl) (lenOf own_pd21 rfl) rfl (by show 2 * 0 + _ ≤ _; exact Nat.le_of_eq rfl) (hb hby at_226) (by decide) (by decide) (by decide) (by decide)
      obtain ⟨rfl, e2428, rfl⟩ := hQ2428
      rw [List.append_nil] at X2428
      refine own_st (st2428) ?_
      clear st2428 X2383
      show OFin p e below s _ _ _ (T2428.setTop (mkF m 229 #[.val (.int p1), .val (.long t1), .second, .val (.long t2), .second, .val (.int lv), .val (.int ts), .val (.ref tt), .val (.ref rg), .val (.ref x), .val (.ref y), .val (.int (Int32.ofNat d1)), .val (.int (Int32.ofNat d2)), .val (.int (Int32.ofNat d2)), .val (.ref y), .val (.ref y), .val (.int (Int32.ofNat d1)), .val (.int (Int32.ofNat d1)), .val (.int (1 : Int32)), .val (.ref s2)] [(.ref y)]))
      refine own_st (fun _ kS => XS.aload X2428.here hx rfl (hb hby at_229) rfl rfl kS) ?_
      show OFin p e below s _ _ _ (T2428.setTop (mkF m 231 #[.val (.int p1), .val (.long t1), .second, .val (.long t2), .second, .val (.int lv), .val (.int ts), .val (.ref tt), .val (.ref rg), .val (.ref x), .val (.ref y), .val (.int (Int32.ofNat d1)), .val (.int (Int32.ofNat d2)), .val (.int (Int32.ofNat d2)), .val (.ref y), .val (.ref y), .val (.int (Int32.ofNat d1)), .val (.int (Int32.ofNat d1)), .val (.int (1 : Int32)), .val (.ref s2)] [(.ref y), (.ref y)]))
      refine own_st (fun _ kS => Jvm.RoadKit.acmp (g := (mkF m 231 #[.val (.int p1), .val (.long t1), .second, .val (.long t2), .second, .val (.int lv), .val (.int ts), .val (.ref tt), .val (.ref rg), .val (.ref x), .val (.ref y), .val (.int (Int32.ofNat d1)), .val (.int (Int32.ofNat d2)), .val (.int (Int32.ofNat d2)), .val (.ref y), .val (.ref y), .val (.int (Int32.ofNat d1)), .val (.int (Int32.ofNat d1)), .val (.int (1 : Int32)), .val (.ref s2)] [(.ref y), (.ref y)])) X2428 hx rfl rfl rfl (pc0 := 231) (pc' := 236) (same := true) rfl (hb hby at_231) rfl (decide_eq_true rfl) (by decide) (by decide) kS) ?_
      show OFin p e below s _ _ _ (T2428.setTop (mkF m 236 #[.val (.int p1), .val (.long t1), .second, .val (.long t2), .second, .val (.int lv), .val (.int ts), .val (.ref tt), .val (.ref rg), .val (.ref x), .val (.ref y), .val (.int (Int32.ofNat d1)), .val (.int (Int32.ofNat d2)), .val (.int (Int32.ofNat d2)), .val (.ref y), .val (.ref y), .val (.int (Int32.ofNat d1)), .val (.int (Int32.ofNat d1)), .val (.int (1 : Int32)), .val (.ref s2)] []))
      refine own_st (fun _ kS => XS.aload X2428.here hx rfl (hb hby at_236) rfl rfl kS) ?_
      show OFin p e below s _ _ _ (T2428.setTop (mkF m 238 #[.val (.int p1), .val (.long t1), .second, .val (.long t2), .second, .val (.int lv), .val (.int ts), .val (.ref tt), .val (.ref rg), .val (.ref x), .val (.ref y), .val (.int (Int32.ofNat d1)), .val (.int (Int32.ofNat d2)), .val (.int (Int32.ofNat d2)), .val (.ref y), .val (.ref y), .val (.int (Int32.ofNat d1)), .val (.int (Int32.ofNat d1)), .val (.int (1 : Int32)), .val (.ref s2)] [(.ref s2)]))
      obtain ⟨v2429, T2429, L2429, X2429, hQ2429, st2429⟩ := own_virtual X2428 hx hZ (y := (⟨"com/example/epicycle/epicycle/TimeoutList", "last", "()Lcom/example/epicycle/epicycle/Timeout;"⟩ : MethodName)) (z := (⟨"com/example/epicycle/epicycle/TimeoutList", "last", "()Lcom/example/epicycle/epicycle/Timeout;"⟩ : MethodName)) (rm := ⟨5, 0, 0, 66⟩) (W := 0) (a := s2) (argsL := []) (rest := []) hown (own_w hw 197 rfl) (own_w hw 198 rfl) (notFace_of_selects (args := #[]) (mvT hZ (own_w hw 200 rfl))) (own_w hw 200 rfl) (own_w hw 199 rfl) (own_w hw 99 rfl) (own_w hw 201 rfl) (rmLA1 l Z a0 hw s2 T2383.heap tt cl ck c0 y 2 (2 : Int32) (2 : Int32) (1 : Int32) t2 (fun i => if i = 0 then .ref c0 else .null) (fun i => if i = 1 then .ref y else (fun i => if i = 0 then .ref x else .null) i) ⟨f2408, f2409, f2410, f2411, f2412, f2413, f2414⟩ ⟨f2384, f2385, f2386, f2387⟩ ⟨f2388, f2415, f2416, f2417, f2399, f2418⟩ f2391 rfl (by decide) rfl rfl) e2428 f2408 (g := (mkF m 238 #[.val (.int p1), .val (.long t1), .second, .val (.long t2), .second, .val (.int lv), .val (.int ts), .val (.ref tt), .val (.ref rg), .val (.ref x), .val (.ref y), .val (.int (Int32.ofNat d1)), .val (.int (Int32.ofNat d2)), .val (.int (Int32.ofNat d2)), .val (.ref y), .val (.ref y), .val (.int (Int32.ofNat d1)), .val (.int (Int32.ofNat d1)), .val (.int (1 : Int32)), .val (.ref s2)] [(.ref s2)])) rfl (by rw [hml]; rfl) (lenOf own_pd21 rfl) rfl (by show 2 * 0 + _ ≤ _; exact Nat.le_of_eq rfl) (hb hby at_238) (by decide) (by decide) (by decide) (by decide)
      obtain ⟨rfl, e2429, rfl⟩ := hQ2429
      rw [List.append_nil] at X2429
      refine own_st (st2429) ?_
      clear st2429 X2428 e2428
      show OFin p e below s _ _ _ (T2429.setTop (mkF m 241 #[.val (.int p1), .val (.long t1), .second, .val (.long t2), .second, .val (.int lv), .val (.int ts), .val (.ref tt), .val (.ref rg), .val (.ref x), .val (.ref y), .val (.int (Int32.ofNat d1)), .val (.int (Int32.ofNat d2)), .val (.int (Int32.ofNat d2)), .val (.ref y), .val (.ref y), .val (.int (Int32.ofNat d1)), .val (.int (Int32.ofNat d1)), .val (.int (1 : Int32)), .val (.ref s2)] [(.ref y)]))
      refine own_st (fun _ kS => XS.aload X2429.here hx rfl (hb hby at_241) rfl rfl kS) ?_
      show OFin p e below s _ _ _ (T2429.setTop (mkF m 243 #[.val (.int p1), .val (.long t1), .second, .val (.long t2), .second, .val (.int lv), .val (.int ts), .val (.ref tt), .val (.ref rg), .val (.ref x), .val (.ref y), .val (.int (Int32.ofNat d1)), .val (.int (Int32.ofNat d2)), .val (.int (Int32.ofNat d2)), .val (.ref y), .val (.ref y), .val (.int (Int32.ofNat d1)), .val (.int (Int32.ofNat d1)), .val (.int (1 : Int32)), .val (.ref s2)] [(.ref y), (.ref y)]))
      refine own_st (fun _ kS => Jvm.RoadKit.acmp (g := (mkF m 243 #[.val (.int p1), .val (.long t1), .second, .val (.long t2), .second, .val (.int lv), .val (.int ts), .val (.ref tt), .val (.ref rg), .val (.ref x), .val (.ref y), .val (.int (Int32.ofNat d1)), .val (.int (Int32.ofNat d2)), .val (.int (Int32.ofNat d2)), .val (.ref y), .val (.ref y), .val (.int (Int32.ofNat d1)), .val (.int (Int32.ofNat d1)), .val (.int (1 : Int32)), .val (.ref s2)] [(.ref y), (.ref y)])) X2429 hx rfl rfl rfl (pc0 := 243) (pc' := 248) (same := true) rfl (hb hby at_243) rfl (decide_eq_true rfl) (by decide) (by decide) kS) ?_
      show OFin p e below s _ _ _ (T2429.setTop (mkF m 248 #[.val (.int p1), .val (.long t1), .second, .val (.long t2), .second, .val (.int lv), .val (.int ts), .val (.ref tt), .val (.ref rg), .val (.ref x), .val (.ref y), .val (.int (Int32.ofNat d1)), .val (.int (Int32.ofNat d2)), .val (.int (Int32.ofNat d2)), .val (.ref y), .val (.ref y), .val (.int (Int32.ofNat d1)), .val (.int (Int32.ofNat d1)), .val (.int (1 : Int32)), .val (.ref s2)] []))
      refine own_st (fun _ kS => XS.aload X2429.here hx rfl (hb hby at_248) rfl rfl kS) ?_
      show OFin p e below s _ _ _ (T2429.setTop (mkF m 250 #[.val (.int p1), .val (.long t1), .second, .val (.long t2), .second, .val (.int lv), .val (.int ts), .val (.ref tt), .val (.ref rg), .val (.ref x), .val (.ref y), .val (.int (Int32.ofNat d1)), .val (.int (Int32.ofNat d2)), .val (.int (Int32.ofNat d2)), .val (.ref y), .val (.ref y), .val (.int (Int32.ofNat d1)), .val (.int (Int32.ofNat d1)), .val (.int (1 : Int32)), .val (.ref s2)] [(.ref rg)]))
      obtain ⟨v2430, T2430, L2430, X2430, hQ2430, st2430⟩ := own_virtual X2429 hx hZ (y := (⟨"com/example/epicycle/epicycle/SlotRing", "firstOccupied", "()I"⟩ : MethodName)) (z := (⟨"com/example/epicycle/epicycle/SlotRing", "firstOccupied", "()I"⟩ : MethodName)) (rm := ⟨2, 0, 0, 28⟩) (W := 0) (a := rg) (argsL := []) (rest := []) hown (own_w hw 202 rfl) (own_w hw 203 rfl) (notFace_of_selects (args := #[]) (mvT hZ (own_w hw 205 rfl))) (own_w hw 205 rfl) (own_w hw 204 rfl) (own_w hw 52 rfl) (own_w hw 206 rfl) (rmFO l Z a0 hw rg T2383.heap sa tt lv ((((0 : Int64) ||| own_bit (Int32.ofNat d1)) ||| own_bit (Int32.ofNat d2)) &&& (own_bit (Int32.ofNat d2) ^^^ (-1 : Int64))) (fun i => if i = d2 then .null else (fun i => if i = d2 then .ref s2 else (fun i => if i = d1 then .ref s1 else (fun _ => .null) i) i) i) ⟨u2422, u2423, u2424, u2425, u2426, u2427⟩) e2429 u2422 (g := (mkF m 250 #[.val (.int p1), .val (.long t1), .second, .val (.long t2), .second, .val (.int lv), .val (.int ts), .val (.ref tt), .val (.ref rg), .val (.ref x), .val (.ref y), .val (.int (Int32.ofNat d1)), .val (.int (Int32.ofNat d2)), .val (.int (Int32.ofNat d2)), .val (.ref y), .val (.ref y), .val (.int (Int32.ofNat d1)), .val (.int (Int32.ofNat d1)), .val (.int (1 : Int32)), .val (.ref s2)] [(.ref rg)])) rfl (by rw [hml]; rfl) (lenOf own_pd5 rfl) rfl (by show 2 * 0 + _ ≤ _; exact Nat.le_of_eq rfl) (hb hby at_250) (by decide) (by decide) (by decide) (by decide)
      obtain ⟨rfl, e2430, rfl⟩ := hQ2430
      rw [List.append_nil] at X2430
      refine own_st (st2430) ?_
      clear st2430 X2429 e2429
      show OFin p e below s _ _ _ (T2430.setTop (mkF m 253 #[.val (.int p1), .val (.long t1), .second, .val (.long t2), .second, .val (.int lv), .val (.int ts), .val (.ref tt), .val (.ref rg), .val (.ref x), .val (.ref y), .val (.int (Int32.ofNat d1)), .val (.int (Int32.ofNat d2)), .val (.int (Int32.ofNat d2)), .val (.ref y), .val (.ref y), .val (.int (Int32.ofNat d1)), .val (.int (Int32.ofNat d1)), .val (.int (1 : Int32)), .val (.ref s2)] [(.int (own_fo ((((0 : Int64) ||| own_bit (Int32.ofNat d1)) ||| own_bit (Int32.ofNat d2)) &&& (own_bit (Int32.ofNat d2) ^^^ (-1 : Int64)))))]))
      refine own_st (fun _ kS => XS.iload X2430.here hx rfl (hb hby at_253) rfl kS) ?_
      show OFin p e below s _ _ _ (T2430.setTop (mkF m 255 #[.val (.int p1), .val (.long t1), .second, .val (.long t2), .second, .val (.int lv), .val (.int ts), .val (.ref tt), .val (.ref rg), .val (.ref x), .val (.ref y), .val (.int (Int32.ofNat d1)), .val (.int (Int32.ofNat d2)), .val (.int (Int32.ofNat d2)), .val (.ref y), .val (.ref y), .val (.int (Int32.ofNat d1)), .val (.int (Int32.ofNat d1)), .val (.int (1 : Int32)), .val (.ref s2)] [(.int (Int32.ofNat d1)), (.int (own_fo ((((0 : Int64) ||| own_bit (Int32.ofNat d1)) ||| own_bit (Int32.ofNat d2)) &&& (own_bit (Int32.ofNat d2) ^^^ (-1 : Int64)))))]))
      refine own_st (fun _ kS => XS.icmpYes X2430.here hx rfl (pc0 := 255) (pc' := 260) rfl (hb hby at_255) rfl (teq (show own_fo _ = _ from (own_bits ⟨d1, hd1⟩ ⟨d2, hd2⟩ (fun q => hab (congrArg Fin.val q))).1)).1 (by decide) (by decide) kS) ?_
      show OFin p e below s _ _ _ (T2430.setTop (mkF m 260 #[.val (.int p1), .val (.long t1), .second, .val (.long t2), .second, .val (.int lv), .val (.int ts), .val (.ref tt), .val (.ref rg), .val (.ref x), .val (.ref y), .val (.int (Int32.ofNat d1)), .val (.int (Int32.ofNat d2)), .val (.int (Int32.ofNat d2)), .val (.ref y), .val (.ref y), .val (.int (Int32.ofNat d1)), .val (.int (Int32.ofNat d1)), .val (.int (1 : Int32)), .val (.ref s2)] []))
      refine own_st (fun _ kS => XS.aload X2430.here hx rfl (hb hby at_260) rfl rfl kS) ?_
      show OFin p e below s _ _ _ (T2430.setTop (mkF m 262 #[.val (.int p1), .val (.long t1), .second, .val (.long t2), .second, .val (.int lv), .val (.int ts), .val (.ref tt), .val (.ref rg), .val (.ref x), .val (.ref y), .val (.int (Int32.ofNat d1)), .val (.int (Int32.ofNat d2)), .val (.int (Int32.ofNat d2)), .val (.ref y), .val (.ref y), .val (.int (Int32.ofNat d1)), .val (.int (Int32.ofNat d1)), .val (.int (1 : Int32)), .val (.ref s2)] [(.ref rg)]))
      refine own_st (fun _ kS => XS.aload X2430.here hx rfl (hb hby at_262) rfl rfl kS) ?_
      show OFin p e below s _ _ _ (T2430.setTop (mkF m 264 #[.val (.int p1), .val (.long t1), .second, .val (.long t2), .second, .val (.int lv), .val (.int ts), .val (.ref tt), .val (.ref rg), .val (.ref x), .val (.ref y), .val (.int (Int32.ofNat d1)), .val (.int (Int32.ofNat d2)), .val (.int (Int32.ofNat d2)), .val (.ref y), .val (.ref y), .val (.int (Int32.ofNat d1)), .val (.int (Int32.ofNat d1)), .val (.int (1 : Int32)), .val (.ref s2)] [(.ref x), (.ref rg)]))
      obtain ⟨v2431, T2431, L2431, X2431, hQ2431, st2431⟩ := own_virtual X2430 hx hZ (y := (⟨"com/example/epicycle/epicycle/SlotRing", "holds", "(Lcom/example/epicycle/epicycle/Timeout;)Z"⟩ : MethodName)) (z := (⟨"com/example/epicycle/epicycle/SlotRing", "holds", "(Lcom/example/epicycle/epicycle/Timeout;)Z"⟩ : MethodName)) (rm := ⟨5, 0, 0, 66⟩) (W := 0) (a := rg) (argsL := [(.ref x)]) (rest := []) hown (own_w hw 216 rfl) (own_w hw 217 rfl) (notFace_of_selects (args := #[]) (mvT hZ (own_w hw 219 rfl))) (own_w hw 219 rfl) (own_w hw 218 rfl) (own_w hw 52 rfl) (own_w hw 220 rfl) (rmHS l Z a0 hw rg x T2383.heap sa tt cl ck c0 s1 lv (Int32.ofNat d1) (0 : Int32) d1 ((((0 : Int64) ||| own_bit (Int32.ofNat d1)) ||| own_bit (Int32.ofNat d2)) &&& (own_bit (Int32.ofNat d2) ^^^ (-1 : Int64))) t1 (fun i => if i = d2 then .null else (fun i => if i = d2 then .ref s2 else (fun i => if i = d1 then .ref s1 else (fun _ => .null) i) i) i) 2 (1 : Int32) (1 : Int32) t1 (fun i => if i = 0 then .ref c0 else .null) (fun i => if i = 1 then .ref y else (fun i => if i = 0 then .ref x else .null) i) ⟨u2422, u2423, u2424, u2425, u2426, u2427⟩ ⟨f2390, f2400, f2401, f2402⟩ e1 (own_tn hd1) hd1 ((if_neg hab).trans ((if_neg hab).trans (if_pos rfl))) ⟨f2392, f2393, f2394, f2395, f2396, f2397, f2398⟩ ⟨f2384, f2385, f2386, f2387⟩ ⟨f2388, f2415, f2416, f2417, f2399, f2418⟩ (by decide) rfl rfl) e2430 u2422 (g := (mkF m 264 #[.val (.int p1), .val (.long t1), .second, .val (.long t2), .second, .val (.int lv), .val (.int ts), .val (.ref tt), .val (.ref rg), .val (.ref x), .val (.ref y), .val (.int (Int32.ofNat d1)), .val (.int (Int32.ofNat d2)), .val (.int (Int32.ofNat d2)), .val (.ref y), .val (.ref y), .val (.int (Int32.ofNat d1)), .val (.int (Int32.ofNat d1)), .val (.int (1 : Int32)), .val (.ref s2)] [(.ref x), (.ref rg)])) rfl (by rw [hml]; rfl) (lenOf own_pd15 rfl) rfl (by show 2 * 0 + _ ≤ _; exact Nat.le_of_eq rfl) (hb hby at_264) (by decide) (by decide) (by decide) (by decide)
      obtain ⟨rfl, e2431, rfl⟩ := hQ2431
      rw [List.append_nil] at X2431
      refine own_st (st2431) ?_
      clear st2431 X2430 e2430
      show OFin p e below s _ _ _ (T2431.setTop (mkF m 267 #[.val (.int p1), .val (.long t1), .second, .val (.long t2), .second, .val (.int lv), .val (.int ts), .val (.ref tt), .val (.ref rg), .val (.ref x), .val (.ref y), .val (.int (Int32.ofNat d1)), .val (.int (Int32.ofNat d2)), .val (.int (Int32.ofNat d2)), .val (.ref y), .val (.ref y), .val (.int (Int32.ofNat d1)), .val (.int (Int32.ofNat d1)), .val (.int (1 : Int32)), .val (.ref s2)] [(.int (1 : Int32))]))
      refine own_st (fun _ kS => XS.iload X2431.here hx rfl (hb hby at_267) rfl kS) ?_
      show OFin p e below s _ _ _ (T2431.setTop (mkF m 269 #[.val (.int p1), .val (.long t1), .second, .val (.long t2), .second, .val (.int lv), .val (.int ts), .val (.ref tt), .val (.ref rg), .val (.ref x), .val (.ref y), .val (.int (Int32.ofNat d1)), .val (.int (Int32.ofNat d2)), .val (.int (Int32.ofNat d2)), .val (.ref y), .val (.ref y), .val (.int (Int32.ofNat d1)), .val (.int (Int32.ofNat d1)), .val (.int (1 : Int32)), .val (.ref s2)] [(.int (1 : Int32)), (.int (1 : Int32))]))
      refine own_st (fun _ kS => XS.icmpNo X2431.here hx rfl (hb hby at_269) rfl (teq rfl).2 kS) ?_
      show OFin p e below s _ _ _ (T2431.setTop (mkF m 272 #[.val (.int p1), .val (.long t1), .second, .val (.long t2), .second, .val (.int lv), .val (.int ts), .val (.ref tt), .val (.ref rg), .val (.ref x), .val (.ref y), .val (.int (Int32.ofNat d1)), .val (.int (Int32.ofNat d2)), .val (.int (Int32.ofNat d2)), .val (.ref y), .val (.ref y), .val (.int (Int32.ofNat d1)), .val (.int (Int32.ofNat d1)), .val (.int (1 : Int32)), .val (.ref s2)] []))
      refine own_st (fun _ kS => XS.iconst X2431.here hx rfl (hb hby at_272) kS) ?_
      show OFin p e below s _ _ _ (T2431.setTop (mkF m 273 #[.val (.int p1), .val (.long t1), .second, .val (.long t2), .second, .val (.int lv), .val (.int ts), .val (.ref tt), .val (.ref rg), .val (.ref x), .val (.ref y), .val (.int (Int32.ofNat d1)), .val (.int (Int32.ofNat d2)), .val (.int (Int32.ofNat d2)), .val (.ref y), .val (.ref y), .val (.int (Int32.ofNat d1)), .val (.int (Int32.ofNat d1)), .val (.int (1 : Int32)), .val (.ref s2)] [(.int (1 : Int32))]))
      refine own_st (fun _ kS => XS.goto X2431.here hx rfl (pc0 := 273) (pc' := 277) rfl (hb hby at_273) (by decide) (by decide) kS) ?_
      show OFin p e below s _ _ _ (T2431.setTop (mkF m 277 #[.val (.int p1), .val (.long t1), .second, .val (.long t2), .second, .val (.int lv), .val (.int ts), .val (.ref tt), .val (.ref rg), .val (.ref x), .val (.ref y), .val (.int (Int32.ofNat d1)), .val (.int (Int32.ofNat d2)), .val (.int (Int32.ofNat d2)), .val (.ref y), .val (.ref y), .val (.int (Int32.ofNat d1)), .val (.int (Int32.ofNat d1)), .val (.int (1 : Int32)), .val (.ref s2)] [(.int (1 : Int32))]))
      exact own_ret X2431 hx (t := .boolean) hret hlk rfl (Or.inl ⟨rfl, by simp, _, rfl⟩) (hb hby at_277) (by decide) (by decide) ⟨rfl, fr2383⟩
set_option maxRecDepth 65536 in
set_option maxHeartbeats 40000000 in
theorem rm0 (l : Launch) (Z : State) (a0 : Array Value) (hw : ∀ d ∈ tables_1, d.before a0 Z = true) (p1 : Int32) (t1 : Int64) (t2 : Int64) (h0 : Heap) (n0 : Nat) (Z0 : n0 ≤ h0.size)  :
    OMet l Z x code maxLocals ret room_1 #[(.int p1), (.long t1), (.long t2)] h0 (fun v h L => v = some (.int (1 : Int32)) ∧ Fr n0 L) := by
  refine own_enter own_pn0 ?_
  intro p e s m below meth c T0 X0 hC e0
  obtain ⟨hx, hZ, hby, hml, hown, hret, hlk, hnm⟩ := hC
  have hown : s.vm.findClass "com/example/epicycle/epicycle/SlotRingTakePinLaw" = some m.cls := hown
  refine own_at (own_ef0_IJJ m p1 t1 t2) ?_
  show OFin p e below s _ _ _ (T0.setTop (mkF m 0 #[.val (.int p1), .val (.long t1), .second, .val (.long t2), .second, .unset, .unset, .unset, .unset, .unset, .unset, .unset, .unset, .unset, .unset, .unset, .unset, .unset, .unset, .unset] []))
  have hC0 : OCtx Z p s m meth c "com/example/epicycle/epicycle/SlotRingTakePinLaw" "law" code maxLocals ret := ⟨hx, hZ, hby, hml, hown, hret, hlk, hnm⟩
  have N0 := Fr.nil n0
  refine own_st (fun _ kS => XS.iloadN X0.here hx rfl (hb hby at_0) rfl kS) ?_
  show OFin p e below s _ _ _ (T0.setTop (mkF m 1 #[.val (.int p1), .val (.long t1), .second, .val (.long t2), .second, .unset, .unset, .unset, .unset, .unset, .unset, .unset, .unset, .unset, .unset, .unset, .unset, .unset, .unset, .unset] [(.int p1)]))
  refine own_st (fun _ kS => XS.bipush X0.here hx rfl (hb hby at_1) kS) ?_
  show OFin p e below s _ _ _ (T0.setTop (mkF m 3 #[.val (.int p1), .val (.long t1), .second, .val (.long t2), .second, .unset, .unset, .unset, .unset, .unset, .unset, .unset, .unset, .unset, .unset, .unset, .unset, .unset, .unset, .unset] [(.int (15 : Int32)), (.int p1)]))
  refine own_st (fun _ kS => XS.iand X0.here hx rfl (hb hby at_3) rfl kS) ?_
  show OFin p e below s _ _ _ (T0.setTop (mkF m 4 #[.val (.int p1), .val (.long t1), .second, .val (.long t2), .second, .unset, .unset, .unset, .unset, .unset, .unset, .unset, .unset, .unset, .unset, .unset, .unset, .unset, .unset, .unset] [(.int (p1 &&& (15 : Int32)))]))
  refine own_st (fun _ kS => XS.bipush X0.here hx rfl (hb hby at_4) kS) ?_
  show OFin p e below s _ _ _ (T0.setTop (mkF m 6 #[.val (.int p1), .val (.long t1), .second, .val (.long t2), .second, .unset, .unset, .unset, .unset, .unset, .unset, .unset, .unset, .unset, .unset, .unset, .unset, .unset, .unset, .unset] [(.int (11 : Int32)), (.int (p1 &&& (15 : Int32)))]))
  refine own_st (fun _ kS => iremM (g := (mkF m 6 #[.val (.int p1), .val (.long t1), .second, .val (.long t2), .second, .unset, .unset, .unset, .unset, .unset, .unset, .unset, .unset, .unset, .unset, .unset, .unset, .unset, .unset, .unset] [(.int (11 : Int32)), (.int (p1 &&& (15 : Int32)))])) X0 hx rfl (hb hby at_6) rfl (by decide) kS) ?_
  show OFin p e below s _ _ _ (T0.setTop (mkF m 7 #[.val (.int p1), .val (.long t1), .second, .val (.long t2), .second, .unset, .unset, .unset, .unset, .unset, .unset, .unset, .unset, .unset, .unset, .unset, .unset, .unset, .unset, .unset] [(.int ((p1 &&& (15 : Int32)) % (11 : Int32)))]))
  refine own_st (fun _ kS => XS.istore X0.here hx rfl (hb hby at_7) rfl (l' := #[.val (.int p1), .val (.long t1), .second, .val (.long t2), .second, .val (.int ((p1 &&& (15 : Int32)) % (11 : Int32))), .unset, .unset, .unset, .unset, .unset, .unset, .unset, .unset, .unset, .unset, .unset, .unset, .unset, .unset]) rfl kS) ?_
  show OFin p e below s _ _ _ (T0.setTop (mkF m 9 #[.val (.int p1), .val (.long t1), .second, .val (.long t2), .second, .val (.int ((p1 &&& (15 : Int32)) % (11 : Int32))), .unset, .unset, .unset, .unset, .unset, .unset, .unset, .unset, .unset, .unset, .unset, .unset, .unset, .unset] []))
  generalize hlv : ((p1 &&& (15 : Int32)) % (11 : Int32)) = lv
  show OFin p e below s _ _ _ (T0.setTop (mkF m 9 #[.val (.int p1), .val (.long t1), .second, .val (.long t2), .second, .val (.int lv), .unset, .unset, .unset, .unset, .unset, .unset, .unset, .unset, .unset, .unset, .unset, .unset, .unset, .unset] []))
  refine own_st (fun _ kS => XS.iloadN X0.here hx rfl (hb hby at_9) rfl kS) ?_
  show OFin p e below s _ _ _ (T0.setTop (mkF m 10 #[.val (.int p1), .val (.long t1), .second, .val (.long t2), .second, .val (.int lv), .unset, .unset, .unset, .unset, .unset, .unset, .unset, .unset, .unset, .unset, .unset, .unset, .unset, .unset] [(.int p1)]))
  refine own_st (fun _ kS => XS.iconst X0.here hx rfl (hb hby at_10) kS) ?_
  show OFin p e below s _ _ _ (T0.setTop (mkF m 11 #[.val (.int p1), .val (.long t1), .second, .val (.long t2), .second, .val (.int lv), .unset, .unset, .unset, .unset, .unset, .unset, .unset, .unset, .unset, .unset, .unset, .unset, .unset, .unset] [(.int (4 : Int32)), (.int p1)]))
  refine own_st (fun _ kS => XS.iushr X0.here hx rfl (hb hby at_11) rfl kS) ?_
  show OFin p e below s _ _ _ (T0.setTop (mkF m 12 #[.val (.int p1), .val (.long t1), .second, .val (.long t2), .second, .val (.int lv), .unset, .unset, .unset, .unset, .unset, .unset, .unset, .unset, .unset, .unset, .unset, .unset, .unset, .unset] [(.int ((p1.toUInt32 >>> ((4 : Int32) &&& 31).toUInt32).toInt32))]))
  refine own_st (fun _ kS => XS.iconst X0.here hx rfl (hb hby at_12) kS) ?_
  show OFin p e below s _ _ _ (T0.setTop (mkF m 13 #[.val (.int p1), .val (.long t1), .second, .val (.long t2), .second, .val (.int lv), .unset, .unset, .unset, .unset, .unset, .unset, .unset, .unset, .unset, .unset, .unset, .unset, .unset, .unset] [(.int (1 : Int32)), (.int ((p1.toUInt32 >>> ((4 : Int32) &&& 31).toUInt32).toInt32))]))
  refine own_st (fun _ kS => XS.iand X0.here hx rfl (hb hby at_13) rfl kS) ?_
  show OFin p e below s _ _ _ (T0.setTop (mkF m 14 #[.val (.int p1), .val (.long t1), .second, .val (.long t2), .second, .val (.int lv), .unset, .unset, .unset, .unset, .unset, .unset, .unset, .unset, .unset, .unset, .unset, .unset, .unset, .unset] [(.int (((p1.toUInt32 >>> ((4 : Int32) &&& 31).toUInt32).toInt32) &&& (1 : Int32)))]))
  by_cases cts : (((p1.toUInt32 >>> ((4 : Int32) &&& 31).toUInt32).toInt32) &&& (1 : Int32)) = (0 : Int32)
  · refine own_st (fun _ kS => XS.ifYes X0.here hx rfl (pc0 := 14) (pc' := 21) rfl (hb hby at_14) rfl ((if0 _ _).trans (teq cts).1) (by decide) (by decide) kS) ?_
    show OFin p e below s _ _ _ (T0.setTop (mkF m 21 #[.val (.int p1), .val (.long t1), .second, .val (.long t2), .second, .val (.int lv), .unset, .unset, .unset, .unset, .unset, .unset, .unset, .unset, .unset, .unset, .unset, .unset, .unset, .unset] []))
    refine own_st (fun _ kS => XS.iconst X0.here hx rfl (hb hby at_21) kS) ?_
    show OFin p e below s _ _ _ (T0.setTop (mkF m 22 #[.val (.int p1), .val (.long t1), .second, .val (.long t2), .second, .val (.int lv), .unset, .unset, .unset, .unset, .unset, .unset, .unset, .unset, .unset, .unset, .unset, .unset, .unset, .unset] [(.int (0 : Int32))]))
    refine own_st (fun _ kS => XS.istore X0.here hx rfl (hb hby at_22) rfl (l' := #[.val (.int p1), .val (.long t1), .second, .val (.long t2), .second, .val (.int lv), .val (.int (0 : Int32)), .unset, .unset, .unset, .unset, .unset, .unset, .unset, .unset, .unset, .unset, .unset, .unset, .unset]) rfl kS) ?_
    show OFin p e below s _ _ _ (T0.setTop (mkF m 24 #[.val (.int p1), .val (.long t1), .second, .val (.long t2), .second, .val (.int lv), .val (.int (0 : Int32)), .unset, .unset, .unset, .unset, .unset, .unset, .unset, .unset, .unset, .unset, .unset, .unset, .unset] []))
    exact own_p24 hw hC0 X0 e0 n0 Z0 p1 lv _ t1 t2 (Fr.nil n0) rfl rfl
  · refine own_st (fun _ kS => XS.ifNo X0.here hx rfl (hb hby at_14) rfl ((if0 _ _).trans (feq cts).1) kS) ?_
    show OFin p e below s _ _ _ (T0.setTop (mkF m 17 #[.val (.int p1), .val (.long t1), .second, .val (.long t2), .second, .val (.int lv), .unset, .unset, .unset, .unset, .unset, .unset, .unset, .unset, .unset, .unset, .unset, .unset, .unset, .unset] []))
    refine own_st (fun _ kS => XS.iconst X0.here hx rfl (hb hby at_17) kS) ?_
    show OFin p e below s _ _ _ (T0.setTop (mkF m 18 #[.val (.int p1), .val (.long t1), .second, .val (.long t2), .second, .val (.int lv), .unset, .unset, .unset, .unset, .unset, .unset, .unset, .unset, .unset, .unset, .unset, .unset, .unset, .unset] [(.int (1 : Int32))]))
    refine own_st (fun _ kS => XS.goto X0.here hx rfl (pc0 := 18) (pc' := 22) rfl (hb hby at_18) (by decide) (by decide) kS) ?_
    show OFin p e below s _ _ _ (T0.setTop (mkF m 22 #[.val (.int p1), .val (.long t1), .second, .val (.long t2), .second, .val (.int lv), .unset, .unset, .unset, .unset, .unset, .unset, .unset, .unset, .unset, .unset, .unset, .unset, .unset, .unset] [(.int (1 : Int32))]))
    refine own_st (fun _ kS => XS.istore X0.here hx rfl (hb hby at_22) rfl (l' := #[.val (.int p1), .val (.long t1), .second, .val (.long t2), .second, .val (.int lv), .val (.int (1 : Int32)), .unset, .unset, .unset, .unset, .unset, .unset, .unset, .unset, .unset, .unset, .unset, .unset, .unset]) rfl kS) ?_
    show OFin p e below s _ _ _ (T0.setTop (mkF m 24 #[.val (.int p1), .val (.long t1), .second, .val (.long t2), .second, .val (.int lv), .val (.int (1 : Int32)), .unset, .unset, .unset, .unset, .unset, .unset, .unset, .unset, .unset, .unset, .unset, .unset, .unset] []))
    exact own_p24 hw hC0 X0 e0 n0 Z0 p1 lv _ t1 t2 (Fr.nil n0) rfl rfl
set_option maxRecDepth 65536 in
set_option maxHeartbeats 40000000 in
theorem comes_1 {Post : Tables → Env → Array Value → State → Outcome → State → Prop} (hpost : ∀ tb e args s v u, (limb_1_1.after args s (.returned v) u = true ∧ limb_1_2.after args s (.returned v) u = true ∧ True) → FrameEnd s (.returned v) u (Jvm.fieldLocs frame_1_writes args s ++ Jvm.arrayLocs frame_1_arrays args s ++ Jvm.staticLocs frame_1_statics s) 32 2368 → Post tb e args s (.returned v) u) :
    ArmFor flags0 classFile x code maxLocals ret World_1 tables_1 room_1 Calls_1 rest_1 Pre_1 Post := by
  intro l hfl _ _ p e ha hc hk s m args below hf hA hF happ hP
  obtain ⟨hcalls, hrest, hpre⟩ := hP
  obtain ⟨-, -, -, hnamed, -, -, -, hat⟩ := (Spec.applies_iff hf).mp happ
  obtain ⟨hg, hn⟩ := and_e (Cond.before_iff.mp (show (Jvm.Cond.and given_1 narrow_1).before args s = true from hpre))
  obtain ⟨gc, hg0⟩ := and_e hg
  obtain ⟨ga0, hg1⟩ := and_e hg0
  obtain ⟨ga1, hg2⟩ := and_e hg1
  obtain ⟨w0, w1, w2, rfl⟩ : ∃ w0 w1 w2 : Value, args = #[w0, w1, w2] := by
    have hs : args.size = 3 := by simpa [Cond.value, given_1] using gc
    obtain ⟨L⟩ := args
    match L, hs with
    | [w0, w1, w2], _ => exact ⟨w0, w1, w2, rfl⟩
  have hw := fun d (hd : d ∈ tables_1) => atoms_spec (ws := Jvm.Cond.code x code maxLocals ret :: tables_1) hat d (List.mem_cons_of_mem _ hd)
  have hfit : Fit s := fun {y c} hc i hi => by
    obtain ⟨ha, rfl⟩ := Array.getElem?_eq_some_iff.mp hc
    have q := List.all_eq_true.mp ((Array.all_eq_true_iff_forall_mem.mp hF) _ (Array.getElem_mem ha)) i (List.mem_range.mpr hi)
    simpa [Array.getElem?_eq_getElem hi] using q
  obtain ⟨i0, ei0⟩ := is_v ga0
  obtain rfl : w0 = (.int i0) := Option.some.inj ei0
  obtain ⟨i1, ei1⟩ := isL_v ga1
  obtain rfl : w1 = (.long i1) := Option.some.inj ei1
  obtain ⟨i2, ei2⟩ := isL_v hg2
  obtain rfl : w2 = (.long i2) := Option.some.inj ei2
  obtain ⟨n, o, h1, h2, h3, _, L, rfl, ⟨rfl, N⟩, hq⟩ := rm0 l s _ hw i0 i1 i2 s.heap s.heap.size (Nat.le_refl _) tables_1 p e ha hc hk s m _ below hf ((Spec.applies_iff_loose hf).mp happ).1 ⟨rfl, State.Warmed39.refl s, rfl⟩ trivial
  refine ⟨n, _, h1, h2, h3, hpost _ _ _ _ _ _ ⟨Cond.after_iff.mpr rfl, Cond.after_iff.mpr (eq_i res_at (Term.int_eval (1)) rfl), trivial⟩ ⟨hq.1, hq.2.1, (hq.2.2.sift fun y hy => Or.inr (N y hy)).mono (by decide) (by decide)⟩⟩
theorem main_1_1 : Claimed_1_1 := comes_1 fun _ _ _ _ _ _ h hF => ⟨h.1, hF⟩
theorem main_1_2 : Claimed_1_2 := comes_1 fun _ _ _ _ _ _ h hF => ⟨h.2.1, hF⟩
end Jvm.Pilot.@@N@@
namespace Jvm.Pilot.@@N@@
open Jvm Jvm.ClassFile Sem Op Lib Jvm.Free Jvm.Stand Jvm.Pilot.@@N@@.Jvm.D
/-! MADE BY PROGRAM (witnessworld.py) out of the Statement's table words and the real class files: 33 classes; the members and pool entries that the words name. The judged class is class 1, her method 2. -/
namespace start1
open Jvm.ClassFile
def u (s : String) : CpInfo := .utf8 (stringToUtf16 s)
/-- a pool by its gaps: so many unusable entries, then the entry; so many at the end -/
def gap : Nat → List CpInfo → List CpInfo
  | 0, r => r
  | n + 1, r => .unusable :: gap n r
def poolList (es : List (Nat × CpInfo)) (last : Nat) : List CpInfo := es.foldr (fun e r => gap e.1 (e.2 :: r)) (gap last [])
def pool (es : List (Nat × CpInfo)) (last : Nat) : Array CpInfo := ⟨poolList es last⟩
def fileOf (pool : Array CpInfo) (this : Nat) (attrs : Array Attribute := #[]) (ms : Array MethodInfo := #[]) (fl : Nat := 33) (sup : Nat := 0) (ifs : Array Nat := #[]) (fds : Array FieldInfo := #[]) : ClassFile where
  minorVersion := 0
  majorVersion := 65
  constantPool := pool
  accessFlags := fl
  thisClass := this
  superClass := sup
  interfaces := ifs
  fields := fds
  methods := ms
  attributes := attrs
def plain (name : String) (sup : Option ClassId) : Class where
  name := name
  kind := .ordinary
  loader := none
  accessFlags := 33
  super := sup
  interfaces := #[]
  cf := none
  fields := #[]
  methods := #[]
  instanceTypes := #[]
  staticTypes := #[]
  resolved := #[]
  callSites := []
  init := .initialized
  statics := none
  mirror := none

def pool0 : Array CpInfo := pool [(5, u "<init>"), (0, u "()V"), (1, .class_ 10), (1, u "java/lang/Object")] 113

def k0c0 : Code := { maxStack := 0, maxLocals := 1, code := object_method_1_code, exceptionTable := #[], attributes := #[] }
def k0m0 : Method := { name := "<init>", desc := "()V", sig := { parameters := [], returnType := none }, accessFlags := 1, code := some k0c0 }
/-- java/lang/Object -/
def k0 : Class := { plain "java/lang/Object" none with
  accessFlags := 33
  interfaces := #[]
  cf := some (fileOf pool0 8 #[] #[{ accessFlags := 1, nameIndex := 5, descriptorIndex := 6, attributes := #[] }] 33 0 #[] #[])
  fields := #[]
  methods := #[k0m0]
  instanceTypes := #[]
  staticTypes := #[]
  resolved := Array.replicate 124 none
  statics := none }

def pool1 : Array CpInfo := pool [(2, .class_ 4), (0, .nameAndType 5 6), (0, u "java/lang/Object"), (0, u "<init>"), (0, u "()V"), (0, .long 63), (1, .class_ 10), (0, u "com/example/epicycle/epicycle/TimeoutTable"), (0, .methodref 9 3), (0, .class_ 13), (0, u "com/example/epicycle/epicycle/SlotRing"), (0, .methodref 12 15), (0, .nameAndType 5 16), (0, u "(ILcom/example/epicycle/epicycle/TimeoutTable;)V"), (0, .class_ 18), (0, u "com/example/epicycle/epicycle/Timeout"), (0, .methodref 17 20), (0, .nameAndType 5 21), (0, u "(Lcom/example/epicycle/epicycle/Timeout$Holder;Ljava/lang/Runnable;J)V"), (0, .methodref 12 23), (0, .nameAndType 24 25), (0, u "add"), (0, u "(Lcom/example/epicycle/epicycle/Timeout;)V"), (0, .methodref 27 28), (0, .class_ 29), (0, .nameAndType 30 31), (0, u "com/example/epicycle/epicycle/SlotRingTakePinLaw"), (0, u "dig"), (0, u "(JI)I"), (0, .methodref 12 33), (0, .nameAndType 34 35), (0, u "take"), (0, u "(I)Lcom/example/epicycle/epicycle/TimeoutList;"), (0, .methodref 37 38), (0, .class_ 39), (0, .nameAndType 40 41), (0, u "com/example/epicycle/epicycle/TimeoutList"), (0, u "first"), (0, u "()Lcom/example/epicycle/epicycle/Timeout;"), (0, .methodref 37 43), (0, .nameAndType 44 41), (0, u "last"), (0, .methodref 12 46), (0, .nameAndType 47 48), (0, u "firstOccupied"), (0, u "()I"), (0, .methodref 12 50), (0, .nameAndType 51 52), (0, u "holds"), (0, u "(Lcom/example/epicycle/epicycle/Timeout;)Z"), (2, u "law"), (0, u "(IJJ)Z")] 7

def k1m0 : Method := { name := "<init>", desc := "()V", sig := { parameters := [], returnType := none }, accessFlags := 1, code := none }
def k1c1 : Code := { maxStack := 4, maxLocals := 5, code := method_2_code, exceptionTable := #[], attributes := #[] }
def k1m1 : Method := { name := "dig", desc := "(JI)I", sig := { parameters := [.long, .int], returnType := some .int }, accessFlags := 10, code := some k1c1 }
def k1c2 : Code := { maxStack := 6, maxLocals := 20, code := code, exceptionTable := #[], attributes := #[] }
def k1m2 : Method := { name := "law", desc := "(IJJ)Z", sig := { parameters := [.int, .long, .long], returnType := some .boolean }, accessFlags := 9, code := some k1c2 }
/-- com/example/epicycle/epicycle/SlotRingTakePinLaw -/
def k1 : Class := { plain "com/example/epicycle/epicycle/SlotRingTakePinLaw" (some 0) with
  accessFlags := 49
  interfaces := #[]
  cf := some (fileOf pool1 27 #[] #[{ accessFlags := 1, nameIndex := 5, descriptorIndex := 6, attributes := #[] }, { accessFlags := 10, nameIndex := 30, descriptorIndex := 31, attributes := #[] }, { accessFlags := 9, nameIndex := 55, descriptorIndex := 56, attributes := #[] }] 49 2 #[] #[])
  fields := #[]
  methods := #[k1m0, k1m1, k1m2]
  instanceTypes := #[]
  staticTypes := #[]
  resolved := Array.replicate 64 none
  statics := none }

def pool2 : Array CpInfo := pool [(1, .class_ 2), (0, u "com/example/epicycle/epicycle/TimeoutTable"), (0, .methodref 4 5), (0, .class_ 6), (0, .nameAndType 7 8), (0, u "java/lang/Object"), (0, u "<init>"), (0, u "()V"), (0, .class_ 10), (0, u "com/example/epicycle/epicycle/ChunkedList"), (0, .methodref 9 5), (0, .fieldref 1 13), (0, .nameAndType 14 15), (0, u "timeouts"), (0, u "Lcom/example/epicycle/epicycle/ChunkedList;"), (0, .methodref 1 17), (0, .nameAndType 18 19), (0, u "levelsFor"), (0, u "(I)[[J"), (0, .fieldref 1 21), (0, .nameAndType 22 23), (0, u "free"), (0, u "[[J"), (0, .fieldref 1 25), (0, .nameAndType 26 27), (0, u "capacity"), (0, u "I"), (0, .fieldref 1 29), (0, .nameAndType 30 27), (0, u "freeCount"), (3, u "()I"), (4, .methodref 9 40), (0, .nameAndType 41 42), (0, u "add"), (0, u "(Ljava/lang/Object;)Z"), (0, .methodref 9 44), (0, .nameAndType 45 34), (0, u "size"), (2, .long 2147483647), (1, .long 2), (7, .methodref 9 59), (0, .nameAndType 60 61), (0, u "get"), (0, u "(I)Ljava/lang/Object;"), (0, .class_ 63), (0, u "com/example/epicycle/epicycle/Timeout"), (15, .long 64), (1, .methodref 1 82), (0, .nameAndType 83 84), (0, u "wordsFor"), (0, u "(J)J"), (0, .class_ 86), (0, u "[J"), (0, u "NONE"), (2, u "WORD_BITS"), (1, u "FIRST_CAPACITY"), (5, u "(Lcom/example/epicycle/epicycle/Timeout;)I"), (1, u "(I)Lcom/example/epicycle/epicycle/Timeout;")] 4

def k2c0 : Code := { maxStack := 3, maxLocals := 1, code := prog_20_method_1_code, exceptionTable := #[], attributes := #[] }
def k2m0 : Method := { name := "<init>", desc := "()V", sig := { parameters := [], returnType := none }, accessFlags := 0, code := some k2c0 }
def k2c1 : Code := { maxStack := 7, maxLocals := 3, code := prog_20_method_2_code, exceptionTable := #[], attributes := #[] }
def k2m1 : Method := { name := "add", desc := "(Lcom/example/epicycle/epicycle/Timeout;)I", sig := { parameters := [(.object "com/example/epicycle/epicycle/Timeout")], returnType := some .int }, accessFlags := 0, code := some k2c1 }
def k2c2 : Code := { maxStack := 3, maxLocals := 2, code := prog_20_method_3_code, exceptionTable := #[], attributes := #[] }
def k2m2 : Method := { name := "get", desc := "(I)Lcom/example/epicycle/epicycle/Timeout;", sig := { parameters := [.int], returnType := some (.object "com/example/epicycle/epicycle/Timeout") }, accessFlags := 0, code := some k2c2 }
def k2c3 : Code := { maxStack := 4, maxLocals := 6, code := prog_20_method_7_code, exceptionTable := #[], attributes := #[] }
def k2m3 : Method := { name := "levelsFor", desc := "(I)[[J", sig := { parameters := [.int], returnType := some (.array (.array .long)) }, accessFlags := 10, code := some k2c3 }
def k2c4 : Code := { maxStack := 4, maxLocals := 2, code := prog_20_method_8_code, exceptionTable := #[], attributes := #[] }
def k2m4 : Method := { name := "wordsFor", desc := "(J)J", sig := { parameters := [.long], returnType := some .long }, accessFlags := 10, code := some k2c4 }
/-- com/example/epicycle/epicycle/TimeoutTable -/
def k2 : Class := { plain "com/example/epicycle/epicycle/TimeoutTable" (some 0) with
  accessFlags := 32
  interfaces := #[]
  cf := some (fileOf pool2 1 #[] #[{ accessFlags := 0, nameIndex := 7, descriptorIndex := 8, attributes := #[] }, { accessFlags := 0, nameIndex := 41, descriptorIndex := 98, attributes := #[] }, { accessFlags := 0, nameIndex := 60, descriptorIndex := 100, attributes := #[] }, { accessFlags := 10, nameIndex := 18, descriptorIndex := 19, attributes := #[] }, { accessFlags := 10, nameIndex := 83, descriptorIndex := 84, attributes := #[] }] 32 4 #[] #[{ accessFlags := 24, nameIndex := 87, descriptorIndex := 27, attributes := #[] }, { accessFlags := 26, nameIndex := 90, descriptorIndex := 27, attributes := #[] }, { accessFlags := 26, nameIndex := 92, descriptorIndex := 27, attributes := #[] }, { accessFlags := 18, nameIndex := 14, descriptorIndex := 15, attributes := #[] }, { accessFlags := 2, nameIndex := 22, descriptorIndex := 23, attributes := #[] }, { accessFlags := 2, nameIndex := 26, descriptorIndex := 27, attributes := #[] }, { accessFlags := 2, nameIndex := 30, descriptorIndex := 27, attributes := #[] }])
  fields := #[{ name := "NONE", type := .int, accessFlags := 24, slot := 0, constantValue := 0 }, { name := "WORD_BITS", type := .int, accessFlags := 26, slot := 1, constantValue := 0 }, { name := "FIRST_CAPACITY", type := .int, accessFlags := 26, slot := 2, constantValue := 0 }, { name := "timeouts", type := (.object "com/example/epicycle/epicycle/ChunkedList"), accessFlags := 18, slot := 0, constantValue := 0 }, { name := "free", type := (.array (.array .long)), accessFlags := 2, slot := 1, constantValue := 0 }, { name := "capacity", type := .int, accessFlags := 2, slot := 2, constantValue := 0 }, { name := "freeCount", type := .int, accessFlags := 2, slot := 3, constantValue := 0 }]
  methods := #[k2m0, k2m1, k2m2, k2m3, k2m4]
  instanceTypes := #[(.object "com/example/epicycle/epicycle/ChunkedList"), (.array (.array .long)), .int, .int]
  staticTypes := #[.int, .int, .int]
  resolved := Array.replicate 105 none
  statics := none }

def pool3 : Array CpInfo := pool [(8, .class_ 10), (1, u "java/lang/Iterable"), (24, .class_ 36), (0, u "java/lang/Object")] 25

/-- java/lang/Iterable -/
def k3 : Class := { plain "java/lang/Iterable" (some 0) with
  accessFlags := 1537
  interfaces := #[]
  cf := some (fileOf pool3 8 #[] #[] 1537 35 #[] #[])
  fields := #[]
  methods := #[]
  instanceTypes := #[]
  staticTypes := #[]
  resolved := Array.replicate 62 none
  statics := none }

def pool4 : Array CpInfo := pool [(10, .class_ 12), (1, u "java/util/Collection"), (47, .class_ 61), (0, u "java/lang/Object"), (0, .class_ 63), (0, u "java/lang/Iterable")] 51

/-- java/util/Collection -/
def k4 : Class := { plain "java/util/Collection" (some 0) with
  accessFlags := 1537
  interfaces := #[3]
  cf := some (fileOf pool4 10 #[] #[] 1537 60 #[62] #[])
  fields := #[]
  methods := #[]
  instanceTypes := #[]
  staticTypes := #[]
  resolved := Array.replicate 115 none
  statics := none }

def pool5 : Array CpInfo := pool [(1, .methodref 2 3), (0, .class_ 4), (0, .nameAndType 5 6), (0, u "java/lang/Object"), (0, u "<init>"), (0, u "()V"), (1, .class_ 10), (1, u "java/util/AbstractCollection"), (66, .class_ 78), (0, u "java/util/Collection")] 81

def k5c0 : Code := { maxStack := 1, maxLocals := 1, code := jdk_22_method_1_code, exceptionTable := #[], attributes := #[] }
def k5m0 : Method := { name := "<init>", desc := "()V", sig := { parameters := [], returnType := none }, accessFlags := 4, code := some k5c0 }
/-- java/util/AbstractCollection -/
def k5 : Class := { plain "java/util/AbstractCollection" (some 0) with
  accessFlags := 1057
  interfaces := #[4]
  cf := some (fileOf pool5 8 #[] #[{ accessFlags := 4, nameIndex := 5, descriptorIndex := 6, attributes := #[] }] 1057 2 #[77] #[])
  fields := #[]
  methods := #[k5m0]
  instanceTypes := #[]
  staticTypes := #[]
  resolved := Array.replicate 160 none
  statics := none }

def pool6 : Array CpInfo := pool [(8, .class_ 10), (1, u "java/util/SequencedCollection"), (15, .class_ 27), (0, u "java/lang/Object"), (0, .class_ 29), (0, u "java/util/Collection")] 27

/-- java/util/SequencedCollection -/
def k6 : Class := { plain "java/util/SequencedCollection" (some 0) with
  accessFlags := 1537
  interfaces := #[4]
  cf := some (fileOf pool6 8 #[] #[] 1537 26 #[28] #[])
  fields := #[]
  methods := #[]
  instanceTypes := #[]
  staticTypes := #[]
  resolved := Array.replicate 57 none
  statics := none }

def pool7 : Array CpInfo := pool [(8, .class_ 10), (1, u "java/util/List"), (92, .class_ 104), (0, u "java/lang/Object"), (15, .class_ 121), (0, u "java/util/SequencedCollection")] 129

/-- java/util/List -/
def k7 : Class := { plain "java/util/List" (some 0) with
  accessFlags := 1537
  interfaces := #[6]
  cf := some (fileOf pool7 8 #[] #[] 1537 103 #[120] #[])
  fields := #[]
  methods := #[]
  instanceTypes := #[]
  staticTypes := #[]
  resolved := Array.replicate 251 none
  statics := none }

def pool8 : Array CpInfo := pool [(1, .methodref 2 3), (0, .class_ 4), (0, .nameAndType 5 6), (0, u "java/util/AbstractCollection"), (0, u "<init>"), (0, u "()V"), (0, .fieldref 8 9), (0, .class_ 10), (0, .nameAndType 11 12), (0, u "java/util/AbstractList"), (0, u "modCount"), (0, u "I"), (64, .class_ 78), (0, u "java/util/AbstractList$Itr"), (3, .class_ 83), (0, u "java/util/AbstractList$ListItr"), (9, .class_ 94), (0, u "java/util/AbstractList$RandomAccessSubList"), (3, .class_ 99), (0, u "java/util/AbstractList$SubList"), (33, .class_ 134), (0, u "java/util/List"), (73, .class_ 209), (0, u "java/util/AbstractList$SubList$1"), (0, .class_ 211), (0, u "java/util/AbstractList$RandomAccessSpliterator")] 6

def k8c0 : Code := { maxStack := 2, maxLocals := 1, code := jdk_39_method_1_code, exceptionTable := #[], attributes := #[] }
def k8m0 : Method := { name := "<init>", desc := "()V", sig := { parameters := [], returnType := none }, accessFlags := 4, code := some k8c0 }
/-- java/util/AbstractList -/
def k8 : Class := { plain "java/util/AbstractList" (some 5) with
  accessFlags := 1057
  interfaces := #[7]
  cf := some (fileOf pool8 8 #[.nestMembers #[93, 98, 208, 210, 82, 77]] #[{ accessFlags := 4, nameIndex := 5, descriptorIndex := 6, attributes := #[] }] 1057 2 #[133] #[{ accessFlags := 132, nameIndex := 11, descriptorIndex := 12, attributes := #[] }])
  fields := #[{ name := "modCount", type := .int, accessFlags := 132, slot := 0, constantValue := 0 }]
  methods := #[k8m0]
  instanceTypes := #[.int]
  staticTypes := #[]
  resolved := Array.replicate 218 none
  statics := none }

def pool9 : Array CpInfo := pool [(1, .class_ 2), (0, u "java/util/RandomAccess"), (0, .class_ 4), (0, u "java/lang/Object")] 2

/-- java/util/RandomAccess -/
def k9 : Class := { plain "java/util/RandomAccess" (some 0) with
  accessFlags := 1537
  interfaces := #[]
  cf := some (fileOf pool9 1 #[] #[] 1537 3 #[] #[])
  fields := #[]
  methods := #[]
  instanceTypes := #[]
  staticTypes := #[]
  resolved := Array.replicate 7 none
  statics := none }

def pool10 : Array CpInfo := pool [(1, .class_ 2), (0, u "com/example/epicycle/epicycle/ChunkedList"), (0, .methodref 4 5), (0, .class_ 6), (0, .nameAndType 7 8), (0, u "java/util/AbstractList"), (0, u "<init>"), (0, u "()V"), (0, .class_ 10), (0, u "[Ljava/lang/Object;"), (0, .fieldref 1 12), (0, .nameAndType 13 14), (0, u "chunks"), (0, u "[[Ljava/lang/Object;"), (0, .fieldref 1 16), (0, .nameAndType 17 18), (0, u "size"), (0, u "I"), (2, .integer 2147483647), (14, .class_ 37), (0, u "java/lang/Object"), (0, .fieldref 1 39), (0, .nameAndType 40 18), (0, u "modCount"), (0, .methodref 42 43), (0, .class_ 44), (0, .nameAndType 45 46), (0, u "java/util/Objects"), (0, u "checkIndex"), (0, u "(II)I"), (2, u "get"), (0, u "(I)Ljava/lang/Object;"), (9, .class_ 61), (0, u "java/util/RandomAccess"), (0, u "CHUNK_BITS"), (2, u "CHUNK_SLOTS"), (1, u "CHUNK_MASK"), (3, u "add"), (0, u "(Ljava/lang/Object;)Z"), (7, u "()I")] 4

def k10c0 : Code := { maxStack := 2, maxLocals := 1, code := prog_2_method_1_code, exceptionTable := #[], attributes := #[] }
def k10m0 : Method := { name := "<init>", desc := "()V", sig := { parameters := [], returnType := none }, accessFlags := 0, code := some k10c0 }
def k10c1 : Code := { maxStack := 4, maxLocals := 3, code := prog_2_method_2_code, exceptionTable := #[], attributes := #[] }
def k10m1 : Method := { name := "add", desc := "(Ljava/lang/Object;)Z", sig := { parameters := [(.object "java/lang/Object")], returnType := some .boolean }, accessFlags := 1, code := some k10c1 }
def k10c2 : Code := { maxStack := 3, maxLocals := 2, code := prog_2_method_3_code, exceptionTable := #[], attributes := #[] }
def k10m2 : Method := { name := "get", desc := "(I)Ljava/lang/Object;", sig := { parameters := [.int], returnType := some (.object "java/lang/Object") }, accessFlags := 1, code := some k10c2 }
def k10c3 : Code := { maxStack := 1, maxLocals := 1, code := prog_2_method_5_code, exceptionTable := #[], attributes := #[] }
def k10m3 : Method := { name := "size", desc := "()I", sig := { parameters := [], returnType := some .int }, accessFlags := 1, code := some k10c3 }
/-- com/example/epicycle/epicycle/ChunkedList -/
def k10 : Class := { plain "com/example/epicycle/epicycle/ChunkedList" (some 8) with
  accessFlags := 32
  interfaces := #[9]
  cf := some (fileOf pool10 1 #[] #[{ accessFlags := 0, nameIndex := 7, descriptorIndex := 8, attributes := #[] }, { accessFlags := 1, nameIndex := 71, descriptorIndex := 72, attributes := #[] }, { accessFlags := 1, nameIndex := 49, descriptorIndex := 50, attributes := #[] }, { accessFlags := 1, nameIndex := 17, descriptorIndex := 80, attributes := #[] }] 32 4 #[60] #[{ accessFlags := 26, nameIndex := 62, descriptorIndex := 18, attributes := #[] }, { accessFlags := 26, nameIndex := 65, descriptorIndex := 18, attributes := #[] }, { accessFlags := 26, nameIndex := 67, descriptorIndex := 18, attributes := #[] }, { accessFlags := 2, nameIndex := 13, descriptorIndex := 14, attributes := #[] }, { accessFlags := 2, nameIndex := 17, descriptorIndex := 18, attributes := #[] }])
  fields := #[{ name := "CHUNK_BITS", type := .int, accessFlags := 26, slot := 0, constantValue := 0 }, { name := "CHUNK_SLOTS", type := .int, accessFlags := 26, slot := 1, constantValue := 0 }, { name := "CHUNK_MASK", type := .int, accessFlags := 26, slot := 2, constantValue := 0 }, { name := "chunks", type := (.array (.array (.object "java/lang/Object"))), accessFlags := 2, slot := 1, constantValue := 0 }, { name := "size", type := .int, accessFlags := 2, slot := 2, constantValue := 0 }]
  methods := #[k10m0, k10m1, k10m2, k10m3]
  instanceTypes := #[.int, (.array (.array (.object "java/lang/Object"))), .int]
  staticTypes := #[.int, .int, .int]
  resolved := Array.replicate 85 none
  statics := none }

def pool11 : Array CpInfo := pool [(1, .class_ 2), (0, u "com/example/epicycle/epicycle/SlotRing"), (0, .methodref 4 5), (0, .class_ 6), (0, .nameAndType 7 8), (0, u "java/lang/Object"), (0, u "<init>"), (0, u "()V"), (0, .class_ 10), (0, u "com/example/epicycle/epicycle/SlotRing$Slot"), (0, .fieldref 1 12), (0, .nameAndType 13 14), (0, u "slots"), (0, u "[Lcom/example/epicycle/epicycle/SlotRing$Slot;"), (0, .fieldref 1 16), (0, .nameAndType 17 18), (0, u "level"), (0, u "I"), (0, .fieldref 1 20), (0, .nameAndType 21 22), (0, u "table"), (0, u "Lcom/example/epicycle/epicycle/TimeoutTable;"), (0, .fieldref 1 24), (0, .nameAndType 25 26), (0, u "occupied"), (0, u "J"), (0, .methodref 28 29), (0, .class_ 30), (0, .nameAndType 31 32), (0, u "java/lang/Long"), (0, u "numberOfTrailingZeros"), (0, u "(J)I"), (0, .methodref 34 35), (0, .class_ 36), (0, .nameAndType 37 38), (0, u "com/example/epicycle/epicycle/Timeout"), (0, u "fireTick"), (0, u "()J"), (0, .methodref 1 40), (0, .nameAndType 41 42), (0, u "digit"), (0, u "(JI)I"), (0, .methodref 9 44), (0, .nameAndType 7 45), (0, u "(Lcom/example/epicycle/epicycle/TimeoutTable;)V"), (0, .fieldref 9 47), (0, .nameAndType 48 18), (0, u "count"), (0, .fieldref 9 50), (0, .nameAndType 51 52), (0, u "nested"), (0, u "Lcom/example/epicycle/epicycle/SlotRing;"), (0, .methodref 1 54), (0, .nameAndType 55 56), (0, u "add"), (0, u "(Lcom/example/epicycle/epicycle/Timeout;)V"), (0, .methodref 9 58), (0, .nameAndType 59 60), (0, u "isEmpty"), (0, u "()Z"), (0, .fieldref 9 62), (0, .nameAndType 63 26), (0, u "earliest"), (0, .methodref 9 65), (0, .nameAndType 66 56), (0, u "append"), (15, .long 18446744073709551615), (1, .methodref 1 85), (0, .nameAndType 86 87), (0, u "holds"), (0, u "(Lcom/example/epicycle/epicycle/Timeout;)Z"), (0, .methodref 9 85), (2, u "firstOccupied"), (0, u "()I"), (17, u "(ILcom/example/epicycle/epicycle/TimeoutTable;)V"), (4, u "DIGIT_BITS"), (2, u "SLOTS"), (1, u "SPLIT_ABOVE"), (1, u "MERGE_BELOW"), (1, u "DIGIT_MASK"), (6, u "take"), (0, u "(I)Lcom/example/epicycle/epicycle/TimeoutList;")] 8

def k11c0 : Code := { maxStack := 2, maxLocals := 3, code := prog_7_method_1_code, exceptionTable := #[], attributes := #[] }
def k11m0 : Method := { name := "<init>", desc := "(ILcom/example/epicycle/epicycle/TimeoutTable;)V", sig := { parameters := [.int, (.object "com/example/epicycle/epicycle/TimeoutTable")], returnType := none }, accessFlags := 0, code := some k11c0 }
def k11c1 : Code := { maxStack := 4, maxLocals := 3, code := prog_7_method_2_code, exceptionTable := #[], attributes := #[] }
def k11m1 : Method := { name := "digit", desc := "(JI)I", sig := { parameters := [.long, .int], returnType := some .int }, accessFlags := 8, code := some k11c1 }
def k11c2 : Code := { maxStack := 4, maxLocals := 1, code := prog_7_method_4_code, exceptionTable := #[], attributes := #[] }
def k11m2 : Method := { name := "firstOccupied", desc := "()I", sig := { parameters := [], returnType := some .int }, accessFlags := 0, code := some k11c2 }
def k11c3 : Code := { maxStack := 6, maxLocals := 4, code := prog_7_method_5_code, exceptionTable := #[], attributes := #[] }
def k11m3 : Method := { name := "add", desc := "(Lcom/example/epicycle/epicycle/Timeout;)V", sig := { parameters := [(.object "com/example/epicycle/epicycle/Timeout")], returnType := none }, accessFlags := 0, code := some k11c3 }
def k11c4 : Code := { maxStack := 4, maxLocals := 4, code := prog_7_method_7_code, exceptionTable := #[], attributes := #[] }
def k11m4 : Method := { name := "holds", desc := "(Lcom/example/epicycle/epicycle/Timeout;)Z", sig := { parameters := [(.object "com/example/epicycle/epicycle/Timeout")], returnType := some .boolean }, accessFlags := 0, code := some k11c4 }
def k11c5 : Code := { maxStack := 7, maxLocals := 3, code := prog_7_method_11_code, exceptionTable := #[], attributes := #[] }
def k11m5 : Method := { name := "take", desc := "(I)Lcom/example/epicycle/epicycle/TimeoutList;", sig := { parameters := [.int], returnType := some (.object "com/example/epicycle/epicycle/TimeoutList") }, accessFlags := 0, code := some k11c5 }
/-- com/example/epicycle/epicycle/SlotRing -/
def k11 : Class := { plain "com/example/epicycle/epicycle/SlotRing" (some 0) with
  accessFlags := 32
  interfaces := #[]
  cf := some (fileOf pool11 1 #[.nestMembers #[9]] #[{ accessFlags := 0, nameIndex := 7, descriptorIndex := 110, attributes := #[] }, { accessFlags := 8, nameIndex := 41, descriptorIndex := 42, attributes := #[] }, { accessFlags := 0, nameIndex := 91, descriptorIndex := 92, attributes := #[] }, { accessFlags := 0, nameIndex := 55, descriptorIndex := 56, attributes := #[] }, { accessFlags := 0, nameIndex := 86, descriptorIndex := 87, attributes := #[] }, { accessFlags := 0, nameIndex := 131, descriptorIndex := 132, attributes := #[] }] 32 4 #[] #[{ accessFlags := 24, nameIndex := 115, descriptorIndex := 18, attributes := #[] }, { accessFlags := 24, nameIndex := 118, descriptorIndex := 18, attributes := #[] }, { accessFlags := 24, nameIndex := 120, descriptorIndex := 18, attributes := #[] }, { accessFlags := 24, nameIndex := 122, descriptorIndex := 18, attributes := #[] }, { accessFlags := 26, nameIndex := 124, descriptorIndex := 18, attributes := #[] }, { accessFlags := 18, nameIndex := 17, descriptorIndex := 18, attributes := #[] }, { accessFlags := 18, nameIndex := 21, descriptorIndex := 22, attributes := #[] }, { accessFlags := 18, nameIndex := 13, descriptorIndex := 14, attributes := #[] }, { accessFlags := 2, nameIndex := 25, descriptorIndex := 26, attributes := #[] }])
  fields := #[{ name := "DIGIT_BITS", type := .int, accessFlags := 24, slot := 0, constantValue := 0 }, { name := "SLOTS", type := .int, accessFlags := 24, slot := 1, constantValue := 0 }, { name := "SPLIT_ABOVE", type := .int, accessFlags := 24, slot := 2, constantValue := 0 }, { name := "MERGE_BELOW", type := .int, accessFlags := 24, slot := 3, constantValue := 0 }, { name := "DIGIT_MASK", type := .int, accessFlags := 26, slot := 4, constantValue := 0 }, { name := "level", type := .int, accessFlags := 18, slot := 0, constantValue := 0 }, { name := "table", type := (.object "com/example/epicycle/epicycle/TimeoutTable"), accessFlags := 18, slot := 1, constantValue := 0 }, { name := "slots", type := (.array (.object "com/example/epicycle/epicycle/SlotRing$Slot")), accessFlags := 18, slot := 2, constantValue := 0 }, { name := "occupied", type := .long, accessFlags := 2, slot := 3, constantValue := 0 }]
  methods := #[k11m0, k11m1, k11m2, k11m3, k11m4, k11m5]
  instanceTypes := #[.int, (.object "com/example/epicycle/epicycle/TimeoutTable"), (.array (.object "com/example/epicycle/epicycle/SlotRing$Slot")), .long]
  staticTypes := #[.int, .int, .int, .int, .int]
  resolved := Array.replicate 141 none
  statics := none }

def pool12 : Array CpInfo := pool [(1, .class_ 2), (0, u "com/example/epicycle/epicycle/TimeoutTable"), (0, .methodref 4 5), (0, .class_ 6), (0, .nameAndType 7 8), (0, u "java/lang/Object"), (0, u "<init>"), (0, u "()V"), (0, .class_ 10), (0, u "com/example/epicycle/epicycle/TimeoutList"), (0, .fieldref 9 12), (0, .nameAndType 13 14), (0, u "head"), (0, u "I"), (0, .fieldref 9 16), (0, .nameAndType 17 14), (0, u "tail"), (0, .fieldref 9 19), (0, .nameAndType 20 21), (0, u "table"), (0, u "Lcom/example/epicycle/epicycle/TimeoutTable;"), (0, .methodref 9 23), (0, .nameAndType 24 25), (0, u "timeoutAt"), (0, u "(I)Lcom/example/epicycle/epicycle/Timeout;"), (0, .fieldref 27 28), (0, .class_ 29), (0, .nameAndType 30 14), (0, u "com/example/epicycle/epicycle/Timeout"), (0, u "next"), (0, .fieldref 27 32), (0, .nameAndType 33 14), (0, u "prev"), (0, .methodref 1 35), (0, .nameAndType 36 37), (0, u "add"), (0, u "(Lcom/example/epicycle/epicycle/Timeout;)I"), (0, .methodref 1 39), (0, .nameAndType 40 25), (0, u "get"), (10, u "NONE"), (2, u "(Lcom/example/epicycle/epicycle/TimeoutTable;)V"), (2, u "isEmpty"), (0, u "()Z"), (1, u "first"), (0, u "()Lcom/example/epicycle/epicycle/Timeout;"), (0, u "last"), (2, u "append"), (0, u "(Lcom/example/epicycle/epicycle/Timeout;)V"), (6, u "holds"), (0, u "(Lcom/example/epicycle/epicycle/Timeout;)Z")] 2

def k12c0 : Code := { maxStack := 2, maxLocals := 2, code := prog_13_method_1_code, exceptionTable := #[], attributes := #[] }
def k12m0 : Method := { name := "<init>", desc := "(Lcom/example/epicycle/epicycle/TimeoutTable;)V", sig := { parameters := [(.object "com/example/epicycle/epicycle/TimeoutTable")], returnType := none }, accessFlags := 0, code := some k12c0 }
def k12c1 : Code := { maxStack := 1, maxLocals := 1, code := prog_13_method_2_code, exceptionTable := #[], attributes := #[] }
def k12m1 : Method := { name := "isEmpty", desc := "()Z", sig := { parameters := [], returnType := some .boolean }, accessFlags := 0, code := some k12c1 }
def k12c2 : Code := { maxStack := 2, maxLocals := 1, code := prog_13_method_3_code, exceptionTable := #[], attributes := #[] }
def k12m2 : Method := { name := "first", desc := "()Lcom/example/epicycle/epicycle/Timeout;", sig := { parameters := [], returnType := some (.object "com/example/epicycle/epicycle/Timeout") }, accessFlags := 0, code := some k12c2 }
def k12c3 : Code := { maxStack := 2, maxLocals := 1, code := prog_13_method_4_code, exceptionTable := #[], attributes := #[] }
def k12m3 : Method := { name := "last", desc := "()Lcom/example/epicycle/epicycle/Timeout;", sig := { parameters := [], returnType := some (.object "com/example/epicycle/epicycle/Timeout") }, accessFlags := 0, code := some k12c3 }
def k12c4 : Code := { maxStack := 2, maxLocals := 3, code := prog_13_method_7_code, exceptionTable := #[], attributes := #[] }
def k12m4 : Method := { name := "append", desc := "(Lcom/example/epicycle/epicycle/Timeout;)V", sig := { parameters := [(.object "com/example/epicycle/epicycle/Timeout")], returnType := none }, accessFlags := 0, code := some k12c4 }
def k12c5 : Code := { maxStack := 2, maxLocals := 2, code := prog_13_method_11_code, exceptionTable := #[], attributes := #[] }
def k12m5 : Method := { name := "holds", desc := "(Lcom/example/epicycle/epicycle/Timeout;)Z", sig := { parameters := [(.object "com/example/epicycle/epicycle/Timeout")], returnType := some .boolean }, accessFlags := 0, code := some k12c5 }
def k12c6 : Code := { maxStack := 2, maxLocals := 2, code := prog_13_method_12_code, exceptionTable := #[], attributes := #[] }
def k12m6 : Method := { name := "timeoutAt", desc := "(I)Lcom/example/epicycle/epicycle/Timeout;", sig := { parameters := [.int], returnType := some (.object "com/example/epicycle/epicycle/Timeout") }, accessFlags := 2, code := some k12c6 }
/-- com/example/epicycle/epicycle/TimeoutList -/
def k12 : Class := { plain "com/example/epicycle/epicycle/TimeoutList" (some 0) with
  accessFlags := 32
  interfaces := #[]
  cf := some (fileOf pool12 9 #[] #[{ accessFlags := 0, nameIndex := 7, descriptorIndex := 54, attributes := #[] }, { accessFlags := 0, nameIndex := 57, descriptorIndex := 58, attributes := #[] }, { accessFlags := 0, nameIndex := 60, descriptorIndex := 61, attributes := #[] }, { accessFlags := 0, nameIndex := 62, descriptorIndex := 61, attributes := #[] }, { accessFlags := 0, nameIndex := 65, descriptorIndex := 66, attributes := #[] }, { accessFlags := 0, nameIndex := 73, descriptorIndex := 74, attributes := #[] }, { accessFlags := 2, nameIndex := 24, descriptorIndex := 25, attributes := #[] }] 32 4 #[] #[{ accessFlags := 26, nameIndex := 51, descriptorIndex := 14, attributes := #[] }, { accessFlags := 18, nameIndex := 20, descriptorIndex := 21, attributes := #[] }, { accessFlags := 2, nameIndex := 13, descriptorIndex := 14, attributes := #[] }, { accessFlags := 2, nameIndex := 17, descriptorIndex := 14, attributes := #[] }])
  fields := #[{ name := "NONE", type := .int, accessFlags := 26, slot := 0, constantValue := 0 }, { name := "table", type := (.object "com/example/epicycle/epicycle/TimeoutTable"), accessFlags := 18, slot := 0, constantValue := 0 }, { name := "head", type := .int, accessFlags := 2, slot := 1, constantValue := 0 }, { name := "tail", type := .int, accessFlags := 2, slot := 2, constantValue := 0 }]
  methods := #[k12m0, k12m1, k12m2, k12m3, k12m4, k12m5, k12m6]
  instanceTypes := #[(.object "com/example/epicycle/epicycle/TimeoutTable"), .int, .int]
  staticTypes := #[.int]
  resolved := Array.replicate 77 none
  statics := none }

def pool13 : Array CpInfo := pool [(1, .methodref 2 3), (0, .class_ 4), (0, .nameAndType 5 6), (0, u "com/example/epicycle/epicycle/TimeoutList"), (0, u "<init>"), (0, u "(Lcom/example/epicycle/epicycle/TimeoutTable;)V"), (1, .class_ 10), (1, u "com/example/epicycle/epicycle/SlotRing$Slot"), (14, u "earliest"), (0, u "J"), (2, u "stale"), (0, u "Z"), (0, u "count"), (0, u "I"), (0, u "nested"), (0, u "Lcom/example/epicycle/epicycle/SlotRing;"), (7, .class_ 43), (0, u "com/example/epicycle/epicycle/SlotRing")] 2

def k13c0 : Code := { maxStack := 2, maxLocals := 2, code := prog_8_method_1_code, exceptionTable := #[], attributes := #[] }
def k13m0 : Method := { name := "<init>", desc := "(Lcom/example/epicycle/epicycle/TimeoutTable;)V", sig := { parameters := [(.object "com/example/epicycle/epicycle/TimeoutTable")], returnType := none }, accessFlags := 0, code := some k13c0 }
/-- com/example/epicycle/epicycle/SlotRing$Slot -/
def k13 : Class := { plain "com/example/epicycle/epicycle/SlotRing$Slot" (some 12) with
  accessFlags := 32
  interfaces := #[]
  cf := some (fileOf pool13 8 #[.nestHost 42] #[{ accessFlags := 0, nameIndex := 5, descriptorIndex := 6, attributes := #[] }] 32 2 #[] #[{ accessFlags := 0, nameIndex := 31, descriptorIndex := 32, attributes := #[] }, { accessFlags := 0, nameIndex := 33, descriptorIndex := 34, attributes := #[] }, { accessFlags := 0, nameIndex := 25, descriptorIndex := 26, attributes := #[] }, { accessFlags := 0, nameIndex := 29, descriptorIndex := 30, attributes := #[] }])
  fields := #[{ name := "count", type := .int, accessFlags := 0, slot := 3, constantValue := 0 }, { name := "nested", type := (.object "com/example/epicycle/epicycle/SlotRing"), accessFlags := 0, slot := 4, constantValue := 0 }, { name := "earliest", type := .long, accessFlags := 0, slot := 5, constantValue := 0 }, { name := "stale", type := .boolean, accessFlags := 0, slot := 6, constantValue := 0 }]
  methods := #[k13m0]
  instanceTypes := #[(.object "com/example/epicycle/epicycle/TimeoutTable"), .int, .int, .int, (.object "com/example/epicycle/epicycle/SlotRing"), .long, .boolean]
  staticTypes := #[]
  resolved := Array.replicate 46 none
  statics := none }

def pool14 : Array CpInfo := pool [(1, .methodref 2 3), (0, .class_ 4), (0, .nameAndType 5 6), (0, u "java/lang/Object"), (0, u "<init>"), (0, u "()V"), (0, .fieldref 8 9), (0, .class_ 10), (0, .nameAndType 11 12), (0, u "com/example/epicycle/epicycle/Timeout"), (0, u "holder"), (0, u "Lcom/example/epicycle/epicycle/Timeout$Holder;"), (0, .fieldref 8 14), (0, .nameAndType 15 16), (0, u "task"), (0, u "Ljava/lang/Runnable;"), (0, .fieldref 8 18), (0, .nameAndType 19 20), (0, u "fireTick"), (0, u "J"), (6, u "state"), (0, u "I"), (2, u "STATE"), (0, u "Ljava/lang/invoke/VarHandle;"), (7, .class_ 42), (1, u "com/example/epicycle/epicycle/Timeout$Holder"), (28, u "PENDING"), (2, u "ADMITTED"), (1, u "CANCELLED"), (1, u "EXPIRED"), (1, u "WITHDRAWN"), (1, u "prev"), (0, u "next"), (0, u "(Lcom/example/epicycle/epicycle/Timeout$Holder;Ljava/lang/Runnable;J)V"), (8, u "()J")] 10

def k14c0 : Code := { maxStack := 3, maxLocals := 5, code := prog_11_method_1_code, exceptionTable := #[], attributes := #[] }
def k14m0 : Method := { name := "<init>", desc := "(Lcom/example/epicycle/epicycle/Timeout$Holder;Ljava/lang/Runnable;J)V", sig := { parameters := [(.object "com/example/epicycle/epicycle/Timeout$Holder"), (.object "java/lang/Runnable"), .long], returnType := none }, accessFlags := 0, code := some k14c0 }
def k14c1 : Code := { maxStack := 2, maxLocals := 1, code := prog_11_method_6_code, exceptionTable := #[], attributes := #[] }
def k14m1 : Method := { name := "fireTick", desc := "()J", sig := { parameters := [], returnType := some .long }, accessFlags := 0, code := some k14c1 }
/-- com/example/epicycle/epicycle/Timeout -/
def k14 : Class := { plain "com/example/epicycle/epicycle/Timeout" (some 0) with
  accessFlags := 33
  interfaces := #[]
  cf := some (fileOf pool14 8 #[.nestMembers #[40]] #[{ accessFlags := 0, nameIndex := 5, descriptorIndex := 84, attributes := #[] }, { accessFlags := 0, nameIndex := 19, descriptorIndex := 93, attributes := #[] }] 33 2 #[] #[{ accessFlags := 26, nameIndex := 71, descriptorIndex := 28, attributes := #[] }, { accessFlags := 26, nameIndex := 74, descriptorIndex := 28, attributes := #[] }, { accessFlags := 26, nameIndex := 76, descriptorIndex := 28, attributes := #[] }, { accessFlags := 26, nameIndex := 78, descriptorIndex := 28, attributes := #[] }, { accessFlags := 26, nameIndex := 80, descriptorIndex := 28, attributes := #[] }, { accessFlags := 26, nameIndex := 31, descriptorIndex := 32, attributes := #[] }, { accessFlags := 18, nameIndex := 11, descriptorIndex := 12, attributes := #[] }, { accessFlags := 18, nameIndex := 15, descriptorIndex := 16, attributes := #[] }, { accessFlags := 18, nameIndex := 19, descriptorIndex := 20, attributes := #[] }, { accessFlags := 66, nameIndex := 27, descriptorIndex := 28, attributes := #[] }, { accessFlags := 0, nameIndex := 82, descriptorIndex := 28, attributes := #[] }, { accessFlags := 0, nameIndex := 83, descriptorIndex := 28, attributes := #[] }])
  fields := #[{ name := "PENDING", type := .int, accessFlags := 26, slot := 0, constantValue := 0 }, { name := "ADMITTED", type := .int, accessFlags := 26, slot := 1, constantValue := 0 }, { name := "CANCELLED", type := .int, accessFlags := 26, slot := 2, constantValue := 0 }, { name := "EXPIRED", type := .int, accessFlags := 26, slot := 3, constantValue := 0 }, { name := "WITHDRAWN", type := .int, accessFlags := 26, slot := 4, constantValue := 0 }, { name := "STATE", type := (.object "java/lang/invoke/VarHandle"), accessFlags := 26, slot := 5, constantValue := 0 }, { name := "holder", type := (.object "com/example/epicycle/epicycle/Timeout$Holder"), accessFlags := 18, slot := 0, constantValue := 0 }, { name := "task", type := (.object "java/lang/Runnable"), accessFlags := 18, slot := 1, constantValue := 0 }, { name := "fireTick", type := .long, accessFlags := 18, slot := 2, constantValue := 0 }, { name := "state", type := .int, accessFlags := 66, slot := 3, constantValue := 0 }, { name := "prev", type := .int, accessFlags := 0, slot := 4, constantValue := 0 }, { name := "next", type := .int, accessFlags := 0, slot := 5, constantValue := 0 }]
  methods := #[k14m0, k14m1]
  instanceTypes := #[(.object "com/example/epicycle/epicycle/Timeout$Holder"), (.object "java/lang/Runnable"), .long, .int, .int, .int]
  staticTypes := #[.int, .int, .int, .int, .int, (.object "java/lang/invoke/VarHandle")]
  resolved := Array.replicate 104 none
  statics := none }

def pool15 : Array CpInfo := pool [(2, .class_ 4), (1, u "java/lang/Object"), (0, u "<init>"), (0, u "()V"), (35, .class_ 44), (1, u "java/util/Objects"), (60, .methodref 106 107), (0, .class_ 108), (0, .nameAndType 109 110), (0, u "jdk/internal/util/Preconditions"), (0, u "checkIndex"), (0, u "(IILjava/util/function/BiFunction;)I"), (60, u "(II)I")] 12

def k15m0 : Method := { name := "<init>", desc := "()V", sig := { parameters := [], returnType := none }, accessFlags := 2, code := none }
def k15c1 : Code := { maxStack := 3, maxLocals := 2, code := jdk_31_method_17_code, exceptionTable := #[], attributes := #[] }
def k15m1 : Method := { name := "checkIndex", desc := "(II)I", sig := { parameters := [.int, .int], returnType := some .int }, accessFlags := 9, code := some k15c1 }
/-- java/util/Objects -/
def k15 : Class := { plain "java/util/Objects" (some 0) with
  accessFlags := 49
  interfaces := #[]
  cf := some (fileOf pool15 42 #[] #[{ accessFlags := 2, nameIndex := 5, descriptorIndex := 6, attributes := #[] }, { accessFlags := 9, nameIndex := 109, descriptorIndex := 171, attributes := #[] }] 49 2 #[] #[])
  fields := #[]
  methods := #[k15m0, k15m1]
  instanceTypes := #[]
  staticTypes := #[]
  resolved := Array.replicate 184 none
  statics := none }

def pool16 : Array CpInfo := pool [(2, .class_ 4), (1, u "java/lang/Object"), (0, u "<init>"), (0, u "()V"), (17, .class_ 26), (1, u "jdk/internal/util/Preconditions"), (6, u "checkIndex"), (21, .class_ 56), (0, u "jdk/internal/util/Preconditions$4"), (57, .class_ 115), (0, u "jdk/internal/util/Preconditions$1"), (7, u "SIOOBE_FORMATTER"), (0, u "Ljava/util/function/BiFunction;"), (0, .class_ 126), (0, u "jdk/internal/util/Preconditions$2"), (3, u "AIOOBE_FORMATTER"), (0, .class_ 132), (0, u "jdk/internal/util/Preconditions$3"), (3, u "IOOBE_FORMATTER"), (41, u "(IILjava/util/function/BiFunction;)I")] 15

def k16m0 : Method := { name := "<init>", desc := "()V", sig := { parameters := [], returnType := none }, accessFlags := 1, code := none }
def k16c1 : Code := { maxStack := 3, maxLocals := 3, code := jdk_41_method_11_code, exceptionTable := #[], attributes := #[] }
def k16m1 : Method := { name := "checkIndex", desc := "(IILjava/util/function/BiFunction;)I", sig := { parameters := [.int, .int, (.object "java/util/function/BiFunction")], returnType := some .int }, accessFlags := 9, code := some k16c1 }
/-- jdk/internal/util/Preconditions -/
def k16 : Class := { plain "jdk/internal/util/Preconditions" (some 0) with
  accessFlags := 33
  interfaces := #[]
  cf := some (fileOf pool16 24 #[.nestMembers #[55, 131, 125, 114]] #[{ accessFlags := 1, nameIndex := 5, descriptorIndex := 6, attributes := #[] }, { accessFlags := 9, nameIndex := 33, descriptorIndex := 178, attributes := #[] }] 33 2 #[] #[{ accessFlags := 25, nameIndex := 123, descriptorIndex := 124, attributes := #[] }, { accessFlags := 25, nameIndex := 130, descriptorIndex := 124, attributes := #[] }, { accessFlags := 25, nameIndex := 136, descriptorIndex := 124, attributes := #[] }])
  fields := #[{ name := "SIOOBE_FORMATTER", type := (.object "java/util/function/BiFunction"), accessFlags := 25, slot := 0, constantValue := 0 }, { name := "AIOOBE_FORMATTER", type := (.object "java/util/function/BiFunction"), accessFlags := 25, slot := 1, constantValue := 0 }, { name := "IOOBE_FORMATTER", type := (.object "java/util/function/BiFunction"), accessFlags := 25, slot := 2, constantValue := 0 }]
  methods := #[k16m0, k16m1]
  instanceTypes := #[]
  staticTypes := #[(.object "java/util/function/BiFunction"), (.object "java/util/function/BiFunction"), (.object "java/util/function/BiFunction")]
  resolved := Array.replicate 194 none
  statics := none }

def pool17 : Array CpInfo := pool [(1, .class_ 2), (0, u "java/io/Serializable"), (0, .class_ 4), (0, u "java/lang/Object")] 2

/-- java/io/Serializable -/
def k17 : Class := { plain "java/io/Serializable" (some 0) with
  accessFlags := 1537
  interfaces := #[]
  cf := some (fileOf pool17 1 #[] #[] 1537 3 #[] #[])
  fields := #[]
  methods := #[]
  instanceTypes := #[]
  staticTypes := #[]
  resolved := Array.replicate 7 none
  statics := none }

def pool18 : Array CpInfo := pool [(2, .class_ 4), (1, u "java/lang/Object"), (0, u "<init>"), (0, u "()V"), (1, .class_ 10), (1, u "java/lang/Number"), (2, .class_ 14), (0, u "java/io/Serializable"), (0, u "serialVersionUID"), (0, u "J")] 20

def k18m0 : Method := { name := "<init>", desc := "()V", sig := { parameters := [], returnType := none }, accessFlags := 1, code := none }
/-- java/lang/Number -/
def k18 : Class := { plain "java/lang/Number" (some 0) with
  accessFlags := 1057
  interfaces := #[17]
  cf := some (fileOf pool18 8 #[] #[{ accessFlags := 1, nameIndex := 5, descriptorIndex := 6, attributes := #[] }] 1057 2 #[13] #[{ accessFlags := 26, nameIndex := 15, descriptorIndex := 16, attributes := #[] }])
  fields := #[{ name := "serialVersionUID", type := .long, accessFlags := 26, slot := 0, constantValue := 0 }]
  methods := #[k18m0]
  instanceTypes := #[]
  staticTypes := #[.long]
  resolved := Array.replicate 37 none
  statics := none }

def pool19 : Array CpInfo := pool [(1, .class_ 2), (0, u "java/lang/Comparable"), (0, .class_ 4), (0, u "java/lang/Object")] 7

/-- java/lang/Comparable -/
def k19 : Class := { plain "java/lang/Comparable" (some 0) with
  accessFlags := 1537
  interfaces := #[]
  cf := some (fileOf pool19 1 #[] #[] 1537 3 #[] #[])
  fields := #[]
  methods := #[]
  instanceTypes := #[]
  staticTypes := #[]
  resolved := Array.replicate 12 none
  statics := none }

def pool20 : Array CpInfo := pool [(1, .class_ 2), (0, u "java/lang/constant/Constable"), (0, .class_ 4), (0, u "java/lang/Object")] 6

/-- java/lang/constant/Constable -/
def k20 : Class := { plain "java/lang/constant/Constable" (some 0) with
  accessFlags := 1537
  interfaces := #[]
  cf := some (fileOf pool20 1 #[] #[] 1537 3 #[] #[])
  fields := #[]
  methods := #[]
  instanceTypes := #[]
  staticTypes := #[]
  resolved := Array.replicate 11 none
  statics := none }

def pool21 : Array CpInfo := pool [(1, .class_ 2), (0, u "java/lang/constant/ConstantDesc"), (0, .class_ 4), (0, u "java/lang/Object")] 32

/-- java/lang/constant/ConstantDesc -/
def k21 : Class := { plain "java/lang/constant/ConstantDesc" (some 0) with
  accessFlags := 1537
  interfaces := #[]
  cf := some (fileOf pool21 1 #[] #[] 1537 3 #[] #[])
  fields := #[]
  methods := #[]
  instanceTypes := #[]
  staticTypes := #[]
  resolved := Array.replicate 37 none
  statics := none }

def pool22 : Array CpInfo := pool [(1, .class_ 2), (0, u "java/lang/Long"), (15, .class_ 20), (1, u "java/lang/Integer"), (80, u "(J)I"), (133, .class_ 237), (1, u "java/lang/Long$LongCache"), (33, .class_ 272), (0, u "java/lang/Number"), (2, u "value"), (0, u "J"), (33, u "(I)I"), (0, .methodref 18 312), (0, .nameAndType 313 310), (0, u "numberOfTrailingZeros"), (47, u "TYPE"), (0, u "Ljava/lang/Class;"), (0, .class_ 364), (0, u "java/lang/Comparable"), (0, .class_ 366), (0, u "java/lang/constant/Constable"), (0, .class_ 368), (0, u "java/lang/constant/ConstantDesc"), (0, u "MIN_VALUE"), (1, u "MAX_VALUE"), (4, u "SIZE"), (0, u "I"), (1, u "BYTES"), (1, u "serialVersionUID")] 142

def k22c0 : Code := { maxStack := 4, maxLocals := 3, code := jdk_35_method_49_code, exceptionTable := #[], attributes := #[] }
def k22m0 : Method := { name := "numberOfTrailingZeros", desc := "(J)I", sig := { parameters := [.long], returnType := some .int }, accessFlags := 9, code := some k22c0 }
/-- java/lang/Long -/
def k22 : Class := { plain "java/lang/Long" (some 18) with
  accessFlags := 49
  interfaces := #[19, 20, 21]
  cf := some (fileOf pool22 1 #[.nestMembers #[235]] #[{ accessFlags := 9, nameIndex := 313, descriptorIndex := 101, attributes := #[] }] 49 271 #[363, 365, 367] #[{ accessFlags := 25, nameIndex := 369, descriptorIndex := 276, attributes := #[] }, { accessFlags := 25, nameIndex := 371, descriptorIndex := 276, attributes := #[] }, { accessFlags := 25, nameIndex := 361, descriptorIndex := 362, attributes := #[] }, { accessFlags := 18, nameIndex := 275, descriptorIndex := 276, attributes := #[] }, { accessFlags := 25, nameIndex := 376, descriptorIndex := 377, attributes := #[] }, { accessFlags := 25, nameIndex := 379, descriptorIndex := 377, attributes := #[] }, { accessFlags := 26, nameIndex := 381, descriptorIndex := 276, attributes := #[] }])
  fields := #[{ name := "MIN_VALUE", type := .long, accessFlags := 25, slot := 0, constantValue := 0 }, { name := "MAX_VALUE", type := .long, accessFlags := 25, slot := 1, constantValue := 0 }, { name := "TYPE", type := (.object "java/lang/Class"), accessFlags := 25, slot := 2, constantValue := 0 }, { name := "value", type := .long, accessFlags := 18, slot := 0, constantValue := 0 }, { name := "SIZE", type := .int, accessFlags := 25, slot := 3, constantValue := 0 }, { name := "BYTES", type := .int, accessFlags := 25, slot := 4, constantValue := 0 }, { name := "serialVersionUID", type := .long, accessFlags := 26, slot := 5, constantValue := 0 }]
  methods := #[k22m0]
  instanceTypes := #[.long]
  staticTypes := #[.long, .long, (.object "java/lang/Class"), .int, .int, .long]
  resolved := Array.replicate 524 none
  statics := none }

def pool23 : Array CpInfo := pool [(1, .class_ 2), (0, u "java/lang/Integer"), (16, u "digits"), (0, u "[C"), (33, u "(I)I"), (30, u "DigitOnes"), (0, u "[B"), (2, u "DigitTens"), (99, .class_ 190), (0, u "java/lang/Integer$IntegerCache"), (3, u "I"), (8, .class_ 204), (0, u "java/lang/Number"), (2, u "value"), (56, .integer 65536), (37, u "TYPE"), (0, u "Ljava/lang/Class;"), (0, .class_ 305), (0, u "java/lang/Comparable"), (0, .class_ 307), (0, u "java/lang/constant/Constable"), (0, .class_ 309), (0, u "java/lang/constant/ConstantDesc"), (0, u "MIN_VALUE"), (1, u "MAX_VALUE"), (3, u "SIZE"), (1, u "BYTES"), (1, u "serialVersionUID"), (0, u "J"), (84, u "numberOfTrailingZeros")] 46

def k23c0 : Code := { maxStack := 3, maxLocals := 2, code := jdk_33_method_48_code, exceptionTable := #[], attributes := #[] }
def k23m0 : Method := { name := "numberOfTrailingZeros", desc := "(I)I", sig := { parameters := [.int], returnType := some .int }, accessFlags := 9, code := some k23c0 }
/-- java/lang/Integer -/
def k23 : Class := { plain "java/lang/Integer" (some 18) with
  accessFlags := 49
  interfaces := #[19, 20, 21]
  cf := some (fileOf pool23 1 #[.nestMembers #[189]] #[{ accessFlags := 9, nameIndex := 406, descriptorIndex := 54, attributes := #[] }] 49 203 #[304, 306, 308] #[{ accessFlags := 25, nameIndex := 310, descriptorIndex := 194, attributes := #[] }, { accessFlags := 25, nameIndex := 312, descriptorIndex := 194, attributes := #[] }, { accessFlags := 25, nameIndex := 302, descriptorIndex := 303, attributes := #[] }, { accessFlags := 24, nameIndex := 19, descriptorIndex := 20, attributes := #[] }, { accessFlags := 24, nameIndex := 89, descriptorIndex := 86, attributes := #[] }, { accessFlags := 24, nameIndex := 85, descriptorIndex := 86, attributes := #[] }, { accessFlags := 18, nameIndex := 207, descriptorIndex := 194, attributes := #[] }, { accessFlags := 25, nameIndex := 316, descriptorIndex := 194, attributes := #[] }, { accessFlags := 25, nameIndex := 318, descriptorIndex := 194, attributes := #[] }, { accessFlags := 26, nameIndex := 320, descriptorIndex := 321, attributes := #[] }])
  fields := #[{ name := "MIN_VALUE", type := .int, accessFlags := 25, slot := 0, constantValue := 0 }, { name := "MAX_VALUE", type := .int, accessFlags := 25, slot := 1, constantValue := 0 }, { name := "TYPE", type := (.object "java/lang/Class"), accessFlags := 25, slot := 2, constantValue := 0 }, { name := "digits", type := (.array .char), accessFlags := 24, slot := 3, constantValue := 0 }, { name := "DigitTens", type := (.array .byte), accessFlags := 24, slot := 4, constantValue := 0 }, { name := "DigitOnes", type := (.array .byte), accessFlags := 24, slot := 5, constantValue := 0 }, { name := "value", type := .int, accessFlags := 18, slot := 0, constantValue := 0 }, { name := "SIZE", type := .int, accessFlags := 25, slot := 6, constantValue := 0 }, { name := "BYTES", type := .int, accessFlags := 25, slot := 7, constantValue := 0 }, { name := "serialVersionUID", type := .long, accessFlags := 26, slot := 8, constantValue := 0 }]
  methods := #[k23m0]
  instanceTypes := #[.int]
  staticTypes := #[.int, .int, (.object "java/lang/Class"), (.array .char), (.array .byte), (.array .byte), .int, .int, .long]
  resolved := Array.replicate 453 none
  statics := none }

def pool24 : Array CpInfo := pool [(1, u "java/lang/Cloneable"), (0, .class_ 1), (0, u "java/lang/Object"), (0, .class_ 3)] 3

/-- java/lang/Cloneable -/
def k24 : Class := { plain "java/lang/Cloneable" (some 0) with
  accessFlags := 1537
  interfaces := #[]
  cf := some (fileOf pool24 2 #[] #[] 1537 4 #[] #[])
  fields := #[]
  methods := #[]
  instanceTypes := #[]
  staticTypes := #[]
  resolved := Array.replicate 8 none
  statics := none }

/-- the primitive byte -/
def k25 : Class := { plain "byte" none with kind := .primitive 'B', accessFlags := 0x411 }
/-- [B -/
def k26 : Class := { plain "[B" (some 0) with kind := .array 25 .byte, interfaces := #[24, 17], accessFlags := 1041 }

/-- the primitive int -/
def k27 : Class := { plain "int" none with kind := .primitive 'I', accessFlags := 0x411 }
/-- [I -/
def k28 : Class := { plain "[I" (some 0) with kind := .array 27 .int, interfaces := #[24, 17], accessFlags := 1041 }

/-- the primitive long -/
def k29 : Class := { plain "long" none with kind := .primitive 'J', accessFlags := 0x411 }
/-- [J -/
def k30 : Class := { plain "[J" (some 0) with kind := .array 29 .long, interfaces := #[24, 17], accessFlags := 1041 }

/-- [Lcom/example/epicycle/epicycle/SlotRing$Slot; -/
def k31 : Class := { plain "[Lcom/example/epicycle/epicycle/SlotRing$Slot;" (some 0) with kind := .array 13 (.object "com/example/epicycle/epicycle/SlotRing$Slot"), interfaces := #[24, 17], accessFlags := 1041 }

/-- [Ljava/lang/Object; -/
def k32 : Class := { plain "[Ljava/lang/Object;" (some 0) with kind := .array 0 (.object "java/lang/Object"), interfaces := #[24, 17], accessFlags := 1041 }

def heap : Heap := #[]
/-- [[J -/
def k33 : Class := { plain "[[J" (some 0) with kind := .array 30 (.array .long), interfaces := #[24, 17], accessFlags := 1041 }
/-- [[Object -/
def k34 : Class := { plain "[[Ljava/lang/Object;" (some 0) with kind := .array 32 (.array (.object "java/lang/Object")), interfaces := #[24, 17], accessFlags := 1041 }
def classes : Array Class := #[k0, k1, k2, k3, k4, k5, k6, k7, k8, k9, k10, k11, k12, k13, k14, k15, k16, k17, k18, k19, k20, k21, k22, k23, k24, k25, k26, k27, k28, k29, k30, k31, k32, k33, k34]
def interned : List (Array UInt16 × Addr) := []
def slotsUsed : Nat := 0
def theMethod : MethodId := ⟨1, 2⟩
def args0 : Array Value := #[.int 5, .long 7, .long 3]
def aboutOver (below : List Frame) : State where
  vm := { classes := classes, interned := interned.toArray }
  heap := heap
  slotsUsed := slotsUsed
  threads := #[{ frames := .invoking theMethod args0 :: below }]
def below0 : List Frame := [.native { method := ⟨0, 0⟩, args := #[] }]
def about1 : State := aboutOver below0
def p0 : Program := .bare "" "" ""
def e0 : Env := launch0.env 0 0 0
theorem w_frames : about1.frames = Frame.invoking theMethod args0 :: below0 := rfl
set_option maxRecDepth 65536 in
theorem w_args : argsFit about1.vm theMethod args0 = true := by decide +kernel
set_option maxRecDepth 65536 in
theorem w_heap : heapFits about1 = true := by decide +kernel
set_option maxRecDepth 65536 in
theorem w_runnable : about1.curStatus? = some .runnable := by decide +kernel
set_option maxRecDepth 65536 in
theorem w_alone : about1.alone = true := by decide +kernel
set_option maxRecDepth 65536 in
theorem w_named : about1.methodNamed? x = some theMethod := by decide +kernel
set_option maxRecDepth 65536 in
theorem w_hears : about1.hears theMethod below0 = true := by decide +kernel
set_option maxRecDepth 65536 in
theorem w_ripe : about1.ripe theMethod args0 below0 = true := by decide +kernel
theorem w_running : about1.status = .running := rfl
set_option maxRecDepth 65536 in
theorem w_room : about1.hasRoom e0.platform room_1 = true :=
  launch0.hasRoom_least _ room_1 (by decide +kernel) (by decide +kernel) (by decide +kernel) (by decide +kernel) (by decide +kernel) (by decide +kernel)
theorem allAtoms_all (ts : List Jvm.Cond) (a : Array Jvm.Value) (st : Jvm.State) : (allAtoms ts).before a st = ts.all (fun c => c.before a st) := by
  induction ts with
  | nil => rfl
  | cons c t ih =>
    show (Jvm.Cond.and c (allAtoms t)).before a st = _
    rw [Jvm.Cond.before_and, ih, List.all_cons]
def words1 : List Jvm.Cond := Jvm.Cond.code x code maxLocals ret :: tables_1
/-- a 'code' word, met by the world's own term for the bytes: nothing is compared byte by byte -/
theorem code_word {y : MethodName} {bytes : ByteArray} {mx : Nat} {rt : Option FieldType} {a : Array Value} {s : State} {m : MethodId} {meth : Method} {c : Code} (h1 : s.methodNamed? y = some m) (h2 : s.vm.method? m = some meth) (h3 : meth.code = some c) (h4 : c.code = bytes)
    (h5 : (c.maxLocals == mx && c.exceptionTable.isEmpty && decide (c.maxStack ≤ mostOperands) && decide (meth.sig.returnType = rt) && !meth.locks && decide (parseMethodDescriptor y.desc = some meth.sig)) = true) : (Jvm.Cond.code y bytes mx rt).before a s = true := by
  simp only [Bool.and_eq_true, beq_iff_eq, Bool.not_eq_true', decide_eq_true_eq] at h5
  obtain ⟨⟨⟨⟨⟨g1, g2⟩, g3⟩, g4⟩, g5⟩, g6⟩ := h5
  simp [Cond.before, Cond.holds, Cond.value, h1, h2, h3, h4, g1, g2, g3, g4, g5, g6]
def isCode : Jvm.Cond → Bool
  | .code _ _ _ _ => true
  | _ => false
theorem all_split {L : List Jvm.Cond} {P : Jvm.Cond → Bool} (h1 : L.all (fun c => isCode c || P c) = true) (h2 : ∀ c ∈ L.filter isCode, P c = true) : L.all P = true := by
  refine List.all_eq_true.mpr fun c hc => ?_
  have h := List.all_eq_true.mp h1 c hc
  rcases Bool.eq_false_or_eq_true (isCode c) with hi | hi
  · exact h2 c (List.mem_filter.mpr ⟨hc, hi⟩)
  · simpa [hi] using h
set_option maxRecDepth 65536 in
theorem w_c0 : (Jvm.Cond.code x code maxLocals ret).before args0 about1 = true := code_word (m := ⟨1, 2⟩) (meth := k1m2) (c := k1c2) (by decide +kernel) rfl rfl rfl (by decide +kernel)
set_option maxRecDepth 65536 in
theorem w_c1 : (Jvm.Cond.code ({ cls := "com/example/epicycle/epicycle/TimeoutTable", name := "<init>", desc := "()V" } : Jvm.MethodName) prog_20_method_1_code (1 : Nat) (Option.none : Option Jvm.ClassFile.FieldType)).before args0 about1 = true := code_word (m := ⟨2, 0⟩) (meth := k2m0) (c := k2c0) (by decide +kernel) rfl rfl rfl (by decide +kernel)
set_option maxRecDepth 65536 in
theorem w_c2 : (Jvm.Cond.code ({ cls := "java/lang/Object", name := "<init>", desc := "()V" } : Jvm.MethodName) object_method_1_code (1 : Nat) (Option.none : Option Jvm.ClassFile.FieldType)).before args0 about1 = true := code_word (m := ⟨0, 0⟩) (meth := k0m0) (c := k0c0) (by decide +kernel) rfl rfl rfl (by decide +kernel)
set_option maxRecDepth 65536 in
theorem w_c3 : (Jvm.Cond.code ({ cls := "com/example/epicycle/epicycle/ChunkedList", name := "<init>", desc := "()V" } : Jvm.MethodName) prog_2_method_1_code (1 : Nat) (Option.none : Option Jvm.ClassFile.FieldType)).before args0 about1 = true := code_word (m := ⟨10, 0⟩) (meth := k10m0) (c := k10c0) (by decide +kernel) rfl rfl rfl (by decide +kernel)
set_option maxRecDepth 65536 in
theorem w_c4 : (Jvm.Cond.code ({ cls := "java/util/AbstractList", name := "<init>", desc := "()V" } : Jvm.MethodName) jdk_39_method_1_code (1 : Nat) (Option.none : Option Jvm.ClassFile.FieldType)).before args0 about1 = true := code_word (m := ⟨8, 0⟩) (meth := k8m0) (c := k8c0) (by decide +kernel) rfl rfl rfl (by decide +kernel)
set_option maxRecDepth 65536 in
theorem w_c5 : (Jvm.Cond.code ({ cls := "java/util/AbstractCollection", name := "<init>", desc := "()V" } : Jvm.MethodName) jdk_22_method_1_code (1 : Nat) (Option.none : Option Jvm.ClassFile.FieldType)).before args0 about1 = true := code_word (m := ⟨5, 0⟩) (meth := k5m0) (c := k5c0) (by decide +kernel) rfl rfl rfl (by decide +kernel)
set_option maxRecDepth 65536 in
theorem w_c6 : (Jvm.Cond.code ({ cls := "com/example/epicycle/epicycle/TimeoutTable", name := "levelsFor", desc := "(I)[[J" } : Jvm.MethodName) prog_20_method_7_code (6 : Nat) (Option.some (Jvm.ClassFile.FieldType.array (Jvm.ClassFile.FieldType.array Jvm.ClassFile.FieldType.long)))).before args0 about1 = true := code_word (m := ⟨2, 3⟩) (meth := k2m3) (c := k2c3) (by decide +kernel) rfl rfl rfl (by decide +kernel)
set_option maxRecDepth 65536 in
theorem w_c7 : (Jvm.Cond.code ({ cls := "com/example/epicycle/epicycle/TimeoutTable", name := "wordsFor", desc := "(J)J" } : Jvm.MethodName) prog_20_method_8_code (2 : Nat) (Option.some Jvm.ClassFile.FieldType.long)).before args0 about1 = true := code_word (m := ⟨2, 4⟩) (meth := k2m4) (c := k2c4) (by decide +kernel) rfl rfl rfl (by decide +kernel)
set_option maxRecDepth 65536 in
theorem w_c8 : (Jvm.Cond.code ({ cls := "com/example/epicycle/epicycle/SlotRing", name := "<init>", desc := "(ILcom/example/epicycle/epicycle/TimeoutTable;)V" } : Jvm.MethodName) prog_7_method_1_code (3 : Nat) (Option.none : Option Jvm.ClassFile.FieldType)).before args0 about1 = true := code_word (m := ⟨11, 0⟩) (meth := k11m0) (c := k11c0) (by decide +kernel) rfl rfl rfl (by decide +kernel)
set_option maxRecDepth 65536 in
theorem w_c9 : (Jvm.Cond.code ({ cls := "com/example/epicycle/epicycle/Timeout", name := "<init>", desc := "(Lcom/example/epicycle/epicycle/Timeout$Holder;Ljava/lang/Runnable;J)V" } : Jvm.MethodName) prog_11_method_1_code (5 : Nat) (Option.none : Option Jvm.ClassFile.FieldType)).before args0 about1 = true := code_word (m := ⟨14, 0⟩) (meth := k14m0) (c := k14c0) (by decide +kernel) rfl rfl rfl (by decide +kernel)
set_option maxRecDepth 65536 in
theorem w_c10 : (Jvm.Cond.code ({ cls := "com/example/epicycle/epicycle/SlotRing", name := "add", desc := "(Lcom/example/epicycle/epicycle/Timeout;)V" } : Jvm.MethodName) prog_7_method_5_code (4 : Nat) (Option.none : Option Jvm.ClassFile.FieldType)).before args0 about1 = true := code_word (m := ⟨11, 3⟩) (meth := k11m3) (c := k11c3) (by decide +kernel) rfl rfl rfl (by decide +kernel)
set_option maxRecDepth 65536 in
theorem w_c11 : (Jvm.Cond.code ({ cls := "com/example/epicycle/epicycle/Timeout", name := "fireTick", desc := "()J" } : Jvm.MethodName) prog_11_method_6_code (1 : Nat) (Option.some Jvm.ClassFile.FieldType.long)).before args0 about1 = true := code_word (m := ⟨14, 1⟩) (meth := k14m1) (c := k14c1) (by decide +kernel) rfl rfl rfl (by decide +kernel)
set_option maxRecDepth 65536 in
theorem w_c12 : (Jvm.Cond.code ({ cls := "com/example/epicycle/epicycle/SlotRing", name := "digit", desc := "(JI)I" } : Jvm.MethodName) prog_7_method_2_code (3 : Nat) (Option.some Jvm.ClassFile.FieldType.int)).before args0 about1 = true := code_word (m := ⟨11, 1⟩) (meth := k11m1) (c := k11c1) (by decide +kernel) rfl rfl rfl (by decide +kernel)
set_option maxRecDepth 65536 in
theorem w_c13 : (Jvm.Cond.code ({ cls := "com/example/epicycle/epicycle/SlotRing$Slot", name := "<init>", desc := "(Lcom/example/epicycle/epicycle/TimeoutTable;)V" } : Jvm.MethodName) prog_8_method_1_code (2 : Nat) (Option.none : Option Jvm.ClassFile.FieldType)).before args0 about1 = true := code_word (m := ⟨13, 0⟩) (meth := k13m0) (c := k13c0) (by decide +kernel) rfl rfl rfl (by decide +kernel)
set_option maxRecDepth 65536 in
theorem w_c14 : (Jvm.Cond.code ({ cls := "com/example/epicycle/epicycle/TimeoutList", name := "<init>", desc := "(Lcom/example/epicycle/epicycle/TimeoutTable;)V" } : Jvm.MethodName) prog_13_method_1_code (2 : Nat) (Option.none : Option Jvm.ClassFile.FieldType)).before args0 about1 = true := code_word (m := ⟨12, 0⟩) (meth := k12m0) (c := k12c0) (by decide +kernel) rfl rfl rfl (by decide +kernel)
set_option maxRecDepth 65536 in
theorem w_c15 : (Jvm.Cond.code ({ cls := "com/example/epicycle/epicycle/TimeoutList", name := "isEmpty", desc := "()Z" } : Jvm.MethodName) prog_13_method_2_code (1 : Nat) (Option.some Jvm.ClassFile.FieldType.boolean)).before args0 about1 = true := code_word (m := ⟨12, 1⟩) (meth := k12m1) (c := k12c1) (by decide +kernel) rfl rfl rfl (by decide +kernel)
set_option maxRecDepth 65536 in
theorem w_c16 : (Jvm.Cond.code ({ cls := "com/example/epicycle/epicycle/TimeoutList", name := "append", desc := "(Lcom/example/epicycle/epicycle/Timeout;)V" } : Jvm.MethodName) prog_13_method_7_code (3 : Nat) (Option.none : Option Jvm.ClassFile.FieldType)).before args0 about1 = true := code_word (m := ⟨12, 4⟩) (meth := k12m4) (c := k12c4) (by decide +kernel) rfl rfl rfl (by decide +kernel)
set_option maxRecDepth 65536 in
theorem w_c17 : (Jvm.Cond.code ({ cls := "com/example/epicycle/epicycle/TimeoutTable", name := "add", desc := "(Lcom/example/epicycle/epicycle/Timeout;)I" } : Jvm.MethodName) prog_20_method_2_code (3 : Nat) (Option.some Jvm.ClassFile.FieldType.int)).before args0 about1 = true := code_word (m := ⟨2, 1⟩) (meth := k2m1) (c := k2c1) (by decide +kernel) rfl rfl rfl (by decide +kernel)
set_option maxRecDepth 65536 in
theorem w_c18 : (Jvm.Cond.code ({ cls := "com/example/epicycle/epicycle/ChunkedList", name := "add", desc := "(Ljava/lang/Object;)Z" } : Jvm.MethodName) prog_2_method_2_code (3 : Nat) (Option.some Jvm.ClassFile.FieldType.boolean)).before args0 about1 = true := code_word (m := ⟨10, 1⟩) (meth := k10m1) (c := k10c1) (by decide +kernel) rfl rfl rfl (by decide +kernel)
set_option maxRecDepth 65536 in
theorem w_c19 : (Jvm.Cond.code ({ cls := "com/example/epicycle/epicycle/ChunkedList", name := "size", desc := "()I" } : Jvm.MethodName) prog_2_method_5_code (1 : Nat) (Option.some Jvm.ClassFile.FieldType.int)).before args0 about1 = true := code_word (m := ⟨10, 3⟩) (meth := k10m3) (c := k10c3) (by decide +kernel) rfl rfl rfl (by decide +kernel)
set_option maxRecDepth 65536 in
theorem w_c20 : (Jvm.Cond.code ({ cls := "com/example/epicycle/epicycle/SlotRingTakePinLaw", name := "dig", desc := "(JI)I" } : Jvm.MethodName) method_2_code (5 : Nat) (Option.some Jvm.ClassFile.FieldType.int)).before args0 about1 = true := code_word (m := ⟨1, 1⟩) (meth := k1m1) (c := k1c1) (by decide +kernel) rfl rfl rfl (by decide +kernel)
set_option maxRecDepth 65536 in
theorem w_c21 : (Jvm.Cond.code ({ cls := "com/example/epicycle/epicycle/SlotRing", name := "take", desc := "(I)Lcom/example/epicycle/epicycle/TimeoutList;" } : Jvm.MethodName) prog_7_method_11_code (3 : Nat) (Option.some (Jvm.ClassFile.FieldType.object "com/example/epicycle/epicycle/TimeoutList"))).before args0 about1 = true := code_word (m := ⟨11, 5⟩) (meth := k11m5) (c := k11c5) (by decide +kernel) rfl rfl rfl (by decide +kernel)
set_option maxRecDepth 65536 in
theorem w_c22 : (Jvm.Cond.code ({ cls := "com/example/epicycle/epicycle/TimeoutList", name := "first", desc := "()Lcom/example/epicycle/epicycle/Timeout;" } : Jvm.MethodName) prog_13_method_3_code (1 : Nat) (Option.some (Jvm.ClassFile.FieldType.object "com/example/epicycle/epicycle/Timeout"))).before args0 about1 = true := code_word (m := ⟨12, 2⟩) (meth := k12m2) (c := k12c2) (by decide +kernel) rfl rfl rfl (by decide +kernel)
set_option maxRecDepth 65536 in
theorem w_c23 : (Jvm.Cond.code ({ cls := "com/example/epicycle/epicycle/TimeoutList", name := "timeoutAt", desc := "(I)Lcom/example/epicycle/epicycle/Timeout;" } : Jvm.MethodName) prog_13_method_12_code (2 : Nat) (Option.some (Jvm.ClassFile.FieldType.object "com/example/epicycle/epicycle/Timeout"))).before args0 about1 = true := code_word (m := ⟨12, 6⟩) (meth := k12m6) (c := k12c6) (by decide +kernel) rfl rfl rfl (by decide +kernel)
set_option maxRecDepth 65536 in
theorem w_c24 : (Jvm.Cond.code ({ cls := "com/example/epicycle/epicycle/TimeoutTable", name := "get", desc := "(I)Lcom/example/epicycle/epicycle/Timeout;" } : Jvm.MethodName) prog_20_method_3_code (2 : Nat) (Option.some (Jvm.ClassFile.FieldType.object "com/example/epicycle/epicycle/Timeout"))).before args0 about1 = true := code_word (m := ⟨2, 2⟩) (meth := k2m2) (c := k2c2) (by decide +kernel) rfl rfl rfl (by decide +kernel)
set_option maxRecDepth 65536 in
theorem w_c25 : (Jvm.Cond.code ({ cls := "com/example/epicycle/epicycle/ChunkedList", name := "get", desc := "(I)Ljava/lang/Object;" } : Jvm.MethodName) prog_2_method_3_code (2 : Nat) (Option.some (Jvm.ClassFile.FieldType.object "java/lang/Object"))).before args0 about1 = true := code_word (m := ⟨10, 2⟩) (meth := k10m2) (c := k10c2) (by decide +kernel) rfl rfl rfl (by decide +kernel)
set_option maxRecDepth 65536 in
theorem w_c26 : (Jvm.Cond.code ({ cls := "java/util/Objects", name := "checkIndex", desc := "(II)I" } : Jvm.MethodName) jdk_31_method_17_code (2 : Nat) (Option.some Jvm.ClassFile.FieldType.int)).before args0 about1 = true := code_word (m := ⟨15, 1⟩) (meth := k15m1) (c := k15c1) (by decide +kernel) rfl rfl rfl (by decide +kernel)
set_option maxRecDepth 65536 in
theorem w_c27 : (Jvm.Cond.code ({ cls := "jdk/internal/util/Preconditions", name := "checkIndex", desc := "(IILjava/util/function/BiFunction;)I" } : Jvm.MethodName) jdk_41_method_11_code (3 : Nat) (Option.some Jvm.ClassFile.FieldType.int)).before args0 about1 = true := code_word (m := ⟨16, 1⟩) (meth := k16m1) (c := k16c1) (by decide +kernel) rfl rfl rfl (by decide +kernel)
set_option maxRecDepth 65536 in
theorem w_c28 : (Jvm.Cond.code ({ cls := "com/example/epicycle/epicycle/TimeoutList", name := "last", desc := "()Lcom/example/epicycle/epicycle/Timeout;" } : Jvm.MethodName) prog_13_method_4_code (1 : Nat) (Option.some (Jvm.ClassFile.FieldType.object "com/example/epicycle/epicycle/Timeout"))).before args0 about1 = true := code_word (m := ⟨12, 3⟩) (meth := k12m3) (c := k12c3) (by decide +kernel) rfl rfl rfl (by decide +kernel)
set_option maxRecDepth 65536 in
theorem w_c29 : (Jvm.Cond.code ({ cls := "com/example/epicycle/epicycle/SlotRing", name := "firstOccupied", desc := "()I" } : Jvm.MethodName) prog_7_method_4_code (1 : Nat) (Option.some Jvm.ClassFile.FieldType.int)).before args0 about1 = true := code_word (m := ⟨11, 2⟩) (meth := k11m2) (c := k11c2) (by decide +kernel) rfl rfl rfl (by decide +kernel)
set_option maxRecDepth 65536 in
theorem w_c30 : (Jvm.Cond.code ({ cls := "java/lang/Long", name := "numberOfTrailingZeros", desc := "(J)I" } : Jvm.MethodName) jdk_35_method_49_code (3 : Nat) (Option.some Jvm.ClassFile.FieldType.int)).before args0 about1 = true := code_word (m := ⟨22, 0⟩) (meth := k22m0) (c := k22c0) (by decide +kernel) rfl rfl rfl (by decide +kernel)
set_option maxRecDepth 65536 in
theorem w_c31 : (Jvm.Cond.code ({ cls := "java/lang/Integer", name := "numberOfTrailingZeros", desc := "(I)I" } : Jvm.MethodName) jdk_33_method_48_code (2 : Nat) (Option.some Jvm.ClassFile.FieldType.int)).before args0 about1 = true := code_word (m := ⟨23, 0⟩) (meth := k23m0) (c := k23c0) (by decide +kernel) rfl rfl rfl (by decide +kernel)
set_option maxRecDepth 65536 in
theorem w_c32 : (Jvm.Cond.code ({ cls := "com/example/epicycle/epicycle/SlotRing", name := "holds", desc := "(Lcom/example/epicycle/epicycle/Timeout;)Z" } : Jvm.MethodName) prog_7_method_7_code (4 : Nat) (Option.some Jvm.ClassFile.FieldType.boolean)).before args0 about1 = true := code_word (m := ⟨11, 4⟩) (meth := k11m4) (c := k11c4) (by decide +kernel) rfl rfl rfl (by decide +kernel)
set_option maxRecDepth 65536 in
theorem w_c33 : (Jvm.Cond.code ({ cls := "com/example/epicycle/epicycle/TimeoutList", name := "holds", desc := "(Lcom/example/epicycle/epicycle/Timeout;)Z" } : Jvm.MethodName) prog_13_method_11_code (2 : Nat) (Option.some Jvm.ClassFile.FieldType.boolean)).before args0 about1 = true := code_word (m := ⟨12, 5⟩) (meth := k12m5) (c := k12c5) (by decide +kernel) rfl rfl rfl (by decide +kernel)
def codes1 : List Jvm.Cond := [Jvm.Cond.code x code maxLocals ret, Jvm.Cond.code ({ cls := "com/example/epicycle/epicycle/TimeoutTable", name := "<init>", desc := "()V" } : Jvm.MethodName) prog_20_method_1_code (1 : Nat) (Option.none : Option Jvm.ClassFile.FieldType), Jvm.Cond.code ({ cls := "java/lang/Object", name := "<init>", desc := "()V" } : Jvm.MethodName) object_method_1_code (1 : Nat) (Option.none : Option Jvm.ClassFile.FieldType), Jvm.Cond.code ({ cls := "com/example/epicycle/epicycle/ChunkedList", name := "<init>", desc := "()V" } : Jvm.MethodName) prog_2_method_1_code (1 : Nat) (Option.none : Option Jvm.ClassFile.FieldType), Jvm.Cond.code ({ cls := "java/util/AbstractList", name := "<init>", desc := "()V" } : Jvm.MethodName) jdk_39_method_1_code (1 : Nat) (Option.none : Option Jvm.ClassFile.FieldType), Jvm.Cond.code ({ cls := "java/util/AbstractCollection", name := "<init>", desc := "()V" } : Jvm.MethodName) jdk_22_method_1_code (1 : Nat) (Option.none : Option Jvm.ClassFile.FieldType), Jvm.Cond.code ({ cls := "com/example/epicycle/epicycle/TimeoutTable", name := "levelsFor", desc := "(I)[[J" } : Jvm.MethodName) prog_20_method_7_code (6 : Nat) (Option.some (Jvm.ClassFile.FieldType.array (Jvm.ClassFile.FieldType.array Jvm.ClassFile.FieldType.long))), Jvm.Cond.code ({ cls := "com/example/epicycle/epicycle/TimeoutTable", name := "wordsFor", desc := "(J)J" } : Jvm.MethodName) prog_20_method_8_code (2 : Nat) (Option.some Jvm.ClassFile.FieldType.long), Jvm.Cond.code ({ cls := "com/example/epicycle/epicycle/SlotRing", name := "<init>", desc := "(ILcom/example/epicycle/epicycle/TimeoutTable;)V" } : Jvm.MethodName) prog_7_method_1_code (3 : Nat) (Option.none : Option Jvm.ClassFile.FieldType), Jvm.Cond.code ({ cls := "com/example/epicycle/epicycle/Timeout", name := "<init>", desc := "(Lcom/example/epicycle/epicycle/Timeout$Holder;Ljava/lang/Runnable;J)V" } : Jvm.MethodName) prog_11_method_1_code (5 : Nat) (Option.none : Option Jvm.ClassFile.FieldType), Jvm.Cond.code ({ cls := "com/example/epicycle/epicycle/SlotRing", name := "add", desc := "(Lcom/example/epicycle/epicycle/Timeout;)V" } : Jvm.MethodName) prog_7_method_5_code (4 : Nat) (Option.none : Option Jvm.ClassFile.FieldType), Jvm.Cond.code ({ cls := "com/example/epicycle/epicycle/Timeout", name := "fireTick", desc := "()J" } : Jvm.MethodName) prog_11_method_6_code (1 : Nat) (Option.some Jvm.ClassFile.FieldType.long), Jvm.Cond.code ({ cls := "com/example/epicycle/epicycle/SlotRing", name := "digit", desc := "(JI)I" } : Jvm.MethodName) prog_7_method_2_code (3 : Nat) (Option.some Jvm.ClassFile.FieldType.int), Jvm.Cond.code ({ cls := "com/example/epicycle/epicycle/SlotRing$Slot", name := "<init>", desc := "(Lcom/example/epicycle/epicycle/TimeoutTable;)V" } : Jvm.MethodName) prog_8_method_1_code (2 : Nat) (Option.none : Option Jvm.ClassFile.FieldType), Jvm.Cond.code ({ cls := "com/example/epicycle/epicycle/TimeoutList", name := "<init>", desc := "(Lcom/example/epicycle/epicycle/TimeoutTable;)V" } : Jvm.MethodName) prog_13_method_1_code (2 : Nat) (Option.none : Option Jvm.ClassFile.FieldType), Jvm.Cond.code ({ cls := "com/example/epicycle/epicycle/TimeoutList", name := "isEmpty", desc := "()Z" } : Jvm.MethodName) prog_13_method_2_code (1 : Nat) (Option.some Jvm.ClassFile.FieldType.boolean), Jvm.Cond.code ({ cls := "com/example/epicycle/epicycle/TimeoutList", name := "append", desc := "(Lcom/example/epicycle/epicycle/Timeout;)V" } : Jvm.MethodName) prog_13_method_7_code (3 : Nat) (Option.none : Option Jvm.ClassFile.FieldType), Jvm.Cond.code ({ cls := "com/example/epicycle/epicycle/TimeoutTable", name := "add", desc := "(Lcom/example/epicycle/epicycle/Timeout;)I" } : Jvm.MethodName) prog_20_method_2_code (3 : Nat) (Option.some Jvm.ClassFile.FieldType.int), Jvm.Cond.code ({ cls := "com/example/epicycle/epicycle/ChunkedList", name := "add", desc := "(Ljava/lang/Object;)Z" } : Jvm.MethodName) prog_2_method_2_code (3 : Nat) (Option.some Jvm.ClassFile.FieldType.boolean), Jvm.Cond.code ({ cls := "com/example/epicycle/epicycle/ChunkedList", name := "size", desc := "()I" } : Jvm.MethodName) prog_2_method_5_code (1 : Nat) (Option.some Jvm.ClassFile.FieldType.int), Jvm.Cond.code ({ cls := "com/example/epicycle/epicycle/SlotRingTakePinLaw", name := "dig", desc := "(JI)I" } : Jvm.MethodName) method_2_code (5 : Nat) (Option.some Jvm.ClassFile.FieldType.int), Jvm.Cond.code ({ cls := "com/example/epicycle/epicycle/SlotRing", name := "take", desc := "(I)Lcom/example/epicycle/epicycle/TimeoutList;" } : Jvm.MethodName) prog_7_method_11_code (3 : Nat) (Option.some (Jvm.ClassFile.FieldType.object "com/example/epicycle/epicycle/TimeoutList")), Jvm.Cond.code ({ cls := "com/example/epicycle/epicycle/TimeoutList", name := "first", desc := "()Lcom/example/epicycle/epicycle/Timeout;" } : Jvm.MethodName) prog_13_method_3_code (1 : Nat) (Option.some (Jvm.ClassFile.FieldType.object "com/example/epicycle/epicycle/Timeout")), Jvm.Cond.code ({ cls := "com/example/epicycle/epicycle/TimeoutList", name := "timeoutAt", desc := "(I)Lcom/example/epicycle/epicycle/Timeout;" } : Jvm.MethodName) prog_13_method_12_code (2 : Nat) (Option.some (Jvm.ClassFile.FieldType.object "com/example/epicycle/epicycle/Timeout")), Jvm.Cond.code ({ cls := "com/example/epicycle/epicycle/TimeoutTable", name := "get", desc := "(I)Lcom/example/epicycle/epicycle/Timeout;" } : Jvm.MethodName) prog_20_method_3_code (2 : Nat) (Option.some (Jvm.ClassFile.FieldType.object "com/example/epicycle/epicycle/Timeout")), Jvm.Cond.code ({ cls := "com/example/epicycle/epicycle/ChunkedList", name := "get", desc := "(I)Ljava/lang/Object;" } : Jvm.MethodName) prog_2_method_3_code (2 : Nat) (Option.some (Jvm.ClassFile.FieldType.object "java/lang/Object")), Jvm.Cond.code ({ cls := "java/util/Objects", name := "checkIndex", desc := "(II)I" } : Jvm.MethodName) jdk_31_method_17_code (2 : Nat) (Option.some Jvm.ClassFile.FieldType.int), Jvm.Cond.code ({ cls := "jdk/internal/util/Preconditions", name := "checkIndex", desc := "(IILjava/util/function/BiFunction;)I" } : Jvm.MethodName) jdk_41_method_11_code (3 : Nat) (Option.some Jvm.ClassFile.FieldType.int), Jvm.Cond.code ({ cls := "com/example/epicycle/epicycle/TimeoutList", name := "last", desc := "()Lcom/example/epicycle/epicycle/Timeout;" } : Jvm.MethodName) prog_13_method_4_code (1 : Nat) (Option.some (Jvm.ClassFile.FieldType.object "com/example/epicycle/epicycle/Timeout")), Jvm.Cond.code ({ cls := "com/example/epicycle/epicycle/SlotRing", name := "firstOccupied", desc := "()I" } : Jvm.MethodName) prog_7_method_4_code (1 : Nat) (Option.some Jvm.ClassFile.FieldType.int), Jvm.Cond.code ({ cls := "java/lang/Long", name := "numberOfTrailingZeros", desc := "(J)I" } : Jvm.MethodName) jdk_35_method_49_code (3 : Nat) (Option.some Jvm.ClassFile.FieldType.int), Jvm.Cond.code ({ cls := "java/lang/Integer", name := "numberOfTrailingZeros", desc := "(I)I" } : Jvm.MethodName) jdk_33_method_48_code (2 : Nat) (Option.some Jvm.ClassFile.FieldType.int), Jvm.Cond.code ({ cls := "com/example/epicycle/epicycle/SlotRing", name := "holds", desc := "(Lcom/example/epicycle/epicycle/Timeout;)Z" } : Jvm.MethodName) prog_7_method_7_code (4 : Nat) (Option.some Jvm.ClassFile.FieldType.boolean), Jvm.Cond.code ({ cls := "com/example/epicycle/epicycle/TimeoutList", name := "holds", desc := "(Lcom/example/epicycle/epicycle/Timeout;)Z" } : Jvm.MethodName) prog_13_method_11_code (2 : Nat) (Option.some Jvm.ClassFile.FieldType.boolean)]
set_option maxRecDepth 65536 in
theorem codes_eq : words1.filter isCode = codes1 := rfl
theorem w_codes : ∀ c ∈ words1.filter isCode, c.before args0 about1 = true := by
  rw [codes_eq]
  intro c hc
  simp only [codes1, List.mem_cons, List.not_mem_nil, or_false] at hc
  rcases hc with rfl | rfl | rfl | rfl | rfl | rfl | rfl | rfl | rfl | rfl | rfl | rfl | rfl | rfl | rfl | rfl | rfl | rfl | rfl | rfl | rfl | rfl | rfl | rfl | rfl | rfl | rfl | rfl | rfl | rfl | rfl | rfl | rfl | rfl
  · exact w_c0
  · exact w_c1
  · exact w_c2
  · exact w_c3
  · exact w_c4
  · exact w_c5
  · exact w_c6
  · exact w_c7
  · exact w_c8
  · exact w_c9
  · exact w_c10
  · exact w_c11
  · exact w_c12
  · exact w_c13
  · exact w_c14
  · exact w_c15
  · exact w_c16
  · exact w_c17
  · exact w_c18
  · exact w_c19
  · exact w_c20
  · exact w_c21
  · exact w_c22
  · exact w_c23
  · exact w_c24
  · exact w_c25
  · exact w_c26
  · exact w_c27
  · exact w_c28
  · exact w_c29
  · exact w_c30
  · exact w_c31
  · exact w_c32
  · exact w_c33
set_option maxRecDepth 65536 in
theorem w_t1 : (words1.take 24).all (fun c => isCode c || c.before args0 about1) = true := by decide +kernel
set_option maxRecDepth 65536 in
theorem w_t2 : ((words1.drop 24).take 24).all (fun c => isCode c || c.before args0 about1) = true := by decide +kernel
set_option maxRecDepth 65536 in
theorem w_t3 : (((words1.drop 24).drop 24).take 24).all (fun c => isCode c || c.before args0 about1) = true := by decide +kernel
set_option maxRecDepth 65536 in
theorem w_t4 : ((((words1.drop 24).drop 24).drop 24).take 24).all (fun c => isCode c || c.before args0 about1) = true := by decide +kernel
set_option maxRecDepth 65536 in
theorem w_t5 : (((((words1.drop 24).drop 24).drop 24).drop 24).take 24).all (fun c => isCode c || c.before args0 about1) = true := by decide +kernel
set_option maxRecDepth 65536 in
theorem w_t6 : ((((((words1.drop 24).drop 24).drop 24).drop 24).drop 24).take 24).all (fun c => isCode c || c.before args0 about1) = true := by decide +kernel
set_option maxRecDepth 65536 in
theorem w_t7 : (((((((words1.drop 24).drop 24).drop 24).drop 24).drop 24).drop 24).take 24).all (fun c => isCode c || c.before args0 about1) = true := by decide +kernel
set_option maxRecDepth 65536 in
theorem w_t8 : ((((((((words1.drop 24).drop 24).drop 24).drop 24).drop 24).drop 24).drop 24).take 24).all (fun c => isCode c || c.before args0 about1) = true := by decide +kernel
set_option maxRecDepth 65536 in
theorem w_t9 : (((((((((words1.drop 24).drop 24).drop 24).drop 24).drop 24).drop 24).drop 24).drop 24).take 24).all (fun c => isCode c || c.before args0 about1) = true := by decide +kernel
set_option maxRecDepth 65536 in
theorem w_t10 : (((((((((words1.drop 24).drop 24).drop 24).drop 24).drop 24).drop 24).drop 24).drop 24).drop 24).all (fun c => isCode c || c.before args0 about1) = true := by decide +kernel
theorem w_tables : (allAtoms (Jvm.Cond.code x code maxLocals ret :: tables_1)).before args0 about1 = true := by
  rw [allAtoms_all]
  show words1.all (fun c => c.before args0 about1) = true
  refine all_split ?_ w_codes
  rw [← List.take_append_drop 24 words1, List.all_append, w_t1, ← List.take_append_drop 24 (words1.drop 24), List.all_append, w_t2, ← List.take_append_drop 24 ((words1.drop 24).drop 24), List.all_append, w_t3, ← List.take_append_drop 24 (((words1.drop 24).drop 24).drop 24), List.all_append, w_t4, ← List.take_append_drop 24 ((((words1.drop 24).drop 24).drop 24).drop 24), List.all_append, w_t5, ← List.take_append_drop 24 (((((words1.drop 24).drop 24).drop 24).drop 24).drop 24), List.all_append, w_t6, ← List.take_append_drop 24 ((((((words1.drop 24).drop 24).drop 24).drop 24).drop 24).drop 24), List.all_append, w_t7, ← List.take_append_drop 24 (((((((words1.drop 24).drop 24).drop 24).drop 24).drop 24).drop 24).drop 24), List.all_append, w_t8, ← List.take_append_drop 24 ((((((((words1.drop 24).drop 24).drop 24).drop 24).drop 24).drop 24).drop 24).drop 24), List.all_append, w_t9, w_t10]
  rfl
set_option maxRecDepth 65536 in
theorem w_case : (Jvm.Cond.and given_1 narrow_1).before args0 about1 = true := by decide +kernel
theorem w_applies : (headSpec (Jvm.Cond.code x code maxLocals ret :: tables_1) room_1).applies x e0.platform about1 = true :=
  (Spec.applies_iff w_frames).mpr ⟨w_running, w_runnable, w_alone, w_named, w_hears, w_ripe, w_room, w_tables⟩
theorem atStart : AtStart classFile x code maxLocals ret World_1 tables_1 room_1 Calls_1 rest_1 Pre_1 launch0 p0 e0 about1 theMethod args0 below0 :=
  ⟨lists_1, trivial, launch0.admits_env _ _ _, launch0.least_env, fairChoices_fair.cas, fairChoices_fair.clock, w_frames, w_args, w_heap, w_applies, trivial, trivial, w_case⟩
end start1
theorem witness_1 : WitnessClaimed_1 := ⟨start1.p0, start1.e0, start1.about1, start1.theMethod, start1.args0, start1.below0, start1.atStart⟩
end Jvm.Pilot.@@N@@
