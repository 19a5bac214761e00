import JvmDerived
import JvmDerived.Pilot.@@N@@Statement
import JvmDerived.Pilot.@@N@@Code
set_option linter.unusedVariables false
set_option linter.unusedSimpArgs false
@@BLOCK:NumsL.lean.txt@@
namespace Jvm.Pilot.@@N@@
open Jvm Jvm.ClassFile Sem Op Lib Jvm.Free Jvm.Stand Jvm.LawKit Jvm.RoadKit Bundle Jvm.Pilot.@@N@@.Jvm.D
theorem own_w {Z : State} {a0 : Array Value} (hw : ∀ d ∈ tables_1, d.before a0 Z = true) (i : Nat) {d : Jvm.Cond} (h : tables_1[i]? = some d) : d.before a0 Z = true := hw _ (List.mem_of_getElem? h)
/-! own layer: a body's rest as one predicate (OFin), a contract (OMet), calls that give the plain facts back -/
def OFin (p : Program) (e : Env) (below : List Frame) (s : State) (kc ks : Nat) (Q : Option Value → Heap → List Loc → Prop) (S : State) : Prop :=
  ∃ s₂ o, Steps p.tables e below S s₂ ∧ s₂.status = .running ∧ Ended s₂ below o ∧ ∃ v L, o = .returned v ∧ Q v s₂.heap L ∧ FrameEnd s o s₂ L kc ks
def OMet (l : Launch) (Z : State) (y : MethodName) (bytes : ByteArray) (maxL : Nat) (ret : Option FieldType) (rm : Room) (as' : Array Value) (h0 : Heap) (Q : Option Value → Heap → List Loc → Prop) : Prop :=
  ∀ ws : List Jvm.Cond, MetFree l y (head1 (Jvm.Cond.code y bytes maxL ret :: ws) rm) (fun a U => a = as' ∧ Z.Warmed39 U.vm ∧ U.heap = h0) (fun _ _ _ _ _ => True) (fun _ U o U' => ∃ v L, o = .returned v ∧ Q v U'.heap L ∧ FrameEnd U o U' L rm.cells rm.slots)
def OCtx (Z : State) (p : Program) (s : State) (m : MethodId) (meth : Method) (c : Code) (cls nam : String) (bytes : ByteArray) (maxL : Nat) (ret : Option FieldType) : Prop :=
  p.tables.exec = Jvm.exec ∧ Z.Warmed39 s.vm ∧ c.code = bytes ∧ c.maxLocals = maxL ∧ s.vm.findClass cls = some m.cls ∧ meth.sig.returnType = ret ∧ meth.locks = false ∧ meth.name = nam
section OwnLayer
variable {p : Program} {l : Launch} {e : Env} {R : Room} {s : State} {m : MethodId} {args : Array Value} {below : List Frame} {meth : Method} {c : Code} {T : State} {locs : List Loc} {cells slots : Nat} {Z : State} {a0 : Array Value} {h : Heap}
variable {kc ks : Nat} {Q : Option Value → Heap → List Loc → Prop}
theorem own_st {A B : State} (hs : ∀ t, Steps p.tables e below B t → Steps p.tables e below A t) (k : OFin p e below s kc ks Q B) : OFin p e below s kc ks Q A := by
  obtain ⟨s₂, o, h1, r⟩ := k; exact ⟨s₂, o, hs _ h1, r⟩
theorem own_at {g g' : JFrame} (q : g = g') (k : OFin p e below s kc ks Q (T.setTop g')) : OFin p e below s kc ks Q (T.setTop g) := q ▸ k
theorem own_mono {Q' : Option Value → Heap → List Loc → Prop} {S : State} (k : OFin p e below s kc ks Q S) (q : ∀ v h L, Q v h L → Q' v h L) : OFin p e below s kc ks Q' S := by
  obtain ⟨s₂, o, h1, h2, h3, v, L, h4, h5, h6⟩ := k; exact ⟨s₂, o, h1, h2, h3, v, L, h4, q _ _ _ h5, h6⟩
theorem own_enter {y : MethodName} {bytes : ByteArray} {maxL : Nat} {ret : Option FieldType} {rm : Room} {as' : Array Value} {h0 : Heap} (hp : plainFor y = true)
    (hB : ∀ (p : Program) (e : Env) (s : State) (m : MethodId) (below : List Frame) (meth : Method) (c : Code) (T : State), Stand p l e rm s m as' below meth c T [] 0 0 → OCtx Z p s m meth c y.cls y.name bytes maxL ret → T.heap = h0 → OFin p e below s rm.cells rm.slots Q (T.setTop (entryFrame m as' maxL))) :
    OMet l Z y bytes maxL ret rm as' h0 Q := by
  intro ws
  refine MetFree.of_bodySF hp hisR ?_
  intro p e s m args below meth c s₁ Bd hml0 hP hK
  obtain ⟨rfl, hZ, hh⟩ := hP
  exact hB p e s m below meth c s₁ (Stand.of_body Bd) ⟨Bd.exec, hZ, Bd.bytes, hml0, findClass_of_methodNamed Bd.named, Bd.returns, BodyLoose.notSynchronized Bd, (name_of_methodNamed Bd.named Bd.method).1⟩ (by rw [← hh, Bd.state]; rfl)
theorem own_ret (X : Stand p l e R s m args below meth c T locs cells slots) (hx : p.tables.exec = Jvm.exec) {t : FieldType} (hret : meth.sig.returnType = some t) (hlk : meth.locks = false) {pc : Nat} {Ls : Array Slot} {w : Value} {i : Instr} {rest : List Value} (hn : narrow t w = w)
    (hi : (i = .ireturn ∧ (t = .int ∨ t = .boolean ∨ t = .byte ∨ t = .char ∨ t = .short) ∧ ∃ z, w = .int z) ∨ (i = .lreturn ∧ t = .long ∧ ∃ z, w = .long z) ∨ (i = .dreturn ∧ t = .double ∧ ∃ z, w = .double z) ∨ (i = .freturn ∧ t = .float ∧ ∃ z, w = .float z) ∨ (i = .areturn ∧ t.isReference = true ∧ w.isRef = true))
    (hd : decode c.code pc = .ok (i, 1)) (hc : cells ≤ kc) (hs : slots ≤ ks) (hq : Q (some w) T.heap locs) : OFin p e below s kc ks Q (T.setTop (mkF m pc Ls (w :: rest))) := by
  obtain ⟨fs, hr, hrun, hended, hW, hsame⟩ := X.leave (v := some w) (fun h => by rw [hret] at h; cases h) hlk
  exact ⟨_, _, retOut X hx hret hn hi hd hr, hrun, hended, _, _, rfl, hq, ⟨_, rfl⟩, hW, hsame.mono hc hs⟩
theorem own_retV (X : Stand p l e R s m args below meth c T locs cells slots) (hx : p.tables.exec = Jvm.exec) (hret : meth.sig.returnType = none) (hlk : meth.locks = false) {pc : Nat} {Ls : Array Slot}
    (hd : decode c.code pc = .ok (.return_, 1)) (hc : cells ≤ kc) (hs : slots ≤ ks) (hq : Q none T.heap locs) : OFin p e below s kc ks Q (T.setTop (mkF m pc Ls [])) := by
  obtain ⟨fs, hr, hrun, hended, hW, hsame⟩ := X.leave (v := none) (fun _ => rfl) hlk
  exact ⟨_, _, X.returnOut hx hret hd hr, hrun, hended, _, _, rfl, hq, ⟨_, rfl⟩, hW, hsame.mono hc hs⟩
theorem own_back {y : MethodName} {bytes : ByteArray} {maxL : Nat} {ret : Option FieldType} {rm : Room} {len W : Nat} {as' : Array Value} (hM : OMet l Z y bytes maxL ret rm as' h Q) (hZ : Z.Warmed39 s.vm) (wc : (Jvm.Cond.code y bytes maxL ret).before a0 Z = true) (wz : (Jvm.Cond.initialized y.cls).before a0 Z = true) (hf : rm.frames + 1 ≤ R.frames) (hl : W + (maxL + 11) + rm.locals ≤ R.locals) :
    Back l R p e below s args y len W (fun A a => a = as' ∧ A.U.heap = h ∧ A.cells + rm.cells ≤ R.cells ∧ A.slots + rm.slots ≤ R.slots)
      (fun A _ v B => ∃ L, Q v B.U.heap L ∧ B.locs = A.locs ++ L ∧ B.cells = A.cells + rm.cells ∧ B.slots = A.slots + rm.slots) := backOf (hM []) hZ wc wz hf hl
theorem own_static (X : Stand p l e R s m args below meth c T locs cells slots) (hx : p.tables.exec = Jvm.exec) (hZ : Z.Warmed39 s.vm) {own : String} {index : Nat} {y : MethodName} {bytes : ByteArray} {maxL : Nat} {ret : Option FieldType} {rm : Room} {W : Nat} {argsL rest : List Value}
    (hown : s.vm.findClass own = some m.cls) (w1 : (Jvm.Cond.methodLink own index y).before a0 Z = true) (w2 : (Jvm.Cond.static y).before a0 Z = true) (wz : (Jvm.Cond.initialized y.cls).before a0 Z = true) (wc : (Jvm.Cond.code y bytes maxL ret).before a0 Z = true)
    (hM : OMet l Z y bytes maxL ret rm argsL.toArray h Q) (eT : T.heap = h) {g : JFrame} (hg : g.method = m) (hsize : g.locals.size = c.maxLocals) (hlen : ∀ sig, parseMethodDescriptor y.desc = some sig → argsL.length = sig.parameters.length)
    (hstack : g.stack = argsL.reverse ++ rest) (hW : 2 * g.monitorRoom + (rest.map fun v => v.category).sum ≤ W) (hdg : decode c.code g.pc = .ok (.invokestatic index, 3))
    (hf : rm.frames + 1 ≤ R.frames) (hl : W + (maxL + 11) + rm.locals ≤ R.locals) (hc : cells + rm.cells ≤ R.cells) (hs : slots + rm.slots ≤ R.slots)
    (hy : y.cls ≠ "java/lang/invoke/MethodHandle" ∧ y.cls ≠ "java/lang/invoke/VarHandle" := by decide) :
    ∃ (v : Option Value) (T' : State) (L : List Loc), Stand p l e R s m args below meth c T' (locs ++ L) (cells + rm.cells) (slots + rm.slots) ∧ Q v T'.heap L ∧
      ∀ target, Steps p.tables e below (T'.setTop { g with pc := g.pc + 3, stack := v.toList ++ rest }) target → Steps p.tables e below (T.setTop g) target := by
  obtain ⟨v, vm₁, ⟨T', L', k', n'⟩, -, X', ⟨L, hQ, l1, y1, z1⟩, st⟩ := Jvm.LawKit.callS X hx hown (mvT hZ w1) (mvT hZ w2) (mvT hZ wz) (mvT hZ wc) hy (own_back (W := W) hM hZ wc wz hf hl) hg hsize hlen hstack hW hdg (fun _ _ => ⟨rfl, eT, hc, hs⟩)
  dsimp only [Pt.U, Pt.locs, Pt.cells, Pt.slots] at X' l1 y1 z1 st hQ
  subst l1 y1 z1
  exact ⟨v, T', L, X', hQ, st⟩
theorem own_init (X : Stand p l e R s m args below meth c T locs cells slots) (hx : p.tables.exec = Jvm.exec) (hZ : Z.Warmed39 s.vm) {own : String} {index : Nat} {y : MethodName} {bytes : ByteArray} {maxL : Nat} {rm : Room} {W : Nat} {a : Addr} {argsL rest : List Value} (hy1 : y.name = "<init>")
    (hown : s.vm.findClass own = some m.cls) (w1 : (Jvm.Cond.methodLink own index y).before a0 Z = true) (w2 : (Jvm.Cond.instanceMethod y).before a0 Z = true) (wz : (Jvm.Cond.initialized y.cls).before a0 Z = true) (wc : (Jvm.Cond.code y bytes maxL none).before a0 Z = true)
    (hM : OMet l Z y bytes maxL none rm (.ref a :: argsL).toArray h Q) (eT : T.heap = h) {g : JFrame} (hg : g.method = m) (hsize : g.locals.size = c.maxLocals) (hlen : ∀ sig, parseMethodDescriptor y.desc = some sig → argsL.length = sig.parameters.length)
    (hstack : g.stack = argsL.reverse ++ .ref a :: rest) (hW : 2 * g.monitorRoom + (rest.map fun v => v.category).sum ≤ W) (hdg : decode c.code g.pc = .ok (.invokespecial index, 3))
    (hf : rm.frames + 1 ≤ R.frames) (hl : W + (maxL + 11) + rm.locals ≤ R.locals) (hc : cells + rm.cells ≤ R.cells) (hs : slots + rm.slots ≤ R.slots)
    (hy : y.cls ≠ "java/lang/invoke/MethodHandle" ∧ y.cls ≠ "java/lang/invoke/VarHandle" := by decide) :
    ∃ (v : Option Value) (T' : State) (L : List Loc), Stand p l e R s m args below meth c T' (locs ++ L) (cells + rm.cells) (slots + rm.slots) ∧ Q v T'.heap L ∧
      ∀ target, Steps p.tables e below (T'.setTop { g with pc := g.pc + 3, stack := v.toList ++ rest }) target → Steps p.tables e below (T.setTop g) target := by
  obtain ⟨v, vm₁, ⟨T', L', k', n'⟩, -, X', ⟨L, hQ, l1, y1, z1⟩, st⟩ := X.specialBack hx hy1 hown (mvT hZ w1) (mvT hZ w2) (mvT hZ wc) hy (own_back (W := W) hM hZ wc wz hf hl) hg hsize (Steps.refl _) hlen hstack hW hdg (fun _ _ => ⟨rfl, eT, hc, hs⟩)
  dsimp only [Pt.U, Pt.locs, Pt.cells, Pt.slots] at X' l1 y1 z1 st hQ
  subst l1 y1 z1
  exact ⟨v, T', L, X', hQ, fun t k => st.trans k⟩
theorem own_virtual (X : Stand p l e R s m args below meth c T locs cells slots) (hx : p.tables.exec = Jvm.exec) (hZ : Z.Warmed39 s.vm) {own C : String} {index : Nat} {y z : MethodName} {bytes : ByteArray} {maxL : Nat} {ret : Option FieldType} {rm : Room} {W : Nat} {a : Addr} {argsL rest : List Value}
    (hown : s.vm.findClass own = some m.cls) (w1 : (Jvm.Cond.methodLink own index y).before a0 Z = true) (w2 : (Jvm.Cond.declares y).before a0 Z = true) (hnf : NotFace s y) (w3 : (Jvm.Cond.selects C y z).before a0 Z = true) (w4 : (Jvm.Cond.instanceMethod z).before a0 Z = true) (wz : (Jvm.Cond.initialized z.cls).before a0 Z = true) (wc : (Jvm.Cond.code z bytes maxL ret).before a0 Z = true)
    (hM : OMet l Z z bytes maxL ret rm (.ref a :: argsL).toArray h Q) (eT : T.heap = h) (E : Exa Z h a C) {g : JFrame} (hg : g.method = m) (hsize : g.locals.size = c.maxLocals) (hlen : ∀ sig, parseMethodDescriptor y.desc = some sig → argsL.length = sig.parameters.length)
    (hstack : g.stack = argsL.reverse ++ .ref a :: rest) (hW : 2 * g.monitorRoom + (rest.map fun v => v.category).sum ≤ W) (hdg : decode c.code g.pc = .ok (.invokevirtual index, 3))
    (hf : rm.frames + 1 ≤ R.frames) (hl : W + (maxL + 11) + rm.locals ≤ R.locals) (hc : cells + rm.cells ≤ R.cells) (hs : slots + rm.slots ≤ R.slots)
    (hy : y.cls ≠ "java/lang/invoke/MethodHandle" ∧ y.cls ≠ "java/lang/invoke/VarHandle" := by decide) :
    ∃ (v : Option Value) (T' : State) (L : List Loc), Stand p l e R s m args below meth c T' (locs ++ L) (cells + rm.cells) (slots + rm.slots) ∧ Q v T'.heap L ∧
      ∀ target, Steps p.tables e below (T'.setTop { g with pc := g.pc + 3, stack := v.toList ++ rest }) target → Steps p.tables e below (T.setTop g) target := by
  obtain ⟨cq, kq, qa, qb, qc⟩ := isOf hZ eT E
  obtain ⟨v, vm₁, ⟨T', L', k', n'⟩, -, X', ⟨L, hQ, l1, y1, z1⟩, st⟩ := X.virtualBack hx hown (mvT hZ w1) (mvT hZ w2) hnf (mvT hZ w3) (mvT hZ w4) hy (own_back (W := W) hM hZ wc wz hf hl) qa qc hg hsize (Steps.refl _) hlen hstack hW hdg (fun _ _ => ⟨rfl, eT, hc, hs⟩)
  dsimp only [Pt.U, Pt.locs, Pt.cells, Pt.slots] at X' l1 y1 z1 st hQ
  subst l1 y1 z1
  exact ⟨v, T', L, X', hQ, fun t k => st.trans k⟩
end OwnLayer
/-! own layer 2: an array as a function of the place -/
def OArr (Z : State) (h : Heap) (a : Addr) (ty : FieldType) (N : Nat) (f : Nat → Value) : Prop := ∃ c : Cell, Arr Z h a c ty ∧ c.slots.size = N ∧ N < 2 ^ 31 ∧ ∀ i, i < N → c.slots[i]? = some (f i)
section OwnArr
variable {Z : State} {h h' : Heap} {a b : Addr} {ty : FieldType} {N : Nat} {f : Nat → Value} {ws : List Addr} {sl : Nat} {v : Value}
theorem OArr.lt (F : OArr Z h a ty N f) : a < h.size := by obtain ⟨c, A, -⟩ := F; exact A.lt
theorem OArr.ext (F : OArr Z h a ty N f) (E : Ext h h') : OArr Z h' a ty N f := by obtain ⟨c, A, r⟩ := F; exact ⟨c, A.ext E, r⟩
theorem OArr.other (F : OArr Z h b ty N f) (W : Wr h h' a sl v) (q : b ≠ a) : OArr Z h' b ty N f := by obtain ⟨c, A, r⟩ := F; exact ⟨c, A.other W q, r⟩
theorem OArr.keep (F : OArr Z h a ty N f) (K : Keep h h' ws) (q : a ∉ ws) : OArr Z h' a ty N f := by obtain ⟨c, A, r⟩ := F; exact ⟨c, ⟨K.2.1 a c A.1 q, A.2⟩, r⟩
theorem OArr.set (F : OArr Z h a ty N f) {j : Nat} (W : Wr h h' a j v) : OArr Z h' a ty N (fun i => if i = j then v else f i) := by
  obtain ⟨c, A, S, B, H⟩ := F
  refine ⟨_, A.same W, by rw [sz_set]; exact S, B, fun i hi => ?_⟩
  show (c.slots.setIfInBounds j v)[i]? = some (if i = j then v else f i)
  by_cases q : i = j
  · subst q; simp [S, hi]
  · rw [Array.getElem?_setIfInBounds_ne (Ne.symm q), if_neg q]; exact H i hi
theorem OArr.setI {g : Nat → Int32} (F : OArr Z h a ty N (fun i => .int (g i))) {j : Nat} {x : Int32} (W : Wr h h' a j (.int x)) : OArr Z h' a ty N (fun i => .int (if i = j then x else g i)) := by
  have q := F.set W
  have e : (fun i => if i = j then Value.int x else Value.int (g i)) = fun i => Value.int (if i = j then x else g i) := by funext i; split <;> rfl
  rw [e] at q; exact q
theorem OArr.setJ {g : Nat → Int64} (F : OArr Z h a ty N (fun i => .long (g i))) {j : Nat} {x : Int64} (W : Wr h h' a j (.long x)) : OArr Z h' a ty N (fun i => .long (if i = j then x else g i)) := by
  have q := F.set W
  have e : (fun i => if i = j then Value.long x else Value.long (g i)) = fun i => Value.long (if i = j then x else g i) := by funext i; split <;> rfl
  rw [e] at q; exact q
theorem own_clamp (z : Int32) : z.toNatClampNeg < 2 ^ 31 := by have := z.toInt_lt; simp only [Int32.toNatClampNeg]; omega
theorem OArr.new {k : ClassId} {z : Int32} (A : Arr Z h a (newA k ty z) ty) (q : z.toNatClampNeg = N) : OArr Z h a ty N (fun _ => defaultValue ty) :=
  ⟨_, A, by rw [sz_new]; exact q, by rw [← q]; exact own_clamp z, fun i hi => by rw [← q] at hi; simp [newA, hi]⟩
theorem OArr.of {k : ClassId} {z : Int32} {vs : List Value} {dv : Value} (A : Arv Z h a k ty z vs dv) (q : z.toNatClampNeg = N) (r : ∀ i, i < N → vs.getD i dv = f i) : OArr Z h a ty N f := by
  obtain ⟨c, A1, -, S, -, H, -⟩ := A
  exact ⟨c, A1, by rw [S]; exact q, by rw [← q]; exact own_clamp z, fun i hi => by rw [← r i hi]; exact H i (by rw [S, q]; exact hi)⟩
theorem OArr.congr {g : Nat → Value} (F : OArr Z h a ty N f) (r : ∀ i, i < N → f i = g i) : OArr Z h a ty N g := by
  obtain ⟨c, A, S, B, H⟩ := F; exact ⟨c, A, S, B, fun i hi => by rw [← r i hi]; exact H i hi⟩
theorem own_inb {c : Cell} {j : Int32} {i : Nat} (S : c.slots.size = N) (h0 : ¬ j < 0) (hj : j.toNatClampNeg = i) (hi : i < N) : ¬ (j < 0 ∨ c.slots.size ≤ j.toNatClampNeg) := by
  rintro (q | q)
  · exact h0 q
  · rw [S, hj] at q; omega
theorem own_hv {c : Cell} {j : Int32} {i : Nat} (H : ∀ i, i < N → c.slots[i]? = some (f i)) (hj : j.toNatClampNeg = i) (hi : i < N) : c.slots[j.toNatClampNeg]? = some (f i) := by rw [hj]; exact H i hi
theorem own_len {c : Cell} {z : Int32} (S : c.slots.size = N) (q : N.toInt32 = z) : c.slots.size.toInt32 = z := by rw [S]; exact q
theorem own_wrj {j : Int32} {i : Nat} (W : Wr h h' a j.toNatClampNeg v) (hj : j.toNatClampNeg = i) : Wr h h' a i v := hj ▸ W
theorem own_nb (x : Int32) : nar .byte (x.toInt8.toInt32) = x.toInt8.toInt32 := by show (x.toInt8.toInt32).toInt8.toInt32 = _; simp
theorem own_nwb (x : Int32) : narrow .byte (.int x.toInt8.toInt32) = .int x.toInt8.toInt32 := by show Value.int ((x.toInt8.toInt32).toInt8.toInt32) = _; simp
end OwnArr
/-! own layer 4: arrays of references; calls up, private, through an interface -/
def ORef (Z : State) (h : Heap) (a : Addr) (ty : FieldType) (C : String) (N : Nat) (f : Nat → Value) : Prop := ∃ c : Cell, Arr Z h a c ty ∧ c.slots.size = N ∧ N < 2 ^ 31 ∧ (∀ i, i < N → c.slots[i]? = some (f i)) ∧ (Ovr Z c.cls C ∨ ∃ t, OvrA Z c.cls t C)
section OwnRef
variable {Z : State} {h h' : Heap} {a b : Addr} {ty : FieldType} {C : String} {N : Nat} {f : Nat → Value} {ws : List Addr} {sl : Nat} {v : Value}
theorem ORef.lt (F : ORef Z h a ty C N f) : a < h.size := by obtain ⟨c, A, -⟩ := F; exact A.lt
theorem ORef.ext (F : ORef Z h a ty C N f) (E : Ext h h') : ORef Z h' a ty C N f := by obtain ⟨c, A, r⟩ := F; exact ⟨c, A.ext E, r⟩
theorem ORef.other (F : ORef Z h b ty C N f) (W : Wr h h' a sl v) (q : b ≠ a) : ORef Z h' b ty C N f := by obtain ⟨c, A, r⟩ := F; exact ⟨c, A.other W q, r⟩
theorem ORef.keep (F : ORef Z h a ty C N f) (K : Keep h h' ws) (q : a ∉ ws) : ORef Z h' a ty C N f := by obtain ⟨c, A, r⟩ := F; exact ⟨c, ⟨K.2.1 a c A.1 q, A.2⟩, r⟩
theorem ORef.set (F : ORef Z h a ty C N f) {j : Nat} (W : Wr h h' a j v) : ORef Z h' a ty C N (fun i => if i = j then v else f i) := by
  obtain ⟨c, A, S, B, H, O⟩ := F
  refine ⟨_, A.same W, by rw [sz_set]; exact S, B, fun i hi => ?_, O⟩
  show (c.slots.setIfInBounds j v)[i]? = some (if i = j then v else f i)
  by_cases q : i = j
  · subst q; simp [S, hi]
  · rw [Array.getElem?_setIfInBounds_ne (Ne.symm q), if_neg q]; exact H i hi
theorem ORef.new {k : ClassId} {z : Int32} (A : Arr Z h a (newA k (.object C) z) (.object C)) (O : Ovr Z k C) (q : z.toNatClampNeg = N) : ORef Z h a (.object C) C N (fun _ => .null) :=
  ⟨_, A, by rw [sz_new]; exact q, by rw [← q]; exact own_clamp z, fun i hi => by rw [← q] at hi; simp [newA, hi, defaultValue], Or.inl O⟩
theorem ORef.newA {k : ClassId} {z : Int32} {t : FieldType} (A : Arr Z h a (newA k (.array t) z) (.array t)) (O : OvrA Z k t C) (q : z.toNatClampNeg = N) : ORef Z h a (.array t) C N (fun _ => .null) :=
  ⟨_, A, by rw [sz_new]; exact q, by rw [← q]; exact own_clamp z, fun i hi => by rw [← q] at hi; simp [Jvm.RoadKit.newA, hi, defaultValue], Or.inr ⟨t, O⟩⟩
theorem own_sto {c : Cell} (A : Arr Z h a c ty) (O : Ovr Z c.cls C ∨ ∃ t, OvrA Z c.cls t C) {y : Addr} (I : Ins Z h y C true) : Sto Z h a (.ref y) := by
  rcases O with O | ⟨t, O⟩
  · exact Sto.of A O I
  · exact Sto.ofVA A rfl O I
theorem ORef.congr {g : Nat → Value} (F : ORef Z h a ty C N f) (r : ∀ i, i < N → f i = g i) : ORef Z h a ty C N g := by
  obtain ⟨c, A, S, B, H, O⟩ := F; exact ⟨c, A, S, B, fun i hi => by rw [← r i hi]; exact H i hi, O⟩
end OwnRef
section OwnCalls
variable {p : Program} {l : Launch} {e : Env} {R : Room} {s : State} {m : MethodId} {args : Array Value} {below : List Frame} {meth : Method} {c : Code} {T : State} {locs : List Loc} {cells slots : Nat} {Z : State} {a0 : Array Value} {h : Heap}
variable {Q : Option Value → Heap → List Loc → Prop}
theorem own_virtualUp (X : Stand p l e R s m args below meth c T locs cells slots) (hx : p.tables.exec = Jvm.exec) (hZ : Z.Warmed39 s.vm) {own C owner : String} {index : Nat} {y z : MethodName} {bytes : ByteArray} {maxL : Nat} {ret : Option FieldType} {rm : Room} {W : Nat} {a : Addr} {argsL rest : List Value}
    (hown : s.vm.findClass own = some m.cls) (w1 : (Jvm.Cond.methodLink own index y).before a0 Z = true) (w2 : (Jvm.Cond.sameMethod y.cls owner y.name y.desc).before a0 Z = true) (w5 : (Jvm.Cond.declares ⟨owner, y.name, y.desc⟩).before a0 Z = true) (w3 : (Jvm.Cond.selects C y z).before a0 Z = true) (w4 : (Jvm.Cond.instanceMethod z).before a0 Z = true) (wz : (Jvm.Cond.initialized z.cls).before a0 Z = true) (wc : (Jvm.Cond.code z bytes maxL ret).before a0 Z = true)
    (hM : OMet l Z z bytes maxL ret rm (.ref a :: argsL).toArray h Q) (eT : T.heap = h) (E : Exa Z h a C) {g : JFrame} (hg : g.method = m) (hsize : g.locals.size = c.maxLocals) (hlen : ∀ sig, parseMethodDescriptor y.desc = some sig → argsL.length = sig.parameters.length)
    (hstack : g.stack = argsL.reverse ++ .ref a :: rest) (hW : 2 * g.monitorRoom + (rest.map fun v => v.category).sum ≤ W) (hdg : decode c.code g.pc = .ok (.invokevirtual index, 3))
    (hf : rm.frames + 1 ≤ R.frames) (hl : W + (maxL + 11) + rm.locals ≤ R.locals) (hc : cells + rm.cells ≤ R.cells) (hs : slots + rm.slots ≤ R.slots)
    (hy : owner ≠ "java/lang/invoke/MethodHandle" ∧ owner ≠ "java/lang/invoke/VarHandle" := by decide) :
    ∃ (v : Option Value) (T' : State) (L : List Loc), Stand p l e R s m args below meth c T' (locs ++ L) (cells + rm.cells) (slots + rm.slots) ∧ Q v T'.heap L ∧
      ∀ target, Steps p.tables e below (T'.setTop { g with pc := g.pc + 3, stack := v.toList ++ rest }) target → Steps p.tables e below (T.setTop g) target := by
  obtain ⟨cq, kq, qa, qb, qc⟩ := isOf hZ eT E
  obtain ⟨v, vm₁, ⟨T', L', k', n'⟩, -, X', ⟨L, hQ, l1, y1, z1⟩, st⟩ := X.virtualBackUp hx hown (mvT hZ w1) (mvT hZ w2) (mvT hZ w5) hy (mvT hZ w3) (mvT hZ w4) (own_back (W := W) hM hZ wc wz hf hl) qa qc hg hsize (Steps.refl _) hlen hstack hW hdg (fun _ _ => ⟨rfl, eT, hc, hs⟩)
  dsimp only [Pt.U, Pt.locs, Pt.cells, Pt.slots] at X' l1 y1 z1 st hQ
  subst l1 y1 z1
  exact ⟨v, T', L, X', hQ, fun t k => st.trans k⟩
theorem own_private (X : Stand p l e R s m args below meth c T locs cells slots) (hx : p.tables.exec = Jvm.exec) (hZ : Z.Warmed39 s.vm) {own C K : String} {u : MethodName} {index : Nat} {y : MethodName} {bytes : ByteArray} {maxL : Nat} {ret : Option FieldType} {rm : Room} {W : Nat} {a : Addr} {argsL rest : List Value}
    (hown : s.vm.findClass own = some m.cls) (w1 : (Jvm.Cond.methodLink own index y).before a0 Z = true) (w4 : (Jvm.Cond.instanceMethod y).before a0 Z = true) (w5 : (Jvm.Cond.privateMethod y).before a0 Z = true) (w6 : (Jvm.Cond.selects K u u).before a0 Z = true) (hu : u.cls = y.cls) (wz : (Jvm.Cond.initialized y.cls).before a0 Z = true) (wc : (Jvm.Cond.code y bytes maxL ret).before a0 Z = true)
    (hM : OMet l Z y bytes maxL ret rm (.ref a :: argsL).toArray h Q) (eT : T.heap = h) (E : Exa Z h a C) {g : JFrame} (hg : g.method = m) (hsize : g.locals.size = c.maxLocals) (hlen : ∀ sig, parseMethodDescriptor y.desc = some sig → argsL.length = sig.parameters.length)
    (hstack : g.stack = argsL.reverse ++ .ref a :: rest) (hW : 2 * g.monitorRoom + (rest.map fun v => v.category).sum ≤ W) (hdg : decode c.code g.pc = .ok (.invokevirtual index, 3))
    (hf : rm.frames + 1 ≤ R.frames) (hl : W + (maxL + 11) + rm.locals ≤ R.locals) (hc : cells + rm.cells ≤ R.cells) (hs : slots + rm.slots ≤ R.slots)
    (hy : y.cls ≠ "java/lang/invoke/MethodHandle" ∧ y.cls ≠ "java/lang/invoke/VarHandle" := by decide) :
    ∃ (v : Option Value) (T' : State) (L : List Loc), Stand p l e R s m args below meth c T' (locs ++ L) (cells + rm.cells) (slots + rm.slots) ∧ Q v T'.heap L ∧
      ∀ target, Steps p.tables e below (T'.setTop { g with pc := g.pc + 3, stack := v.toList ++ rest }) target → Steps p.tables e below (T.setTop g) target := by
  obtain ⟨cell, hcell, hobj⟩ := E.cell
  have hpriv : s.PrivateAt y := Cond.privateMethod_at (mvP hZ w5 (args := args))
  have hinst : (Jvm.Cond.instanceMethod y).before args s = true := mvT hZ w4
  obtain ⟨c2, r2, m2, -, -, q3, -, kP, hkP, hkPi⟩ := Cond.selects_spec (mvT hZ w6 : (Jvm.Cond.selects K u u).before args s = true)
  have hfc : s.vm.findClass y.cls = some m2.cls := by rw [← hu]; exact findClass_of_methodNamed q3
  have hsel := selects_self_of_private (args := args) hfc hkP hkPi hpriv hinst hy
  obtain ⟨v, vm₁, ⟨T', L', k', n'⟩, -, X', ⟨L, hQ, l1, y1, z1⟩, st⟩ := X.privateBack hx hown (mvT hZ w1) hinst hsel hpriv (mvT hZ wc) hy (own_back (W := W) hM hZ wc wz hf hl) hg hsize (Steps.refl _) (by rw [eT]; exact hcell) hobj hlen hstack hW hdg (fun _ _ => ⟨rfl, eT, hc, hs⟩)
  dsimp only [Pt.U, Pt.locs, Pt.cells, Pt.slots] at X' l1 y1 z1 st hQ
  subst l1 y1 z1
  exact ⟨v, T', L, X', hQ, fun t k => st.trans k⟩
theorem own_face (X : Stand p l e R s m args below meth c T locs cells slots) (hx : p.tables.exec = Jvm.exec) (hZ : Z.Warmed39 s.vm) {own C : String} {index count : Nat} {y z : MethodName} {bytes : ByteArray} {maxL : Nat} {ret : Option FieldType} {rm : Room} {W : Nat} {a : Addr} {argsL rest : List Value}
    (hown : s.vm.findClass own = some m.cls) (w1 : (Jvm.Cond.methodLink own index y).before a0 Z = true) (w2 : (Jvm.Cond.declares y).before a0 Z = true) (w5 : (Jvm.Cond.interfaceMethod y.cls y.cls y.name y.desc).before args s = true) (w3 : (Jvm.Cond.selects C y z).before a0 Z = true) (w4 : (Jvm.Cond.instanceMethod z).before a0 Z = true) (w6 : (Jvm.Cond.publicMethod z).before a0 Z = true) (w7 : (Jvm.Cond.unhidden C y.name y.desc).before a0 Z = true) (w8 : (Jvm.Cond.castable C y.cls).before a0 Z = true) (wz : (Jvm.Cond.initialized z.cls).before a0 Z = true) (wc : (Jvm.Cond.code z bytes maxL ret).before a0 Z = true)
    (hM : OMet l Z z bytes maxL ret rm (.ref a :: argsL).toArray h Q) (eT : T.heap = h) (E : Exa Z h a C) {g : JFrame} (hg : g.method = m) (hsize : g.locals.size = c.maxLocals) (hlen : ∀ sig, parseMethodDescriptor y.desc = some sig → argsL.length = sig.parameters.length)
    (hstack : g.stack = argsL.reverse ++ .ref a :: rest) (hW : 2 * g.monitorRoom + (rest.map fun v => v.category).sum ≤ W) (hdg : decode c.code g.pc = .ok (.invokeinterface index count, 5))
    (hf : rm.frames + 1 ≤ R.frames) (hl : W + (maxL + 11) + rm.locals ≤ R.locals) (hc : cells + rm.cells ≤ R.cells) (hs : slots + rm.slots ≤ R.slots)
    (hy : y.cls ≠ "java/lang/invoke/MethodHandle" ∧ y.cls ≠ "java/lang/invoke/VarHandle" := by decide) :
    ∃ (v : Option Value) (T' : State) (L : List Loc), Stand p l e R s m args below meth c T' (locs ++ L) (cells + rm.cells) (slots + rm.slots) ∧ Q v T'.heap L ∧
      ∀ target, Steps p.tables e below (T'.setTop { g with pc := g.pc + 5, stack := v.toList ++ rest }) target → Steps p.tables e below (T.setTop g) target := by
  obtain ⟨cq, kq, qa, qb, qc⟩ := isOf hZ eT E
  obtain ⟨v, vm₁, ⟨T', L', k', n'⟩, -, X', ⟨L, hQ, l1, y1, z1⟩, st⟩ := X.interfaceBack hx hown (mvT hZ w1) (mvT hZ w2) w5 (mvT hZ w3) (mvT hZ w4) (mvT hZ w6) (mvT hZ w7) (mvT hZ w8) hy (own_back (W := W) hM hZ wc wz hf hl) qa qb qc hg hsize (Steps.refl _) hlen hstack hW hdg (fun _ _ => ⟨rfl, eT, hc, hs⟩)
  dsimp only [Pt.U, Pt.locs, Pt.cells, Pt.slots] at X' l1 y1 z1 st hQ
  subst l1 y1 z1
  exact ⟨v, T', L, X', hQ, fun t k => st.trans k⟩
end OwnCalls
theorem own_pn1 : plainFor (⟨"com/example/notation_search/notationsearch/math/SymbolCount", "<init>", "()V"⟩ : MethodName) = true := plainFor_of_name (by first | (simp [plainName, overriddenIn]; done) | decide +kernel)
theorem own_ef1_R (m : MethodId) (x0 : Addr) : entryFrame m #[(.ref x0)] 1 = mkF m 0 #[.val (.ref x0)] [] := by first | (simp [entryFrame, mkF, argsToLocals, Value.category]; done) | rfl
theorem own_d1_0 : decode prog_38_method_1_code 0 = .ok (.aload_n 0, 1) := by decide +kernel
theorem own_d1_1 : decode prog_38_method_1_code 1 = .ok (.invokespecial 1, 3) := by decide +kernel
theorem own_d1_4 : decode prog_38_method_1_code 4 = .ok (.return_, 1) := by decide +kernel
theorem own_pn13 : plainFor (⟨"java/util/AbstractCollection", "<init>", "()V"⟩ : MethodName) = true := plainFor_of_name (by first | (simp [plainName, overriddenIn]; done) | decide +kernel)
theorem own_ef13_R (m : MethodId) (x0 : Addr) : entryFrame m #[(.ref x0)] 1 = mkF m 0 #[.val (.ref x0)] [] := by first | (simp [entryFrame, mkF, argsToLocals, Value.category]; done) | rfl
theorem own_d13_0 : decode jdk_22_method_1_code 0 = .ok (.aload_n 0, 1) := by decide +kernel
theorem own_d13_1 : decode jdk_22_method_1_code 1 = .ok (.invokespecial 1, 3) := by decide +kernel
theorem own_d13_4 : decode jdk_22_method_1_code 4 = .ok (.return_, 1) := by decide +kernel
theorem own_pn15 : plainFor (⟨"java/lang/Record", "<init>", "()V"⟩ : MethodName) = true := plainFor_of_name (by first | (simp [plainName, overriddenIn]; done) | decide +kernel)
theorem own_ef15_R (m : MethodId) (x0 : Addr) : entryFrame m #[(.ref x0)] 1 = mkF m 0 #[.val (.ref x0)] [] := by first | (simp [entryFrame, mkF, argsToLocals, Value.category]; done) | rfl
theorem own_d15_0 : decode jdk_30_method_1_code 0 = .ok (.aload_n 0, 1) := by decide +kernel
theorem own_d15_1 : decode jdk_30_method_1_code 1 = .ok (.invokespecial 1, 3) := by decide +kernel
theorem own_d15_4 : decode jdk_30_method_1_code 4 = .ok (.return_, 1) := by decide +kernel
theorem own_pn12 : plainFor (⟨"java/util/AbstractList", "<init>", "()V"⟩ : MethodName) = true := plainFor_of_name (by first | (simp [plainName, overriddenIn]; done) | decide +kernel)
theorem own_ef12_R (m : MethodId) (x0 : Addr) : entryFrame m #[(.ref x0)] 1 = mkF m 0 #[.val (.ref x0)] [] := by first | (simp [entryFrame, mkF, argsToLocals, Value.category]; done) | rfl
theorem own_d12_0 : decode jdk_39_method_1_code 0 = .ok (.aload_n 0, 1) := by decide +kernel
theorem own_d12_1 : decode jdk_39_method_1_code 1 = .ok (.invokespecial 1, 3) := by decide +kernel
theorem own_pd0 : parseMethodDescriptor "()V" = some ⟨[], none⟩ := by decide +kernel
theorem own_d12_4 : decode jdk_39_method_1_code 4 = .ok (.aload_n 0, 1) := by decide +kernel
theorem own_d12_5 : decode jdk_39_method_1_code 5 = .ok (.iconst 0, 1) := by decide +kernel
theorem own_d12_6 : decode jdk_39_method_1_code 6 = .ok (.putfield 7, 3) := by decide +kernel
theorem own_d12_9 : decode jdk_39_method_1_code 9 = .ok (.return_, 1) := by decide +kernel
theorem own_pn11 : plainFor (⟨"java/util/ArrayList", "<init>", "()V"⟩ : MethodName) = true := plainFor_of_name (by first | (simp [plainName, overriddenIn]; done) | decide +kernel)
theorem own_ef11_R (m : MethodId) (x0 : Addr) : entryFrame m #[(.ref x0)] 1 = mkF m 0 #[.val (.ref x0)] [] := by first | (simp [entryFrame, mkF, argsToLocals, Value.category]; done) | rfl
theorem own_d11_0 : decode jdk_38_method_2_code 0 = .ok (.aload_n 0, 1) := by decide +kernel
theorem own_d11_1 : decode jdk_38_method_2_code 1 = .ok (.invokespecial 1, 3) := by decide +kernel
theorem own_d11_4 : decode jdk_38_method_2_code 4 = .ok (.aload_n 0, 1) := by decide +kernel
theorem own_d11_5 : decode jdk_38_method_2_code 5 = .ok (.getstatic 39, 3) := by decide +kernel
theorem own_d11_8 : decode jdk_38_method_2_code 8 = .ok (.putfield 9, 3) := by decide +kernel
theorem own_d11_11 : decode jdk_38_method_2_code 11 = .ok (.return_, 1) := by decide +kernel
theorem own_pn3 : plainFor (⟨"com/example/notation_search/notationsearch/math/Row", "<init>", "(Lcom/example/notation_search/notationsearch/math/SymbolCount;)V"⟩ : MethodName) = true := plainFor_of_name (by first | (simp [plainName, overriddenIn]; done) | decide +kernel)
theorem own_ef3_RR (m : MethodId) (x0 : Addr) (x1 : Addr) : entryFrame m #[(.ref x0), (.ref x1)] 2 = mkF m 0 #[.val (.ref x0), .val (.ref x1)] [] := by first | (simp [entryFrame, mkF, argsToLocals, Value.category]; done) | rfl
theorem own_d3_0 : decode prog_33_method_1_code 0 = .ok (.aload_n 0, 1) := by decide +kernel
theorem own_d3_1 : decode prog_33_method_1_code 1 = .ok (.invokespecial 1, 3) := by decide +kernel
theorem own_d3_4 : decode prog_33_method_1_code 4 = .ok (.aload_n 0, 1) := by decide +kernel
theorem own_d3_5 : decode prog_33_method_1_code 5 = .ok (.aload_n 1, 1) := by decide +kernel
theorem own_d3_6 : decode prog_33_method_1_code 6 = .ok (.putfield 7, 3) := by decide +kernel
theorem own_d3_9 : decode prog_33_method_1_code 9 = .ok (.return_, 1) := by decide +kernel
theorem own_pn4 : plainFor (⟨"com/example/notation_search/notationsearch/math/RowReleasePinLaw", "relation", "(I)Lcom/example/notation_search/notationsearch/math/Relation;"⟩ : MethodName) = true := plainFor_of_name (by first | (simp [plainName, overriddenIn]; done) | decide +kernel)
theorem own_ef4_I (m : MethodId) (x0 : Int32) : entryFrame m #[(.int x0)] 2 = mkF m 0 #[.val (.int x0), .unset] [] := by first | (simp [entryFrame, mkF, argsToLocals, Value.category]; done) | rfl
theorem own_d4_0 : decode method_2_code 0 = .ok (.iload_n 0, 1) := by decide +kernel
theorem own_d4_1 : decode method_2_code 1 = .ok (.bipush 7, 2) := by decide +kernel
theorem own_d4_3 : decode method_2_code 3 = .ok (.iand, 1) := by decide +kernel
theorem own_d4_4 : decode method_2_code 4 = .ok (.istore_n 1, 1) := by decide +kernel
theorem own_d4_5 : decode method_2_code 5 = .ok (.iload_n 1, 1) := by decide +kernel
theorem own_d4_6 : decode method_2_code 6 = .ok (.ifCond .ne 7, 3) := by decide +kernel
theorem own_d4_9 : decode method_2_code 9 = .ok (.getstatic 7, 3) := by decide +kernel
theorem own_d4_12 : decode method_2_code 12 = .ok (.areturn, 1) := by decide +kernel
theorem own_d4_13 : decode method_2_code 13 = .ok (.iload_n 1, 1) := by decide +kernel
theorem own_d4_14 : decode method_2_code 14 = .ok (.iconst 1, 1) := by decide +kernel
theorem own_d4_15 : decode method_2_code 15 = .ok (.if_icmp .ne 7, 3) := by decide +kernel
theorem own_d4_18 : decode method_2_code 18 = .ok (.getstatic 13, 3) := by decide +kernel
theorem own_d4_21 : decode method_2_code 21 = .ok (.areturn, 1) := by decide +kernel
theorem own_d4_22 : decode method_2_code 22 = .ok (.iload_n 1, 1) := by decide +kernel
theorem own_d4_23 : decode method_2_code 23 = .ok (.iconst 2, 1) := by decide +kernel
theorem own_d4_24 : decode method_2_code 24 = .ok (.if_icmp .ne 7, 3) := by decide +kernel
theorem own_d4_27 : decode method_2_code 27 = .ok (.getstatic 16, 3) := by decide +kernel
theorem own_d4_30 : decode method_2_code 30 = .ok (.areturn, 1) := by decide +kernel
theorem own_d4_31 : decode method_2_code 31 = .ok (.iload_n 1, 1) := by decide +kernel
theorem own_d4_32 : decode method_2_code 32 = .ok (.iconst 3, 1) := by decide +kernel
theorem own_d4_33 : decode method_2_code 33 = .ok (.if_icmp .ne 7, 3) := by decide +kernel
theorem own_d4_36 : decode method_2_code 36 = .ok (.getstatic 19, 3) := by decide +kernel
theorem own_d4_39 : decode method_2_code 39 = .ok (.areturn, 1) := by decide +kernel
theorem own_d4_40 : decode method_2_code 40 = .ok (.iload_n 1, 1) := by decide +kernel
theorem own_d4_41 : decode method_2_code 41 = .ok (.iconst 4, 1) := by decide +kernel
theorem own_d4_42 : decode method_2_code 42 = .ok (.if_icmp .ne 7, 3) := by decide +kernel
theorem own_d4_45 : decode method_2_code 45 = .ok (.getstatic 22, 3) := by decide +kernel
theorem own_d4_48 : decode method_2_code 48 = .ok (.areturn, 1) := by decide +kernel
theorem own_d4_49 : decode method_2_code 49 = .ok (.iload_n 1, 1) := by decide +kernel
theorem own_d4_50 : decode method_2_code 50 = .ok (.iconst 5, 1) := by decide +kernel
theorem own_d4_51 : decode method_2_code 51 = .ok (.if_icmp .ne 7, 3) := by decide +kernel
theorem own_d4_54 : decode method_2_code 54 = .ok (.getstatic 25, 3) := by decide +kernel
theorem own_d4_57 : decode method_2_code 57 = .ok (.areturn, 1) := by decide +kernel
theorem own_d4_58 : decode method_2_code 58 = .ok (.iload_n 1, 1) := by decide +kernel
theorem own_d4_59 : decode method_2_code 59 = .ok (.bipush 6, 2) := by decide +kernel
theorem own_d4_61 : decode method_2_code 61 = .ok (.if_icmp .ne 7, 3) := by decide +kernel
theorem own_d4_64 : decode method_2_code 64 = .ok (.getstatic 28, 3) := by decide +kernel
theorem own_d4_67 : decode method_2_code 67 = .ok (.areturn, 1) := by decide +kernel
theorem own_d4_68 : decode method_2_code 68 = .ok (.getstatic 31, 3) := by decide +kernel
theorem own_d4_71 : decode method_2_code 71 = .ok (.areturn, 1) := by decide +kernel
theorem own_pn6 : plainFor (⟨"java/util/List", "of", "()Ljava/util/List;"⟩ : MethodName) = true := plainFor_of_name (by first | (simp [plainName, overriddenIn]; done) | decide +kernel)
theorem own_ef6_ (m : MethodId)  : entryFrame m #[] 0 = mkF m 0 #[] [] := by first | (simp [entryFrame, mkF, argsToLocals, Value.category]; done) | rfl
theorem own_d6_0 : decode jdk_40_method_36_code 0 = .ok (.getstatic 90, 3) := by decide +kernel
theorem own_d6_3 : decode jdk_40_method_36_code 3 = .ok (.areturn, 1) := by decide +kernel
theorem own_pn7 : plainFor (⟨"java/util/ImmutableCollections$ListN", "size", "()I"⟩ : MethodName) = true := plainFor_of_name (by first | (simp [plainName, overriddenIn]; done) | decide +kernel)
theorem own_ef7_R (m : MethodId) (x0 : Addr) : entryFrame m #[(.ref x0)] 1 = mkF m 0 #[.val (.ref x0)] [] := by first | (simp [entryFrame, mkF, argsToLocals, Value.category]; done) | rfl
theorem own_d7_0 : decode jdk_45_method_3_code 0 = .ok (.aload_n 0, 1) := by decide +kernel
theorem own_d7_1 : decode jdk_45_method_3_code 1 = .ok (.getfield 7, 3) := by decide +kernel
theorem own_d7_4 : decode jdk_45_method_3_code 4 = .ok (.arraylength, 1) := by decide +kernel
theorem own_d7_5 : decode jdk_45_method_3_code 5 = .ok (.ireturn, 1) := by decide +kernel
theorem own_pn8 : plainFor (⟨"java/util/ImmutableCollections$ListN", "isEmpty", "()Z"⟩ : MethodName) = true := plainFor_of_name (by first | (simp [plainName, overriddenIn]; done) | decide +kernel)
theorem own_ef8_R (m : MethodId) (x0 : Addr) : entryFrame m #[(.ref x0)] 1 = mkF m 0 #[.val (.ref x0)] [] := by first | (simp [entryFrame, mkF, argsToLocals, Value.category]; done) | rfl
theorem own_d8_0 : decode jdk_45_method_2_code 0 = .ok (.aload_n 0, 1) := by decide +kernel
theorem own_d8_1 : decode jdk_45_method_2_code 1 = .ok (.getfield 7, 3) := by decide +kernel
theorem own_d8_4 : decode jdk_45_method_2_code 4 = .ok (.arraylength, 1) := by decide +kernel
theorem own_d8_5 : decode jdk_45_method_2_code 5 = .ok (.ifCond .ne 7, 3) := by decide +kernel
theorem own_d8_8 : decode jdk_45_method_2_code 8 = .ok (.iconst 1, 1) := by decide +kernel
theorem own_d8_9 : decode jdk_45_method_2_code 9 = .ok (.goto 4, 3) := by decide +kernel
theorem own_d8_13 : decode jdk_45_method_2_code 13 = .ok (.ireturn, 1) := by decide +kernel
theorem own_pn5 : plainFor (⟨"com/example/notation_search/notationsearch/math/Row", "release", "()Ljava/util/List;"⟩ : MethodName) = true := plainFor_of_name (by first | (simp [plainName, overriddenIn]; done) | decide +kernel)
theorem own_ef5_R (m : MethodId) (x0 : Addr) : entryFrame m #[(.ref x0)] 2 = mkF m 0 #[.val (.ref x0), .unset] [] := by first | (simp [entryFrame, mkF, argsToLocals, Value.category]; done) | rfl
theorem own_d5_0 : decode prog_33_method_9_code 0 = .ok (.aload_n 0, 1) := by decide +kernel
theorem own_d5_1 : decode prog_33_method_9_code 1 = .ok (.getfield 44, 3) := by decide +kernel
theorem own_d5_4 : decode prog_33_method_9_code 4 = .ok (.ifnonnull 9, 3) := by decide +kernel
theorem own_d5_7 : decode prog_33_method_9_code 7 = .ok (.invokestatic 65, 3) := by decide +kernel
theorem own_pd1 : parseMethodDescriptor "()Ljava/util/List;" = some ⟨[], some (.object "java/util/List")⟩ := by decide +kernel
theorem own_d5_10 : decode prog_33_method_9_code 10 = .ok (.goto 7, 3) := by decide +kernel
theorem own_d5_17 : decode prog_33_method_9_code 17 = .ok (.astore_n 1, 1) := by decide +kernel
theorem own_d5_18 : decode prog_33_method_9_code 18 = .ok (.aload_n 0, 1) := by decide +kernel
theorem own_d5_19 : decode prog_33_method_9_code 19 = .ok (.aconst_null, 1) := by decide +kernel
theorem own_d5_20 : decode prog_33_method_9_code 20 = .ok (.putfield 44, 3) := by decide +kernel
theorem own_d5_23 : decode prog_33_method_9_code 23 = .ok (.aload_n 1, 1) := by decide +kernel
theorem own_d5_24 : decode prog_33_method_9_code 24 = .ok (.areturn, 1) := by decide +kernel
theorem own_d5_13 : decode prog_33_method_9_code 13 = .ok (.aload_n 0, 1) := by decide +kernel
theorem own_d5_14 : decode prog_33_method_9_code 14 = .ok (.getfield 44, 3) := by decide +kernel
theorem own_pn9 : plainFor (⟨"com/example/notation_search/notationsearch/math/Row", "followed", "()Ljava/util/List;"⟩ : MethodName) = true := plainFor_of_name (by first | (simp [plainName, overriddenIn]; done) | decide +kernel)
theorem own_ef9_R (m : MethodId) (x0 : Addr) : entryFrame m #[(.ref x0)] 1 = mkF m 0 #[.val (.ref x0)] [] := by first | (simp [entryFrame, mkF, argsToLocals, Value.category]; done) | rfl
theorem own_d9_0 : decode prog_33_method_8_code 0 = .ok (.aload_n 0, 1) := by decide +kernel
theorem own_d9_1 : decode prog_33_method_8_code 1 = .ok (.getfield 62, 3) := by decide +kernel
theorem own_d9_4 : decode prog_33_method_8_code 4 = .ok (.ifnonnull 9, 3) := by decide +kernel
theorem own_d9_7 : decode prog_33_method_8_code 7 = .ok (.invokestatic 65, 3) := by decide +kernel
theorem own_d9_10 : decode prog_33_method_8_code 10 = .ok (.goto 7, 3) := by decide +kernel
theorem own_d9_17 : decode prog_33_method_8_code 17 = .ok (.areturn, 1) := by decide +kernel
theorem own_pn21 : plainFor (⟨"com/example/notation_search/notationsearch/math/Row", "append", "(Lcom/example/notation_search/notationsearch/math/Row;)V"⟩ : MethodName) = true := plainFor_of_name (by first | (simp [plainName, overriddenIn]; done) | decide +kernel)
theorem own_ef21_RR (m : MethodId) (x0 : Addr) (x1 : Addr) : entryFrame m #[(.ref x0), (.ref x1)] 2 = mkF m 0 #[.val (.ref x0), .val (.ref x1)] [] := by first | (simp [entryFrame, mkF, argsToLocals, Value.category]; done) | rfl
theorem own_d21_0 : decode prog_33_method_6_code 0 = .ok (.aload_n 1, 1) := by decide +kernel
theorem own_d21_1 : decode prog_33_method_6_code 1 = .ok (.getfield 13, 3) := by decide +kernel
theorem own_d21_4 : decode prog_33_method_6_code 4 = .ok (.ifnonnull 9, 3) := by decide +kernel
theorem own_d21_7 : decode prog_33_method_6_code 7 = .ok (.aload_n 0, 1) := by decide +kernel
theorem own_d21_8 : decode prog_33_method_6_code 8 = .ok (.aconst_null, 1) := by decide +kernel
theorem own_d21_9 : decode prog_33_method_6_code 9 = .ok (.putfield 20, 3) := by decide +kernel
theorem own_d21_12 : decode prog_33_method_6_code 12 = .ok (.return_, 1) := by decide +kernel
theorem own_pn14 : plainFor (⟨"com/example/notation_search/notationsearch/math/Row$Script", "<init>", "(Lcom/example/notation_search/notationsearch/math/Relation;Lcom/example/notation_search/notationsearch/math/Row;Lcom/example/notation_search/notationsearch/math/Symbol;)V"⟩ : MethodName) = true := plainFor_of_name (by first | (simp [plainName, overriddenIn]; done) | decide +kernel)
theorem own_ef14_RRRN (m : MethodId) (x0 : Addr) (x1 : Addr) (x2 : Addr) : entryFrame m #[(.ref x0), (.ref x1), (.ref x2), .null] 4 = mkF m 0 #[.val (.ref x0), .val (.ref x1), .val (.ref x2), .val .null] [] := by first | (simp [entryFrame, mkF, argsToLocals, Value.category]; done) | rfl
theorem own_d14_0 : decode prog_34_method_1_code 0 = .ok (.aload_n 0, 1) := by decide +kernel
theorem own_d14_1 : decode prog_34_method_1_code 1 = .ok (.invokespecial 1, 3) := by decide +kernel
theorem own_d14_4 : decode prog_34_method_1_code 4 = .ok (.aload_n 0, 1) := by decide +kernel
theorem own_d14_5 : decode prog_34_method_1_code 5 = .ok (.aload_n 1, 1) := by decide +kernel
theorem own_d14_6 : decode prog_34_method_1_code 6 = .ok (.putfield 7, 3) := by decide +kernel
theorem own_d14_9 : decode prog_34_method_1_code 9 = .ok (.aload_n 0, 1) := by decide +kernel
theorem own_d14_10 : decode prog_34_method_1_code 10 = .ok (.aload_n 2, 1) := by decide +kernel
theorem own_d14_11 : decode prog_34_method_1_code 11 = .ok (.putfield 13, 3) := by decide +kernel
theorem own_d14_14 : decode prog_34_method_1_code 14 = .ok (.aload_n 0, 1) := by decide +kernel
theorem own_d14_15 : decode prog_34_method_1_code 15 = .ok (.aload_n 3, 1) := by decide +kernel
theorem own_d14_16 : decode prog_34_method_1_code 16 = .ok (.putfield 17, 3) := by decide +kernel
theorem own_d14_19 : decode prog_34_method_1_code 19 = .ok (.return_, 1) := by decide +kernel
theorem own_pn28 : plainFor (⟨"com/example/notation_search/notationsearch/math/Row$Script", "relation", "()Lcom/example/notation_search/notationsearch/math/Relation;"⟩ : MethodName) = true := plainFor_of_name (by first | (simp [plainName, overriddenIn]; done) | decide +kernel)
theorem own_ef28_R (m : MethodId) (x0 : Addr) : entryFrame m #[(.ref x0)] 1 = mkF m 0 #[.val (.ref x0)] [] := by first | (simp [entryFrame, mkF, argsToLocals, Value.category]; done) | rfl
theorem own_d28_0 : decode prog_34_method_5_code 0 = .ok (.aload_n 0, 1) := by decide +kernel
theorem own_d28_1 : decode prog_34_method_5_code 1 = .ok (.getfield 7, 3) := by decide +kernel
theorem own_d28_4 : decode prog_34_method_5_code 4 = .ok (.areturn, 1) := by decide +kernel
theorem own_pn29 : plainFor (⟨"com/example/notation_search/notationsearch/math/Row$Script", "region", "()Lcom/example/notation_search/notationsearch/math/Row;"⟩ : MethodName) = true := plainFor_of_name (by first | (simp [plainName, overriddenIn]; done) | decide +kernel)
theorem own_ef29_R (m : MethodId) (x0 : Addr) : entryFrame m #[(.ref x0)] 1 = mkF m 0 #[.val (.ref x0)] [] := by first | (simp [entryFrame, mkF, argsToLocals, Value.category]; done) | rfl
theorem own_d29_0 : decode prog_34_method_6_code 0 = .ok (.aload_n 0, 1) := by decide +kernel
theorem own_d29_1 : decode prog_34_method_6_code 1 = .ok (.getfield 13, 3) := by decide +kernel
theorem own_d29_4 : decode prog_34_method_6_code 4 = .ok (.areturn, 1) := by decide +kernel
theorem own_pn30 : plainFor (⟨"com/example/notation_search/notationsearch/math/Row$Script", "before", "()Lcom/example/notation_search/notationsearch/math/Symbol;"⟩ : MethodName) = true := plainFor_of_name (by first | (simp [plainName, overriddenIn]; done) | decide +kernel)
theorem own_ef30_R (m : MethodId) (x0 : Addr) : entryFrame m #[(.ref x0)] 1 = mkF m 0 #[.val (.ref x0)] [] := by first | (simp [entryFrame, mkF, argsToLocals, Value.category]; done) | rfl
theorem own_d30_0 : decode prog_34_method_7_code 0 = .ok (.aload_n 0, 1) := by decide +kernel
theorem own_d30_1 : decode prog_34_method_7_code 1 = .ok (.getfield 17, 3) := by decide +kernel
theorem own_d30_4 : decode prog_34_method_7_code 4 = .ok (.areturn, 1) := by decide +kernel
theorem own_pn27 : plainFor (⟨"com/example/notation_search/notationsearch/math/RowReleasePinLaw", "same", "(Lcom/example/notation_search/notationsearch/math/Row$Script;Lcom/example/notation_search/notationsearch/math/Relation;Lcom/example/notation_search/notationsearch/math/Row;)Z"⟩ : MethodName) = true := plainFor_of_name (by first | (simp [plainName, overriddenIn]; done) | decide +kernel)
theorem own_ef27_RRR (m : MethodId) (x0 : Addr) (x1 : Addr) (x2 : Addr) : entryFrame m #[(.ref x0), (.ref x1), (.ref x2)] 3 = mkF m 0 #[.val (.ref x0), .val (.ref x1), .val (.ref x2)] [] := by first | (simp [entryFrame, mkF, argsToLocals, Value.category]; done) | rfl
theorem own_d27_0 : decode method_3_code 0 = .ok (.aload_n 0, 1) := by decide +kernel
theorem own_d27_1 : decode method_3_code 1 = .ok (.invokevirtual 34, 3) := by decide +kernel
theorem own_pd2 : parseMethodDescriptor "()Lcom/example/notation_search/notationsearch/math/Relation;" = some ⟨[], some (.object "com/example/notation_search/notationsearch/math/Relation")⟩ := by decide +kernel
theorem own_d27_4 : decode method_3_code 4 = .ok (.aload_n 1, 1) := by decide +kernel
theorem own_d27_5 : decode method_3_code 5 = .ok (.if_acmp .ne 22, 3) := by decide +kernel
theorem own_d27_8 : decode method_3_code 8 = .ok (.aload_n 0, 1) := by decide +kernel
theorem own_d27_9 : decode method_3_code 9 = .ok (.invokevirtual 40, 3) := by decide +kernel
theorem own_pd3 : parseMethodDescriptor "()Lcom/example/notation_search/notationsearch/math/Row;" = some ⟨[], some (.object "com/example/notation_search/notationsearch/math/Row")⟩ := by decide +kernel
theorem own_d27_12 : decode method_3_code 12 = .ok (.aload_n 2, 1) := by decide +kernel
theorem own_d27_13 : decode method_3_code 13 = .ok (.if_acmp .ne 14, 3) := by decide +kernel
theorem own_d27_16 : decode method_3_code 16 = .ok (.aload_n 0, 1) := by decide +kernel
theorem own_d27_17 : decode method_3_code 17 = .ok (.invokevirtual 44, 3) := by decide +kernel
theorem own_pd4 : parseMethodDescriptor "()Lcom/example/notation_search/notationsearch/math/Symbol;" = some ⟨[], some (.object "com/example/notation_search/notationsearch/math/Symbol")⟩ := by decide +kernel
theorem own_d27_20 : decode method_3_code 20 = .ok (.ifnonnull 7, 3) := by decide +kernel
theorem own_d27_23 : decode method_3_code 23 = .ok (.iconst 1, 1) := by decide +kernel
theorem own_d27_24 : decode method_3_code 24 = .ok (.goto 4, 3) := by decide +kernel
theorem own_d27_28 : decode method_3_code 28 = .ok (.ireturn, 1) := by decide +kernel
theorem own_pn20 : plainFor (⟨"java/lang/Math", "max", "(II)I"⟩ : MethodName) = true := Jvm.Free.JP.mathPlain rfl (by decide +kernel)
theorem own_ef20_II (m : MethodId) (x0 : Int32) (x1 : Int32) : entryFrame m #[(.int x0), (.int x1)] 2 = mkF m 0 #[.val (.int x0), .val (.int x1)] [] := by first | (simp [entryFrame, mkF, argsToLocals, Value.category]; done) | rfl
theorem own_d20_0 : decode jdk_29_method_65_code 0 = .ok (.iload_n 0, 1) := by decide +kernel
theorem own_d20_1 : decode jdk_29_method_65_code 1 = .ok (.iload_n 1, 1) := by decide +kernel
theorem own_d20_2 : decode jdk_29_method_65_code 2 = .ok (.if_icmp .lt 7, 3) := by decide +kernel
theorem own_d20_5 : decode jdk_29_method_65_code 5 = .ok (.iload_n 0, 1) := by decide +kernel
theorem own_d20_6 : decode jdk_29_method_65_code 6 = .ok (.goto 4, 3) := by decide +kernel
theorem own_d20_10 : decode jdk_29_method_65_code 10 = .ok (.ireturn, 1) := by decide +kernel
theorem own_pn25 : plainFor (⟨"jdk/internal/util/Preconditions", "checkIndex", "(IILjava/util/function/BiFunction;)I"⟩ : MethodName) = true := plainFor_of_name (by first | (simp [plainName, overriddenIn]; done) | decide +kernel)
theorem own_ef25_IIN (m : MethodId) (x0 : Int32) (x1 : Int32) : entryFrame m #[(.int x0), (.int x1), .null] 3 = mkF m 0 #[.val (.int x0), .val (.int x1), .val .null] [] := by first | (simp [entryFrame, mkF, argsToLocals, Value.category]; done) | rfl
theorem own_d25_0 : decode jdk_41_method_11_code 0 = .ok (.iload_n 0, 1) := by decide +kernel
theorem own_d25_1 : decode jdk_41_method_11_code 1 = .ok (.ifCond .lt 8, 3) := by decide +kernel
theorem own_d25_4 : decode jdk_41_method_11_code 4 = .ok (.iload_n 0, 1) := by decide +kernel
theorem own_d25_5 : decode jdk_41_method_11_code 5 = .ok (.iload_n 1, 1) := by decide +kernel
theorem own_d25_6 : decode jdk_41_method_11_code 6 = .ok (.if_icmp .lt 10, 3) := by decide +kernel
theorem own_d25_16 : decode jdk_41_method_11_code 16 = .ok (.iload_n 0, 1) := by decide +kernel
theorem own_d25_17 : decode jdk_41_method_11_code 17 = .ok (.ireturn, 1) := by decide +kernel
theorem own_pn24 : plainFor (⟨"java/util/Objects", "checkIndex", "(II)I"⟩ : MethodName) = true := plainFor_of_name (by first | (simp [plainName, overriddenIn]; done) | decide +kernel)
theorem own_ef24_II (m : MethodId) (x0 : Int32) (x1 : Int32) : entryFrame m #[(.int x0), (.int x1)] 2 = mkF m 0 #[.val (.int x0), .val (.int x1)] [] := by first | (simp [entryFrame, mkF, argsToLocals, Value.category]; done) | rfl
theorem own_d24_0 : decode jdk_31_method_17_code 0 = .ok (.iload_n 0, 1) := by decide +kernel
theorem own_d24_1 : decode jdk_31_method_17_code 1 = .ok (.iload_n 1, 1) := by decide +kernel
theorem own_d24_2 : decode jdk_31_method_17_code 2 = .ok (.aconst_null, 1) := by decide +kernel
theorem own_d24_3 : decode jdk_31_method_17_code 3 = .ok (.invokestatic 105, 3) := by decide +kernel
theorem own_pd5 : parseMethodDescriptor "(IILjava/util/function/BiFunction;)I" = some ⟨[.int, .int, (.object "java/util/function/BiFunction")], some .int⟩ := by decide +kernel
theorem own_d24_6 : decode jdk_31_method_17_code 6 = .ok (.ireturn, 1) := by decide +kernel
theorem own_pn22 : plainFor (⟨"java/util/ArrayList", "size", "()I"⟩ : MethodName) = true := plainFor_of_name (by first | (simp [plainName, overriddenIn]; done) | decide +kernel)
theorem own_ef22_R (m : MethodId) (x0 : Addr) : entryFrame m #[(.ref x0)] 1 = mkF m 0 #[.val (.ref x0)] [] := by first | (simp [entryFrame, mkF, argsToLocals, Value.category]; done) | rfl
theorem own_d22_0 : decode jdk_38_method_8_code 0 = .ok (.aload_n 0, 1) := by decide +kernel
theorem own_d22_1 : decode jdk_38_method_8_code 1 = .ok (.getfield 48, 3) := by decide +kernel
theorem own_d22_4 : decode jdk_38_method_8_code 4 = .ok (.ireturn, 1) := by decide +kernel
theorem own_pn26 : plainFor (⟨"java/util/ArrayList", "elementData", "(I)Ljava/lang/Object;"⟩ : MethodName) = true := plainFor_of_name (by first | (simp [plainName, overriddenIn]; done) | decide +kernel)
theorem own_ef26_RI (m : MethodId) (x0 : Addr) (x1 : Int32) : entryFrame m #[(.ref x0), (.int x1)] 2 = mkF m 0 #[.val (.ref x0), .val (.int x1)] [] := by first | (simp [entryFrame, mkF, argsToLocals, Value.category]; done) | rfl
theorem own_d26_0 : decode jdk_38_method_18_code 0 = .ok (.aload_n 0, 1) := by decide +kernel
theorem own_d26_1 : decode jdk_38_method_18_code 1 = .ok (.getfield 9, 3) := by decide +kernel
theorem own_d26_4 : decode jdk_38_method_18_code 4 = .ok (.iload_n 1, 1) := by decide +kernel
theorem own_d26_5 : decode jdk_38_method_18_code 5 = .ok (.aaload, 1) := by decide +kernel
theorem own_d26_6 : decode jdk_38_method_18_code 6 = .ok (.areturn, 1) := by decide +kernel
theorem own_pn23 : plainFor (⟨"java/util/ArrayList", "get", "(I)Ljava/lang/Object;"⟩ : MethodName) = true := plainFor_of_name (by first | (simp [plainName, overriddenIn]; done) | decide +kernel)
theorem own_ef23_RI (m : MethodId) (x0 : Addr) (x1 : Int32) : entryFrame m #[(.ref x0), (.int x1)] 2 = mkF m 0 #[.val (.ref x0), .val (.int x1)] [] := by first | (simp [entryFrame, mkF, argsToLocals, Value.category]; done) | rfl
theorem own_d23_0 : decode jdk_38_method_20_code 0 = .ok (.iload_n 1, 1) := by decide +kernel
theorem own_d23_1 : decode jdk_38_method_20_code 1 = .ok (.aload_n 0, 1) := by decide +kernel
theorem own_d23_2 : decode jdk_38_method_20_code 2 = .ok (.getfield 48, 3) := by decide +kernel
theorem own_d23_5 : decode jdk_38_method_20_code 5 = .ok (.invokestatic 118, 3) := by decide +kernel
theorem own_pd6 : parseMethodDescriptor "(II)I" = some ⟨[.int, .int], some .int⟩ := by decide +kernel
theorem own_d23_8 : decode jdk_38_method_20_code 8 = .ok (.pop, 1) := by decide +kernel
theorem own_d23_9 : decode jdk_38_method_20_code 9 = .ok (.aload_n 0, 1) := by decide +kernel
theorem own_d23_10 : decode jdk_38_method_20_code 10 = .ok (.iload_n 1, 1) := by decide +kernel
theorem own_d23_11 : decode jdk_38_method_20_code 11 = .ok (.invokevirtual 123, 3) := by decide +kernel
theorem own_pd7 : parseMethodDescriptor "(I)Ljava/lang/Object;" = some ⟨[.int], some (.object "java/lang/Object")⟩ := by decide +kernel
theorem own_d23_14 : decode jdk_38_method_20_code 14 = .ok (.areturn, 1) := by decide +kernel
theorem own_pn19 : plainFor (⟨"java/util/ArrayList", "grow", "(I)[Ljava/lang/Object;"⟩ : MethodName) = true := plainFor_of_name (by first | (simp [plainName, overriddenIn]; done) | decide +kernel)
theorem own_ef19_RI (m : MethodId) (x0 : Addr) (x1 : Int32) : entryFrame m #[(.ref x0), (.int x1)] 4 = mkF m 0 #[.val (.ref x0), .val (.int x1), .unset, .unset] [] := by first | (simp [entryFrame, mkF, argsToLocals, Value.category]; done) | rfl
theorem own_d19_0 : decode jdk_38_method_6_code 0 = .ok (.aload_n 0, 1) := by decide +kernel
theorem own_d19_1 : decode jdk_38_method_6_code 1 = .ok (.getfield 9, 3) := by decide +kernel
theorem own_d19_4 : decode jdk_38_method_6_code 4 = .ok (.arraylength, 1) := by decide +kernel
theorem own_d19_5 : decode jdk_38_method_6_code 5 = .ok (.istore_n 2, 1) := by decide +kernel
theorem own_d19_6 : decode jdk_38_method_6_code 6 = .ok (.iload_n 2, 1) := by decide +kernel
theorem own_d19_7 : decode jdk_38_method_6_code 7 = .ok (.ifCond .gt 13, 3) := by decide +kernel
theorem own_d19_10 : decode jdk_38_method_6_code 10 = .ok (.aload_n 0, 1) := by decide +kernel
theorem own_d19_11 : decode jdk_38_method_6_code 11 = .ok (.getfield 9, 3) := by decide +kernel
theorem own_d19_14 : decode jdk_38_method_6_code 14 = .ok (.getstatic 39, 3) := by decide +kernel
theorem own_d19_17 : decode jdk_38_method_6_code 17 = .ok (.if_acmp .eq 28, 3) := by decide +kernel
theorem own_d19_45 : decode jdk_38_method_6_code 45 = .ok (.aload_n 0, 1) := by decide +kernel
theorem own_d19_46 : decode jdk_38_method_6_code 46 = .ok (.bipush 10, 2) := by decide +kernel
theorem own_d19_48 : decode jdk_38_method_6_code 48 = .ok (.iload_n 1, 1) := by decide +kernel
theorem own_d19_49 : decode jdk_38_method_6_code 49 = .ok (.invokestatic 79, 3) := by decide +kernel
theorem own_d19_52 : decode jdk_38_method_6_code 52 = .ok (.anewarray 7, 3) := by decide +kernel
theorem own_d19_55 : decode jdk_38_method_6_code 55 = .ok (.dup_x1, 1) := by decide +kernel
theorem own_d19_56 : decode jdk_38_method_6_code 56 = .ok (.putfield 9, 3) := by decide +kernel
theorem own_d19_59 : decode jdk_38_method_6_code 59 = .ok (.areturn, 1) := by decide +kernel
theorem own_pn18 : plainFor (⟨"java/util/ArrayList", "grow", "()[Ljava/lang/Object;"⟩ : MethodName) = true := plainFor_of_name (by first | (simp [plainName, overriddenIn]; done) | decide +kernel)
theorem own_ef18_R (m : MethodId) (x0 : Addr) : entryFrame m #[(.ref x0)] 1 = mkF m 0 #[.val (.ref x0)] [] := by first | (simp [entryFrame, mkF, argsToLocals, Value.category]; done) | rfl
theorem own_d18_0 : decode jdk_38_method_7_code 0 = .ok (.aload_n 0, 1) := by decide +kernel
theorem own_d18_1 : decode jdk_38_method_7_code 1 = .ok (.aload_n 0, 1) := by decide +kernel
theorem own_d18_2 : decode jdk_38_method_7_code 2 = .ok (.getfield 48, 3) := by decide +kernel
theorem own_d18_5 : decode jdk_38_method_7_code 5 = .ok (.iconst 1, 1) := by decide +kernel
theorem own_d18_6 : decode jdk_38_method_7_code 6 = .ok (.iadd, 1) := by decide +kernel
theorem own_d18_7 : decode jdk_38_method_7_code 7 = .ok (.invokevirtual 69, 3) := by decide +kernel
theorem own_pd8 : parseMethodDescriptor "(I)[Ljava/lang/Object;" = some ⟨[.int], some (.array (.object "java/lang/Object"))⟩ := by decide +kernel
theorem own_d18_10 : decode jdk_38_method_7_code 10 = .ok (.areturn, 1) := by decide +kernel
theorem own_pn17 : plainFor (⟨"java/util/ArrayList", "add", "(Ljava/lang/Object;[Ljava/lang/Object;I)V"⟩ : MethodName) = true := plainFor_of_name (by first | (simp [plainName, overriddenIn]; done) | decide +kernel)
theorem own_ef17_RRRI (m : MethodId) (x0 : Addr) (x1 : Addr) (x2 : Addr) (x3 : Int32) : entryFrame m #[(.ref x0), (.ref x1), (.ref x2), (.int x3)] 4 = mkF m 0 #[.val (.ref x0), .val (.ref x1), .val (.ref x2), .val (.int x3)] [] := by first | (simp [entryFrame, mkF, argsToLocals, Value.category]; done) | rfl
theorem own_d17_0 : decode jdk_38_method_24_code 0 = .ok (.iload_n 3, 1) := by decide +kernel
theorem own_d17_1 : decode jdk_38_method_24_code 1 = .ok (.aload_n 2, 1) := by decide +kernel
theorem own_d17_2 : decode jdk_38_method_24_code 2 = .ok (.arraylength, 1) := by decide +kernel
theorem own_d17_3 : decode jdk_38_method_24_code 3 = .ok (.if_icmp .ne 8, 3) := by decide +kernel
theorem own_d17_6 : decode jdk_38_method_24_code 6 = .ok (.aload_n 0, 1) := by decide +kernel
theorem own_d17_7 : decode jdk_38_method_24_code 7 = .ok (.invokevirtual 129, 3) := by decide +kernel
theorem own_pd9 : parseMethodDescriptor "()[Ljava/lang/Object;" = some ⟨[], some (.array (.object "java/lang/Object"))⟩ := by decide +kernel
theorem own_d17_10 : decode jdk_38_method_24_code 10 = .ok (.astore_n 2, 1) := by decide +kernel
theorem own_d17_11 : decode jdk_38_method_24_code 11 = .ok (.aload_n 2, 1) := by decide +kernel
theorem own_d17_12 : decode jdk_38_method_24_code 12 = .ok (.iload_n 3, 1) := by decide +kernel
theorem own_d17_13 : decode jdk_38_method_24_code 13 = .ok (.aload_n 1, 1) := by decide +kernel
theorem own_d17_14 : decode jdk_38_method_24_code 14 = .ok (.aastore, 1) := by decide +kernel
theorem own_d17_15 : decode jdk_38_method_24_code 15 = .ok (.aload_n 0, 1) := by decide +kernel
theorem own_d17_16 : decode jdk_38_method_24_code 16 = .ok (.iload_n 3, 1) := by decide +kernel
theorem own_d17_17 : decode jdk_38_method_24_code 17 = .ok (.iconst 1, 1) := by decide +kernel
theorem own_d17_18 : decode jdk_38_method_24_code 18 = .ok (.iadd, 1) := by decide +kernel
theorem own_d17_19 : decode jdk_38_method_24_code 19 = .ok (.putfield 48, 3) := by decide +kernel
theorem own_d17_22 : decode jdk_38_method_24_code 22 = .ok (.return_, 1) := by decide +kernel
theorem own_pn16 : plainFor (⟨"java/util/ArrayList", "add", "(Ljava/lang/Object;)Z"⟩ : MethodName) = true := plainFor_of_name (by first | (simp [plainName, overriddenIn]; done) | decide +kernel)
theorem own_ef16_RR (m : MethodId) (x0 : Addr) (x1 : Addr) : entryFrame m #[(.ref x0), (.ref x1)] 2 = mkF m 0 #[.val (.ref x0), .val (.ref x1)] [] := by first | (simp [entryFrame, mkF, argsToLocals, Value.category]; done) | rfl
theorem own_d16_0 : decode jdk_38_method_25_code 0 = .ok (.aload_n 0, 1) := by decide +kernel
theorem own_d16_1 : decode jdk_38_method_25_code 1 = .ok (.dup, 1) := by decide +kernel
theorem own_d16_2 : decode jdk_38_method_25_code 2 = .ok (.getfield 63, 3) := by decide +kernel
theorem own_d16_5 : decode jdk_38_method_25_code 5 = .ok (.iconst 1, 1) := by decide +kernel
theorem own_d16_6 : decode jdk_38_method_25_code 6 = .ok (.iadd, 1) := by decide +kernel
theorem own_d16_7 : decode jdk_38_method_25_code 7 = .ok (.putfield 63, 3) := by decide +kernel
theorem own_d16_10 : decode jdk_38_method_25_code 10 = .ok (.aload_n 0, 1) := by decide +kernel
theorem own_d16_11 : decode jdk_38_method_25_code 11 = .ok (.aload_n 1, 1) := by decide +kernel
theorem own_d16_12 : decode jdk_38_method_25_code 12 = .ok (.aload_n 0, 1) := by decide +kernel
theorem own_d16_13 : decode jdk_38_method_25_code 13 = .ok (.getfield 9, 3) := by decide +kernel
theorem own_d16_16 : decode jdk_38_method_25_code 16 = .ok (.aload_n 0, 1) := by decide +kernel
theorem own_d16_17 : decode jdk_38_method_25_code 17 = .ok (.getfield 48, 3) := by decide +kernel
theorem own_d16_20 : decode jdk_38_method_25_code 20 = .ok (.invokevirtual 131, 3) := by decide +kernel
theorem own_pd10 : parseMethodDescriptor "(Ljava/lang/Object;[Ljava/lang/Object;I)V" = some ⟨[(.object "java/lang/Object"), (.array (.object "java/lang/Object")), .int], none⟩ := by decide +kernel
theorem own_d16_23 : decode jdk_38_method_25_code 23 = .ok (.iconst 1, 1) := by decide +kernel
theorem own_d16_24 : decode jdk_38_method_25_code 24 = .ok (.ireturn, 1) := by decide +kernel
theorem own_pn10 : plainFor (⟨"com/example/notation_search/notationsearch/math/Row", "hold", "(Lcom/example/notation_search/notationsearch/math/Relation;Lcom/example/notation_search/notationsearch/math/Row;)V"⟩ : MethodName) = true := plainFor_of_name (by first | (simp [plainName, overriddenIn]; done) | decide +kernel)
theorem own_ef10_RRR (m : MethodId) (x0 : Addr) (x1 : Addr) (x2 : Addr) : entryFrame m #[(.ref x0), (.ref x1), (.ref x2)] 3 = mkF m 0 #[.val (.ref x0), .val (.ref x1), .val (.ref x2)] [] := by first | (simp [entryFrame, mkF, argsToLocals, Value.category]; done) | rfl
theorem own_d10_0 : decode prog_33_method_7_code 0 = .ok (.aload_n 0, 1) := by decide +kernel
theorem own_d10_1 : decode prog_33_method_7_code 1 = .ok (.getfield 44, 3) := by decide +kernel
theorem own_d10_4 : decode prog_33_method_7_code 4 = .ok (.ifnonnull 14, 3) := by decide +kernel
theorem own_d10_7 : decode prog_33_method_7_code 7 = .ok (.aload_n 0, 1) := by decide +kernel
theorem own_d10_8 : decode prog_33_method_7_code 8 = .ok (.new 48, 3) := by decide +kernel
theorem own_d10_11 : decode prog_33_method_7_code 11 = .ok (.dup, 1) := by decide +kernel
theorem own_d10_12 : decode prog_33_method_7_code 12 = .ok (.invokespecial 50, 3) := by decide +kernel
theorem own_d10_15 : decode prog_33_method_7_code 15 = .ok (.putfield 44, 3) := by decide +kernel
theorem own_d10_18 : decode prog_33_method_7_code 18 = .ok (.aload_n 0, 1) := by decide +kernel
theorem own_d10_19 : decode prog_33_method_7_code 19 = .ok (.getfield 44, 3) := by decide +kernel
theorem own_d10_22 : decode prog_33_method_7_code 22 = .ok (.new 51, 3) := by decide +kernel
theorem own_d10_25 : decode prog_33_method_7_code 25 = .ok (.dup, 1) := by decide +kernel
theorem own_d10_26 : decode prog_33_method_7_code 26 = .ok (.aload_n 1, 1) := by decide +kernel
theorem own_d10_27 : decode prog_33_method_7_code 27 = .ok (.aload_n 2, 1) := by decide +kernel
theorem own_d10_28 : decode prog_33_method_7_code 28 = .ok (.aconst_null, 1) := by decide +kernel
theorem own_d10_29 : decode prog_33_method_7_code 29 = .ok (.invokespecial 53, 3) := by decide +kernel
theorem own_pd11 : parseMethodDescriptor "(Lcom/example/notation_search/notationsearch/math/Relation;Lcom/example/notation_search/notationsearch/math/Row;Lcom/example/notation_search/notationsearch/math/Symbol;)V" = some ⟨[(.object "com/example/notation_search/notationsearch/math/Relation"), (.object "com/example/notation_search/notationsearch/math/Row"), (.object "com/example/notation_search/notationsearch/math/Symbol")], none⟩ := by decide +kernel
theorem own_d10_32 : decode prog_33_method_7_code 32 = .ok (.invokeinterface 56 2, 5) := by decide +kernel
theorem own_pd12 : parseMethodDescriptor "(Ljava/lang/Object;)Z" = some ⟨[(.object "java/lang/Object")], some .boolean⟩ := by decide +kernel
theorem own_d10_37 : decode prog_33_method_7_code 37 = .ok (.pop, 1) := by decide +kernel
theorem own_d10_38 : decode prog_33_method_7_code 38 = .ok (.return_, 1) := by decide +kernel
theorem own_pd13 : parseMethodDescriptor "(Lcom/example/notation_search/notationsearch/math/Relation;Lcom/example/notation_search/notationsearch/math/Row;)V" = some ⟨[(.object "com/example/notation_search/notationsearch/math/Relation"), (.object "com/example/notation_search/notationsearch/math/Row")], none⟩ := by decide +kernel
theorem own_pd14 : parseMethodDescriptor "()I" = some ⟨[], some .int⟩ := by decide +kernel
theorem own_pd15 : parseMethodDescriptor "(Lcom/example/notation_search/notationsearch/math/Row$Script;Lcom/example/notation_search/notationsearch/math/Relation;Lcom/example/notation_search/notationsearch/math/Row;)Z" = some ⟨[(.object "com/example/notation_search/notationsearch/math/Row$Script"), (.object "com/example/notation_search/notationsearch/math/Relation"), (.object "com/example/notation_search/notationsearch/math/Row")], some .boolean⟩ := by decide +kernel
theorem own_pd16 : parseMethodDescriptor "()Z" = some ⟨[], some .boolean⟩ := by decide +kernel
theorem own_pd17 : parseMethodDescriptor "(Lcom/example/notation_search/notationsearch/math/Row;)V" = some ⟨[(.object "com/example/notation_search/notationsearch/math/Row")], none⟩ := by decide +kernel
theorem own_pn0 : plainFor (⟨"com/example/notation_search/notationsearch/math/RowReleasePinLaw", "law", "(IIIII)Z"⟩ : MethodName) = true := plainFor_of_name (by first | (simp [plainName, overriddenIn]; done) | decide +kernel)
theorem own_ef0_IIIII (m : MethodId) (x0 : Int32) (x1 : Int32) (x2 : Int32) (x3 : Int32) (x4 : Int32) : entryFrame m #[(.int x0), (.int x1), (.int x2), (.int x3), (.int x4)] maxLocals = mkF m 0 #[.val (.int x0), .val (.int x1), .val (.int x2), .val (.int x3), .val (.int x4), .unset, .unset, .unset, .unset, .unset, .unset, .unset, .unset, .unset, .unset, .unset] [] := by first | (simp [entryFrame, mkF, argsToLocals, Value.category, maxLocals]; done) | rfl
theorem own_pd18 : parseMethodDescriptor "(Lcom/example/notation_search/notationsearch/math/SymbolCount;)V" = some ⟨[(.object "com/example/notation_search/notationsearch/math/SymbolCount")], none⟩ := by decide +kernel
theorem own_pd19 : parseMethodDescriptor "(I)Lcom/example/notation_search/notationsearch/math/Relation;" = some ⟨[.int], some (.object "com/example/notation_search/notationsearch/math/Relation")⟩ := by decide +kernel
def BR (Z : State) (h : Heap) (a cn : Addr) (wv : Value) : Prop :=
  Exa Z h a "com/example/notation_search/notationsearch/math/Row" ∧ Fld Z h a "com/example/notation_search/notationsearch/math/Row" "symbols" "Lcom/example/notation_search/notationsearch/math/SymbolCount;" (.ref cn) ∧ Fld Z h a "com/example/notation_search/notationsearch/math/Row" "first" "Lcom/example/notation_search/notationsearch/math/Symbol;" .null ∧ Fld Z h a "com/example/notation_search/notationsearch/math/Row" "last" "Lcom/example/notation_search/notationsearch/math/Symbol;" .null ∧ Fld Z h a "com/example/notation_search/notationsearch/math/Row" "base" "Lcom/example/notation_search/notationsearch/math/Symbol;" .null ∧ Fld Z h a "com/example/notation_search/notationsearch/math/Row" "followed" "Ljava/util/List;" .null ∧ Fld Z h a "com/example/notation_search/notationsearch/math/Row" "waiting" "Ljava/util/List;" wv
theorem BR.keep {Z : State} {h h' : Heap} {ws : List Addr} {a cn : Addr} {wv : Value} (F : BR Z h a cn wv) (K : Keep h h' ws) (n0 : a ∉ ws) : BR Z h' a cn wv :=
  ⟨F.1.keep K, F.2.1.keep K n0, F.2.2.1.keep K n0, F.2.2.2.1.keep K n0, F.2.2.2.2.1.keep K n0, F.2.2.2.2.2.1.keep K n0, F.2.2.2.2.2.2.keep K n0⟩
def BL (Z : State) (h : Heap) (b ar : Addr) (mc n : Int32) (f : Nat → Value) : Prop :=
  Exa Z h b "java/util/ArrayList" ∧ Fld Z h b "java/util/AbstractList" "modCount" "I" (.int mc) ∧ Fld Z h b "java/util/ArrayList" "elementData" "[Ljava/lang/Object;" (.ref ar) ∧ Fld Z h b "java/util/ArrayList" "size" "I" (.int n) ∧ ORef Z h ar (.object "java/lang/Object") "java/lang/Object" 10 f
theorem BL.keep {Z : State} {h h' : Heap} {ws : List Addr} {b ar : Addr} {mc n : Int32} {f : Nat → Value} (F : BL Z h b ar mc n f) (K : Keep h h' ws) (n0 : b ∉ ws) (n1 : ar ∉ ws) : BL Z h' b ar mc n f :=
  ⟨F.1.keep K, F.2.1.keep K n0, F.2.2.1.keep K n0, F.2.2.2.1.keep K n0, F.2.2.2.2.keep K n1⟩
def BS (Z : State) (h : Heap) (sc r g : Addr) : Prop :=
  Exa Z h sc "com/example/notation_search/notationsearch/math/Row$Script" ∧ Fld Z h sc "com/example/notation_search/notationsearch/math/Row$Script" "relation" "Lcom/example/notation_search/notationsearch/math/Relation;" (.ref r) ∧ Fld Z h sc "com/example/notation_search/notationsearch/math/Row$Script" "region" "Lcom/example/notation_search/notationsearch/math/Row;" (.ref g) ∧ Fld Z h sc "com/example/notation_search/notationsearch/math/Row$Script" "before" "Lcom/example/notation_search/notationsearch/math/Symbol;" .null
theorem BS.keep {Z : State} {h h' : Heap} {ws : List Addr} {sc r g : Addr} (F : BS Z h sc r g) (K : Keep h h' ws) (n0 : sc ∉ ws) : BS Z h' sc r g :=
  ⟨F.1.keep K, F.2.1.keep K n0, F.2.2.1.keep K n0, F.2.2.2.keep K n0⟩
theorem own_zero {args : Array Value} {s : State} {t : Term} {ty : FieldType} (ha : (Jvm.Cond.arrayOf t ty).before args s = true) (hl : (Jvm.Cond.eq (.length t) (.int 0)).before args s = true) : ∃ a, t.eval args s none [] s = some (.ref a) ∧ OArr s s.heap a ty 0 (fun _ => .null) := by
  obtain ⟨a, ev⟩ := arr_v (Cond.before_iff.mp ha)
  obtain ⟨c, A⟩ := Arr.start ev (Cond.before_iff.mp ha)
  exact ⟨a, ev, c, A, Jvm.Free.LOB.lenZero_of_words ev (Arr.fin (Vm.Alike.refl _) A) hl, by decide, fun i hi => absurd hi (Nat.not_lt_zero i)⟩
theorem own_fst {args : Array Value} {s : State} {t : Term} {C n d : String} {x : Addr} {v : Value} (h1 : t.eval args s none [] s = some (.ref x)) (h2 : (Term.field t C n d).eval args s none [] s = some v) : s.fieldOf? x C n d = some v := by
  simp only [Term.eval, h1] at h2
  exact h2
theorem own_k4 (n : Int32) : n &&& 3 = 0 ∨ n &&& 3 = 1 ∨ n &&& 3 = 2 ∨ n &&& 3 = 3 := by
  have h : (n &&& 3).toBitVec = n.toBitVec &&& 3#32 := rfl
  have q : ∀ x : BitVec 32, x &&& 3#32 = 0#32 ∨ x &&& 3#32 = 1#32 ∨ x &&& 3#32 = 2#32 ∨ x &&& 3#32 = 3#32 := by
    intro x; have : (x &&& 3#32).toNat < 4 := by rw [BitVec.toNat_and]; exact Nat.lt_of_le_of_lt (Nat.and_le_right) (by decide)
    have c : (x &&& 3#32).toNat = 0 ∨ (x &&& 3#32).toNat = 1 ∨ (x &&& 3#32).toNat = 2 ∨ (x &&& 3#32).toNat = 3 := by omega
    rcases c with c | c | c | c
    · exact Or.inl (BitVec.eq_of_toNat_eq c)
    · exact Or.inr (Or.inl (BitVec.eq_of_toNat_eq c))
    · exact Or.inr (Or.inr (Or.inl (BitVec.eq_of_toNat_eq c)))
    · exact Or.inr (Or.inr (Or.inr (BitVec.eq_of_toNat_eq c)))
  rcases q n.toBitVec with c | c | c | c
  · exact Or.inl (Int32.toBitVec_inj.1 (h.trans c))
  · exact Or.inr (Or.inl (Int32.toBitVec_inj.1 (h.trans c)))
  · exact Or.inr (Or.inr (Or.inl (Int32.toBitVec_inj.1 (h.trans c))))
  · exact Or.inr (Or.inr (Or.inr (Int32.toBitVec_inj.1 (h.trans c))))
set_option maxRecDepth 65536 in
set_option maxHeartbeats 40000000 in
theorem rmI (l : Launch) (Z : State) (a0 : Array Value) (hw : ∀ d ∈ tables_1, d.before a0 Z = true) (a : Addr) (h0 : Heap)  :
    OMet l Z (⟨"com/example/notation_search/notationsearch/math/SymbolCount", "<init>", "()V"⟩ : MethodName) prog_38_method_1_code 1 none (⟨1, 0, 0, 12⟩ : Room) #[(.ref a)] h0 (fun v h L => v = none ∧ h = h0 ∧ L = []) := by
  refine own_enter own_pn1 ?_
  intro p e s m below meth c T0 X0 hC e0
  obtain ⟨hx, hZ, hby, hml, hown, hret, hlk, hnm⟩ := hC
  have hown : s.vm.findClass "com/example/notation_search/notationsearch/math/SymbolCount" = some m.cls := hown
  refine own_at (own_ef1_R m a) ?_
  show OFin p e below s _ _ _ (T0.setTop (mkF m 0 #[.val (.ref a)] []))
  refine own_st (fun _ kS => XS.aloadN X0.here hx rfl (hb hby own_d1_0) rfl rfl kS) ?_
  show OFin p e below s _ _ _ (T0.setTop (mkF m 1 #[.val (.ref a)] [(.ref a)]))
  obtain ⟨T1, X1, e1, st1⟩ := initO X0 hx hZ hown (own_w hw 6 rfl) (own_w hw 7 rfl) (own_w hw 8 rfl) e0 (g := (mkF m 1 #[.val (.ref a)] [(.ref a)])) rfl (by rw [hml]; rfl) rfl (hb hby own_d1_1) (by decide) (W := 0) (by show 2 * 0 + _ ≤ _; exact Nat.le_of_eq rfl) (by decide)
  refine own_st (st1) ?_
  clear st1 X0 e0
  show OFin p e below s _ _ _ (T1.setTop (mkF m 4 #[.val (.ref a)] []))
  exact own_retV X1 hx hret hlk (hb hby own_d1_4) (by decide) (by decide) ⟨rfl, e1, rfl⟩
set_option maxRecDepth 65536 in
set_option maxHeartbeats 40000000 in
theorem rmAC (l : Launch) (Z : State) (a0 : Array Value) (hw : ∀ d ∈ tables_1, d.before a0 Z = true) (a : Addr) (h0 : Heap)  :
    OMet l Z (⟨"java/util/AbstractCollection", "<init>", "()V"⟩ : MethodName) jdk_22_method_1_code 1 none (⟨1, 0, 0, 12⟩ : Room) #[(.ref a)] h0 (fun v h L => v = none ∧ h = h0 ∧ L = []) := by
  refine own_enter own_pn13 ?_
  intro p e s m below meth c T0 X0 hC e0
  obtain ⟨hx, hZ, hby, hml, hown, hret, hlk, hnm⟩ := hC
  have hown : s.vm.findClass "java/util/AbstractCollection" = some m.cls := hown
  refine own_at (own_ef13_R m a) ?_
  show OFin p e below s _ _ _ (T0.setTop (mkF m 0 #[.val (.ref a)] []))
  refine own_st (fun _ kS => XS.aloadN X0.here hx rfl (hb hby own_d13_0) rfl rfl kS) ?_
  show OFin p e below s _ _ _ (T0.setTop (mkF m 1 #[.val (.ref a)] [(.ref a)]))
  obtain ⟨T2, X2, e2, st2⟩ := initO X0 hx hZ hown (own_w hw 96 rfl) (own_w hw 7 rfl) (own_w hw 8 rfl) e0 (g := (mkF m 1 #[.val (.ref a)] [(.ref a)])) rfl (by rw [hml]; rfl) rfl (hb hby own_d13_1) (by decide) (W := 0) (by show 2 * 0 + _ ≤ _; exact Nat.le_of_eq rfl) (by decide)
  refine own_st (st2) ?_
  clear st2 X0 e0
  show OFin p e below s _ _ _ (T2.setTop (mkF m 4 #[.val (.ref a)] []))
  exact own_retV X2 hx hret hlk (hb hby own_d13_4) (by decide) (by decide) ⟨rfl, e2, rfl⟩
set_option maxRecDepth 65536 in
set_option maxHeartbeats 40000000 in
theorem rmRec (l : Launch) (Z : State) (a0 : Array Value) (hw : ∀ d ∈ tables_1, d.before a0 Z = true) (a : Addr) (h0 : Heap)  :
    OMet l Z (⟨"java/lang/Record", "<init>", "()V"⟩ : MethodName) jdk_30_method_1_code 1 none (⟨1, 0, 0, 12⟩ : Room) #[(.ref a)] h0 (fun v h L => v = none ∧ h = h0 ∧ L = []) := by
  refine own_enter own_pn15 ?_
  intro p e s m below meth c T0 X0 hC e0
  obtain ⟨hx, hZ, hby, hml, hown, hret, hlk, hnm⟩ := hC
  have hown : s.vm.findClass "java/lang/Record" = some m.cls := hown
  refine own_at (own_ef15_R m a) ?_
  show OFin p e below s _ _ _ (T0.setTop (mkF m 0 #[.val (.ref a)] []))
  refine own_st (fun _ kS => XS.aloadN X0.here hx rfl (hb hby own_d15_0) rfl rfl kS) ?_
  show OFin p e below s _ _ _ (T0.setTop (mkF m 1 #[.val (.ref a)] [(.ref a)]))
  obtain ⟨T3, X3, e3, st3⟩ := initO X0 hx hZ hown (own_w hw 113 rfl) (own_w hw 7 rfl) (own_w hw 8 rfl) e0 (g := (mkF m 1 #[.val (.ref a)] [(.ref a)])) rfl (by rw [hml]; rfl) rfl (hb hby own_d15_1) (by decide) (W := 0) (by show 2 * 0 + _ ≤ _; exact Nat.le_of_eq rfl) (by decide)
  refine own_st (st3) ?_
  clear st3 X0 e0
  show OFin p e below s _ _ _ (T3.setTop (mkF m 4 #[.val (.ref a)] []))
  exact own_retV X3 hx hret hlk (hb hby own_d15_4) (by decide) (by decide) ⟨rfl, e3, rfl⟩
set_option maxRecDepth 65536 in
set_option maxHeartbeats 40000000 in
theorem rmAB (l : Launch) (Z : State) (a0 : Array Value) (hw : ∀ d ∈ tables_1, d.before a0 Z = true) (b : Addr) (h0 : Heap) (n0 : Nat) (E_b : Exa Z h0 b "java/util/ArrayList") (F_m : Fld Z h0 b "java/util/AbstractList" "modCount" "I" (.int (0 : Int32))) (F_e : Fld Z h0 b "java/util/ArrayList" "elementData" "[Ljava/lang/Object;" .null) (F_s : Fld Z h0 b "java/util/ArrayList" "size" "I" (.int (0 : Int32))) (g_b : n0 ≤ b) :
    OMet l Z (⟨"java/util/AbstractList", "<init>", "()V"⟩ : MethodName) jdk_39_method_1_code 1 none (⟨2, 0, 0, 24⟩ : Room) #[(.ref b)] h0 (fun v h L => v = none ∧ Fr n0 L ∧ Keep h0 h [b] ∧ Exa Z h b "java/util/ArrayList" ∧ Fld Z h b "java/util/AbstractList" "modCount" "I" (.int (0 : Int32)) ∧ Fld Z h b "java/util/ArrayList" "elementData" "[Ljava/lang/Object;" .null ∧ Fld Z h b "java/util/ArrayList" "size" "I" (.int (0 : Int32))) := by
  refine own_enter own_pn12 ?_
  intro p e s m below meth c T0 X0 hC e0
  obtain ⟨hx, hZ, hby, hml, hown, hret, hlk, hnm⟩ := hC
  have hown : s.vm.findClass "java/util/AbstractList" = some m.cls := hown
  refine own_at (own_ef12_R m b) ?_
  show OFin p e below s _ _ _ (T0.setTop (mkF m 0 #[.val (.ref b)] []))
  have N0 := Fr.nil n0
  have kp0 := Keep.refl h0 [b]
  refine own_st (fun _ kS => XS.aloadN X0.here hx rfl (hb hby own_d12_0) rfl rfl kS) ?_
  show OFin p e below s _ _ _ (T0.setTop (mkF m 1 #[.val (.ref b)] [(.ref b)]))
  obtain ⟨v4, T4, L4, X4, hQ4, st4⟩ := own_init X0 hx hZ (y := (⟨"java/util/AbstractCollection", "<init>", "()V"⟩ : MethodName)) (rm := ⟨1, 0, 0, 12⟩) (W := 0) (a := b) (argsL := []) (rest := []) rfl hown (own_w hw 90 rfl) (own_w hw 91 rfl) (own_w hw 94 rfl) (own_w hw 95 rfl) (rmAC l Z a0 hw b h0) e0 (g := (mkF m 1 #[.val (.ref b)] [(.ref b)])) rfl (by rw [hml]; rfl) (lenOf own_pd0 rfl) rfl (by show 2 * 0 + _ ≤ _; exact Nat.le_of_eq rfl) (hb hby own_d12_1) (by decide) (by decide) (by decide) (by decide)
  obtain ⟨rfl, e4, rfl⟩ := hQ4
  rw [List.append_nil] at X4
  refine own_st (st4) ?_
  clear st4 X0 e0
  show OFin p e below s _ _ _ (T4.setTop (mkF m 4 #[.val (.ref b)] []))
  refine own_st (fun _ kS => XS.aloadN X4.here hx rfl (hb hby own_d12_4) rfl rfl kS) ?_
  show OFin p e below s _ _ _ (T4.setTop (mkF m 5 #[.val (.ref b)] [(.ref b)]))
  refine own_st (fun _ kS => XS.iconst X4.here hx rfl (hb hby own_d12_5) kS) ?_
  show OFin p e below s _ _ _ (T4.setTop (mkF m 6 #[.val (.ref b)] [(.int (0 : Int32)), (.ref b)]))
  obtain ⟨T5, h5, X5, e5, W5, st5⟩ := putF X4 hx hZ hown (host := "") (Or.inl (own_w hw 97 rfl)) Via.refl e4 F_m E_b (Or.inl (own_w hw 98 rfl)) (own_w hw 79 rfl) (ty := .int) (by decide) rfl rfl (g := (mkF m 6 #[.val (.ref b)] [(.int (0 : Int32)), (.ref b)])) rfl rfl (hb hby own_d12_6)
  have f6 := F_m.same W5
  have f7 := E_b.wr W5
  have f9 := F_e.other W5 (Or.inr (slot_ne (Or.inl (own_w hw 101 rfl)) (Or.inl (own_w hw 98 rfl)) (by decide) (t := (.array (.object "java/lang/Object"))) (t' := .int) (by decide) (by decide)))
  have f10 := F_s.other W5 (Or.inr (slot_ne (Or.inl (own_w hw 132 rfl)) (Or.inl (own_w hw 98 rfl)) (by decide) (t := .int) (t' := .int) (by decide) (by decide)))
  have fr5 := Fr.snoc X5 N0 g_b
  clear N0
  have kp5 := kp0.wr W5 (Or.inl (List.mem_of_getElem? (i := 0) rfl))
  clear kp0
  refine own_st (st5) ?_
  clear st5 X4 e4 W5
  show OFin p e below s _ _ _ (T5.setTop (mkF m 9 #[.val (.ref b)] []))
  exact own_retV X5 hx hret hlk (hb hby own_d12_9) (by decide) (by decide) (by show _ ∧ _ ∧ Keep h0 T5.heap _ ∧ _; rw [e5]; exact ⟨rfl, fr5, kp5, f7, f6, f9, f10⟩)
set_option maxRecDepth 65536 in
set_option maxHeartbeats 40000000 in
theorem rmAL (l : Launch) (Z : State) (a0 : Array Value) (hw : ∀ d ∈ tables_1, d.before a0 Z = true) (b : Addr) (h0 : Heap) (n0 : Nat) (dc : Addr) (E_b : Exa Z h0 b "java/util/ArrayList") (F_m : Fld Z h0 b "java/util/AbstractList" "modCount" "I" (.int (0 : Int32))) (F_e : Fld Z h0 b "java/util/ArrayList" "elementData" "[Ljava/lang/Object;" .null) (F_s : Fld Z h0 b "java/util/ArrayList" "size" "I" (.int (0 : Int32))) (g_b : n0 ≤ b) (O : Old Z n0 h0) (S_dc : Sta Z Z.heap "java/util/ArrayList" "DEFAULTCAPACITY_EMPTY_ELEMENTDATA" "[Ljava/lang/Object;" (.ref dc)) :
    OMet l Z (⟨"java/util/ArrayList", "<init>", "()V"⟩ : MethodName) jdk_38_method_2_code 1 none (⟨3, 0, 0, 36⟩ : Room) #[(.ref b)] h0 (fun v h L => v = none ∧ Fr n0 L ∧ Keep h0 h [b] ∧ Exa Z h b "java/util/ArrayList" ∧ Fld Z h b "java/util/AbstractList" "modCount" "I" (.int (0 : Int32)) ∧ Fld Z h b "java/util/ArrayList" "elementData" "[Ljava/lang/Object;" (.ref dc) ∧ Fld Z h b "java/util/ArrayList" "size" "I" (.int (0 : Int32))) := by
  refine own_enter own_pn11 ?_
  intro p e s m below meth c T0 X0 hC e0
  obtain ⟨hx, hZ, hby, hml, hown, hret, hlk, hnm⟩ := hC
  have hown : s.vm.findClass "java/util/ArrayList" = some m.cls := hown
  refine own_at (own_ef11_R m b) ?_
  show OFin p e below s _ _ _ (T0.setTop (mkF m 0 #[.val (.ref b)] []))
  have N0 := Fr.nil n0
  have kp0 := Keep.refl h0 [b]
  refine own_st (fun _ kS => XS.aloadN X0.here hx rfl (hb hby own_d11_0) rfl rfl kS) ?_
  show OFin p e below s _ _ _ (T0.setTop (mkF m 1 #[.val (.ref b)] [(.ref b)]))
  obtain ⟨v11, T11, L11, X11, hQ11, st11⟩ := own_init X0 hx hZ (y := (⟨"java/util/AbstractList", "<init>", "()V"⟩ : MethodName)) (rm := ⟨2, 0, 0, 24⟩) (W := 0) (a := b) (argsL := []) (rest := []) rfl hown (own_w hw 84 rfl) (own_w hw 85 rfl) (own_w hw 88 rfl) (own_w hw 89 rfl) (rmAB l Z a0 hw b h0 n0 E_b F_m F_e F_s g_b) e0 (g := (mkF m 1 #[.val (.ref b)] [(.ref b)])) rfl (by rw [hml]; rfl) (lenOf own_pd0 rfl) rfl (by show 2 * 0 + _ ≤ _; exact Nat.le_of_eq rfl) (hb hby own_d11_1) (by decide) (by decide) (by decide) (by decide)
  obtain ⟨rfl, N11, K11, EB11, FM11, FE11, FS11⟩ := hQ11
  have fr11 := Fr.app N0 N11
  clear N0
  have kp11 := kp0.trans K11 (allS (Or.inl (List.mem_of_getElem? (i := 0) rfl)) all0)
  clear kp0
  have od11 := O.keep K11 (allS g_b all0)
  have f12 := E_b.keep K11
  refine own_st (st11) ?_
  clear st11 X0 e0
  show OFin p e below s _ _ _ (T11.setTop (mkF m 4 #[.val (.ref b)] []))
  refine own_st (fun _ kS => XS.aloadN X11.here hx rfl (hb hby own_d11_4) rfl rfl kS) ?_
  show OFin p e below s _ _ _ (T11.setTop (mkF m 5 #[.val (.ref b)] [(.ref b)]))
  obtain ⟨T16, X16, e16, st16⟩ := getS2 X11 hx hZ hown (host := "") (Or.inl (own_w hw 99 rfl)) Via.refl rfl (Sta.ext od11.2 S_dc) (g := (mkF m 5 #[.val (.ref b)] [(.ref b)])) rfl (hb hby own_d11_5)
  refine own_st (st16) ?_
  clear st16 X11
  show OFin p e below s _ _ _ (T16.setTop (mkF m 8 #[.val (.ref b)] [(.ref dc), (.ref b)]))
  obtain ⟨T17, h17, X17, e17, W17, st17⟩ := putF X16 hx hZ hown (host := "") (Or.inl (own_w hw 100 rfl)) Via.refl e16 FE11 EB11 (Or.inl (own_w hw 101 rfl)) (own_w hw 79 rfl) (ty := (.array (.object "java/lang/Object"))) (by decide) rfl rfl (g := (mkF m 8 #[.val (.ref b)] [(.ref dc), (.ref b)])) rfl rfl (hb hby own_d11_8)
  have f18 := FE11.same W17
  have od17 := od11.wr W17 g_b
  clear od11
  have f19 := EB11.wr W17
  have f20 := FM11.other W17 (Or.inr (slot_ne (Or.inl (own_w hw 98 rfl)) (Or.inl (own_w hw 101 rfl)) (by decide) (t := .int) (t' := (.array (.object "java/lang/Object"))) (by decide) (by decide)))
  have f22 := FS11.other W17 (Or.inr (slot_ne (Or.inl (own_w hw 132 rfl)) (Or.inl (own_w hw 101 rfl)) (by decide) (t := .int) (t' := (.array (.object "java/lang/Object"))) (by decide) (by decide)))
  have fr17 := Fr.snoc X17 fr11 g_b
  clear fr11
  have kp17 := kp11.wr W17 (Or.inl (List.mem_of_getElem? (i := 0) rfl))
  clear kp11
  refine own_st (st17) ?_
  clear st17 X16 e16 W17
  show OFin p e below s _ _ _ (T17.setTop (mkF m 11 #[.val (.ref b)] []))
  exact own_retV X17 hx hret hlk (hb hby own_d11_11) (by decide) (by decide) (by show _ ∧ _ ∧ Keep h0 T17.heap _ ∧ _; rw [e17]; exact ⟨rfl, fr17, kp17, f19, f20, f18, f22⟩)
set_option maxRecDepth 65536 in
set_option maxHeartbeats 40000000 in
theorem rmRow (l : Launch) (Z : State) (a0 : Array Value) (hw : ∀ d ∈ tables_1, d.before a0 Z = true) (a : Addr) (cn : Addr) (h0 : Heap) (n0 : Nat) (E_a : Exa Z h0 a "com/example/notation_search/notationsearch/math/Row") (F_symbols : Fld Z h0 a "com/example/notation_search/notationsearch/math/Row" "symbols" "Lcom/example/notation_search/notationsearch/math/SymbolCount;" .null) (F_first : Fld Z h0 a "com/example/notation_search/notationsearch/math/Row" "first" "Lcom/example/notation_search/notationsearch/math/Symbol;" .null) (F_last : Fld Z h0 a "com/example/notation_search/notationsearch/math/Row" "last" "Lcom/example/notation_search/notationsearch/math/Symbol;" .null) (F_base : Fld Z h0 a "com/example/notation_search/notationsearch/math/Row" "base" "Lcom/example/notation_search/notationsearch/math/Symbol;" .null) (F_followed : Fld Z h0 a "com/example/notation_search/notationsearch/math/Row" "followed" "Ljava/util/List;" .null) (F_waiting : Fld Z h0 a "com/example/notation_search/notationsearch/math/Row" "waiting" "Ljava/util/List;" .null) (g_a : n0 ≤ a) :
    OMet l Z (⟨"com/example/notation_search/notationsearch/math/Row", "<init>", "(Lcom/example/notation_search/notationsearch/math/SymbolCount;)V"⟩ : MethodName) prog_33_method_1_code 2 none (⟨1, 0, 0, 12⟩ : Room) #[(.ref a), (.ref cn)] h0 (fun v h L => v = none ∧ Fr n0 L ∧ Keep h0 h [a] ∧ BR Z h a cn .null) := by
  refine own_enter own_pn3 ?_
  intro p e s m below meth c T0 X0 hC e0
  obtain ⟨hx, hZ, hby, hml, hown, hret, hlk, hnm⟩ := hC
  have hown : s.vm.findClass "com/example/notation_search/notationsearch/math/Row" = some m.cls := hown
  refine own_at (own_ef3_RR m a cn) ?_
  show OFin p e below s _ _ _ (T0.setTop (mkF m 0 #[.val (.ref a), .val (.ref cn)] []))
  have N0 := Fr.nil n0
  have kp0 := Keep.refl h0 [a]
  refine own_st (fun _ kS => XS.aloadN X0.here hx rfl (hb hby own_d3_0) rfl rfl kS) ?_
  show OFin p e below s _ _ _ (T0.setTop (mkF m 1 #[.val (.ref a), .val (.ref cn)] [(.ref a)]))
  obtain ⟨T23, X23, e23, st23⟩ := initO X0 hx hZ hown (own_w hw 15 rfl) (own_w hw 7 rfl) (own_w hw 8 rfl) e0 (g := (mkF m 1 #[.val (.ref a), .val (.ref cn)] [(.ref a)])) rfl (by rw [hml]; rfl) rfl (hb hby own_d3_1) (by decide) (W := 0) (by show 2 * 0 + _ ≤ _; exact Nat.le_of_eq rfl) (by decide)
  refine own_st (st23) ?_
  clear st23 X0 e0
  show OFin p e below s _ _ _ (T23.setTop (mkF m 4 #[.val (.ref a), .val (.ref cn)] []))
  refine own_st (fun _ kS => XS.aloadN X23.here hx rfl (hb hby own_d3_4) rfl rfl kS) ?_
  show OFin p e below s _ _ _ (T23.setTop (mkF m 5 #[.val (.ref a), .val (.ref cn)] [(.ref a)]))
  refine own_st (fun _ kS => XS.aloadN X23.here hx rfl (hb hby own_d3_5) rfl rfl kS) ?_
  show OFin p e below s _ _ _ (T23.setTop (mkF m 6 #[.val (.ref a), .val (.ref cn)] [(.ref cn), (.ref a)]))
  obtain ⟨T24, h24, X24, e24, W24, st24⟩ := putF X23 hx hZ hown (host := "") (Or.inl (own_w hw 16 rfl)) Via.refl e23 F_symbols E_a (Or.inr ⟨(own_w hw 17 rfl), rfl, hnm⟩) (own_w hw 10 rfl) (ty := (.object "com/example/notation_search/notationsearch/math/SymbolCount")) (by decide) rfl rfl (g := (mkF m 6 #[.val (.ref a), .val (.ref cn)] [(.ref cn), (.ref a)])) rfl rfl (hb hby own_d3_6)
  have f25 := F_symbols.same W24
  have f26 := E_a.wr W24
  have f28 := F_first.other W24 (Or.inr (slot_ne (Or.inl (own_w hw 161 rfl)) (Or.inr (own_w hw 17 rfl)) (by decide) (t := (.object "com/example/notation_search/notationsearch/math/Symbol")) (t' := (.object "com/example/notation_search/notationsearch/math/SymbolCount")) (by decide) (by decide)))
  have f29 := F_last.other W24 (Or.inr (slot_ne (Or.inl (own_w hw 217 rfl)) (Or.inr (own_w hw 17 rfl)) (by decide) (t := (.object "com/example/notation_search/notationsearch/math/Symbol")) (t' := (.object "com/example/notation_search/notationsearch/math/SymbolCount")) (by decide) (by decide)))
  have f30 := F_base.other W24 (Or.inr (slot_ne (Or.inl (own_w hw 163 rfl)) (Or.inr (own_w hw 17 rfl)) (by decide) (t := (.object "com/example/notation_search/notationsearch/math/Symbol")) (t' := (.object "com/example/notation_search/notationsearch/math/SymbolCount")) (by decide) (by decide)))
  have f31 := F_followed.other W24 (Or.inr (slot_ne (Or.inl (own_w hw 68 rfl)) (Or.inr (own_w hw 17 rfl)) (by decide) (t := (.object "java/util/List")) (t' := (.object "com/example/notation_search/notationsearch/math/SymbolCount")) (by decide) (by decide)))
  have f32 := F_waiting.other W24 (Or.inr (slot_ne (Or.inl (own_w hw 35 rfl)) (Or.inr (own_w hw 17 rfl)) (by decide) (t := (.object "java/util/List")) (t' := (.object "com/example/notation_search/notationsearch/math/SymbolCount")) (by decide) (by decide)))
  have fr24 := Fr.snoc X24 N0 g_a
  clear N0
  have kp24 := kp0.wr W24 (Or.inl (List.mem_of_getElem? (i := 0) rfl))
  clear kp0
  refine own_st (st24) ?_
  clear st24 X23 e23 W24
  show OFin p e below s _ _ _ (T24.setTop (mkF m 9 #[.val (.ref a), .val (.ref cn)] []))
  exact own_retV X24 hx hret hlk (hb hby own_d3_9) (by decide) (by decide) (by show _ ∧ _ ∧ Keep h0 T24.heap _ ∧ _; rw [e24]; exact ⟨rfl, fr24, kp24, ⟨f26, f25, f28, f29, f30, f31, f32⟩⟩)
set_option maxRecDepth 65536 in
set_option maxHeartbeats 40000000 in
theorem rmRel (l : Launch) (Z : State) (a0 : Array Value) (hw : ∀ d ∈ tables_1, d.before a0 Z = true) (q : Int32) (h0 : Heap) (n0 : Nat) (x0 x1 x2 x3 x4 x5 x6 x7 : Addr) (S_0 : Sta Z Z.heap "com/example/notation_search/notationsearch/math/Relation" "NEXT" "Lcom/example/notation_search/notationsearch/math/Relation;" (.ref x0)) (S_1 : Sta Z Z.heap "com/example/notation_search/notationsearch/math/Relation" "ABOVE" "Lcom/example/notation_search/notationsearch/math/Relation;" (.ref x1)) (S_2 : Sta Z Z.heap "com/example/notation_search/notationsearch/math/Relation" "BELOW" "Lcom/example/notation_search/notationsearch/math/Relation;" (.ref x2)) (S_3 : Sta Z Z.heap "com/example/notation_search/notationsearch/math/Relation" "OVER" "Lcom/example/notation_search/notationsearch/math/Relation;" (.ref x3)) (S_4 : Sta Z Z.heap "com/example/notation_search/notationsearch/math/Relation" "UNDER" "Lcom/example/notation_search/notationsearch/math/Relation;" (.ref x4)) (S_5 : Sta Z Z.heap "com/example/notation_search/notationsearch/math/Relation" "WITHIN" "Lcom/example/notation_search/notationsearch/math/Relation;" (.ref x5)) (S_6 : Sta Z Z.heap "com/example/notation_search/notationsearch/math/Relation" "PRE_ABOVE" "Lcom/example/notation_search/notationsearch/math/Relation;" (.ref x6)) (S_7 : Sta Z Z.heap "com/example/notation_search/notationsearch/math/Relation" "PRE_BELOW" "Lcom/example/notation_search/notationsearch/math/Relation;" (.ref x7)) (O : Old Z n0 h0) :
    OMet l Z (⟨"com/example/notation_search/notationsearch/math/RowReleasePinLaw", "relation", "(I)Lcom/example/notation_search/notationsearch/math/Relation;"⟩ : MethodName) method_2_code 2 (some (.object "com/example/notation_search/notationsearch/math/Relation")) (⟨0, 0, 0, 0⟩ : Room) #[(.int q)] h0 (fun v h L => ∃ r, v = some (.ref r) ∧ h = h0 ∧ L = []) := by
  refine own_enter own_pn4 ?_
  intro p e s m below meth c T0 X0 hC e0
  obtain ⟨hx, hZ, hby, hml, hown, hret, hlk, hnm⟩ := hC
  have hown : s.vm.findClass "com/example/notation_search/notationsearch/math/RowReleasePinLaw" = some m.cls := hown
  refine own_at (own_ef4_I m q) ?_
  show OFin p e below s _ _ _ (T0.setTop (mkF m 0 #[.val (.int q), .unset] []))
  refine own_st (fun _ kS => XS.iloadN X0.here hx rfl (hb hby own_d4_0) rfl kS) ?_
  show OFin p e below s _ _ _ (T0.setTop (mkF m 1 #[.val (.int q), .unset] [(.int q)]))
  refine own_st (fun _ kS => XS.bipush X0.here hx rfl (hb hby own_d4_1) kS) ?_
  show OFin p e below s _ _ _ (T0.setTop (mkF m 3 #[.val (.int q), .unset] [(.int (7 : Int32)), (.int q)]))
  refine own_st (fun _ kS => XS.iand X0.here hx rfl (hb hby own_d4_3) rfl kS) ?_
  show OFin p e below s _ _ _ (T0.setTop (mkF m 4 #[.val (.int q), .unset] [(.int (q &&& (7 : Int32)))]))
  refine own_st (fun _ kS => XS.istoreN X0.here hx rfl (hb hby own_d4_4) rfl (l' := #[.val (.int q), .val (.int (q &&& (7 : Int32)))]) rfl kS) ?_
  show OFin p e below s _ _ _ (T0.setTop (mkF m 5 #[.val (.int q), .val (.int (q &&& (7 : Int32)))] []))
  refine own_st (fun _ kS => XS.iloadN X0.here hx rfl (hb hby own_d4_5) rfl kS) ?_
  show OFin p e below s _ _ _ (T0.setTop (mkF m 6 #[.val (.int q), .val (.int (q &&& (7 : Int32)))] [(.int (q &&& (7 : Int32)))]))
  by_cases c1 : (q &&& (7 : Int32)) = (0 : Int32)
  · refine own_st (fun _ kS => XS.ifNo X0.here hx rfl (hb hby own_d4_6) rfl ((if0 _ _).trans (teq c1).2) kS) ?_
    show OFin p e below s _ _ _ (T0.setTop (mkF m 9 #[.val (.int q), .val (.int (q &&& (7 : Int32)))] []))
    obtain ⟨T33, X33, e33, st33⟩ := getS2 X0 hx hZ hown (host := "") (Or.inl (own_w hw 212 rfl)) Via.refl e0 (Sta.ext O.2 S_0) (g := (mkF m 9 #[.val (.int q), .val (.int (q &&& (7 : Int32)))] [])) rfl (hb hby own_d4_9)
    refine own_st (st33) ?_
    clear st33 X0 e0
    show OFin p e below s _ _ _ (T33.setTop (mkF m 12 #[.val (.int q), .val (.int (q &&& (7 : Int32)))] [(.ref x0)]))
    exact own_ret X33 hx (t := (.object "com/example/notation_search/notationsearch/math/Relation")) hret hlk rfl (Or.inr (Or.inr (Or.inr (Or.inr ⟨rfl, rfl, rfl⟩)))) (hb hby own_d4_12) (by decide) (by decide) ⟨_, rfl, e33, rfl⟩
  · refine own_st (fun _ kS => XS.ifYes X0.here hx rfl (pc0 := 6) (pc' := 13) rfl (hb hby own_d4_6) rfl ((if0 _ _).trans (feq c1).2) (by decide) (by decide) kS) ?_
    show OFin p e below s _ _ _ (T0.setTop (mkF m 13 #[.val (.int q), .val (.int (q &&& (7 : Int32)))] []))
    refine own_st (fun _ kS => XS.iloadN X0.here hx rfl (hb hby own_d4_13) rfl kS) ?_
    show OFin p e below s _ _ _ (T0.setTop (mkF m 14 #[.val (.int q), .val (.int (q &&& (7 : Int32)))] [(.int (q &&& (7 : Int32)))]))
    refine own_st (fun _ kS => XS.iconst X0.here hx rfl (hb hby own_d4_14) kS) ?_
    show OFin p e below s _ _ _ (T0.setTop (mkF m 15 #[.val (.int q), .val (.int (q &&& (7 : Int32)))] [(.int (1 : Int32)), (.int (q &&& (7 : Int32)))]))
    by_cases c2 : (q &&& (7 : Int32)) = (1 : Int32)
    · refine own_st (fun _ kS => XS.icmpNo X0.here hx rfl (hb hby own_d4_15) rfl (teq c2).2 kS) ?_
      show OFin p e below s _ _ _ (T0.setTop (mkF m 18 #[.val (.int q), .val (.int (q &&& (7 : Int32)))] []))
      obtain ⟨T34, X34, e34, st34⟩ := getS2 X0 hx hZ hown (host := "") (Or.inl (own_w hw 27 rfl)) Via.refl e0 (Sta.ext O.2 S_1) (g := (mkF m 18 #[.val (.int q), .val (.int (q &&& (7 : Int32)))] [])) rfl (hb hby own_d4_18)
      refine own_st (st34) ?_
      clear st34 X0 e0
      show OFin p e below s _ _ _ (T34.setTop (mkF m 21 #[.val (.int q), .val (.int (q &&& (7 : Int32)))] [(.ref x1)]))
      exact own_ret X34 hx (t := (.object "com/example/notation_search/notationsearch/math/Relation")) hret hlk rfl (Or.inr (Or.inr (Or.inr (Or.inr ⟨rfl, rfl, rfl⟩)))) (hb hby own_d4_21) (by decide) (by decide) ⟨_, rfl, e34, rfl⟩
    · refine own_st (fun _ kS => XS.icmpYes X0.here hx rfl (pc0 := 15) (pc' := 22) rfl (hb hby own_d4_15) rfl (feq c2).2 (by decide) (by decide) kS) ?_
      show OFin p e below s _ _ _ (T0.setTop (mkF m 22 #[.val (.int q), .val (.int (q &&& (7 : Int32)))] []))
      refine own_st (fun _ kS => XS.iloadN X0.here hx rfl (hb hby own_d4_22) rfl kS) ?_
      show OFin p e below s _ _ _ (T0.setTop (mkF m 23 #[.val (.int q), .val (.int (q &&& (7 : Int32)))] [(.int (q &&& (7 : Int32)))]))
      refine own_st (fun _ kS => XS.iconst X0.here hx rfl (hb hby own_d4_23) kS) ?_
      show OFin p e below s _ _ _ (T0.setTop (mkF m 24 #[.val (.int q), .val (.int (q &&& (7 : Int32)))] [(.int (2 : Int32)), (.int (q &&& (7 : Int32)))]))
      by_cases c3 : (q &&& (7 : Int32)) = (2 : Int32)
      · refine own_st (fun _ kS => XS.icmpNo X0.here hx rfl (hb hby own_d4_24) rfl (teq c3).2 kS) ?_
        show OFin p e below s _ _ _ (T0.setTop (mkF m 27 #[.val (.int q), .val (.int (q &&& (7 : Int32)))] []))
        obtain ⟨T35, X35, e35, st35⟩ := getS2 X0 hx hZ hown (host := "") (Or.inl (own_w hw 25 rfl)) Via.refl e0 (Sta.ext O.2 S_2) (g := (mkF m 27 #[.val (.int q), .val (.int (q &&& (7 : Int32)))] [])) rfl (hb hby own_d4_27)
        refine own_st (st35) ?_
        clear st35 X0 e0
        show OFin p e below s _ _ _ (T35.setTop (mkF m 30 #[.val (.int q), .val (.int (q &&& (7 : Int32)))] [(.ref x2)]))
        exact own_ret X35 hx (t := (.object "com/example/notation_search/notationsearch/math/Relation")) hret hlk rfl (Or.inr (Or.inr (Or.inr (Or.inr ⟨rfl, rfl, rfl⟩)))) (hb hby own_d4_30) (by decide) (by decide) ⟨_, rfl, e35, rfl⟩
      · refine own_st (fun _ kS => XS.icmpYes X0.here hx rfl (pc0 := 24) (pc' := 31) rfl (hb hby own_d4_24) rfl (feq c3).2 (by decide) (by decide) kS) ?_
        show OFin p e below s _ _ _ (T0.setTop (mkF m 31 #[.val (.int q), .val (.int (q &&& (7 : Int32)))] []))
        refine own_st (fun _ kS => XS.iloadN X0.here hx rfl (hb hby own_d4_31) rfl kS) ?_
        show OFin p e below s _ _ _ (T0.setTop (mkF m 32 #[.val (.int q), .val (.int (q &&& (7 : Int32)))] [(.int (q &&& (7 : Int32)))]))
        refine own_st (fun _ kS => XS.iconst X0.here hx rfl (hb hby own_d4_32) kS) ?_
        show OFin p e below s _ _ _ (T0.setTop (mkF m 33 #[.val (.int q), .val (.int (q &&& (7 : Int32)))] [(.int (3 : Int32)), (.int (q &&& (7 : Int32)))]))
        by_cases c4 : (q &&& (7 : Int32)) = (3 : Int32)
        · refine own_st (fun _ kS => XS.icmpNo X0.here hx rfl (hb hby own_d4_33) rfl (teq c4).2 kS) ?_
          show OFin p e below s _ _ _ (T0.setTop (mkF m 36 #[.val (.int q), .val (.int (q &&& (7 : Int32)))] []))
          obtain ⟨T36, X36, e36, st36⟩ := getS2 X0 hx hZ hown (host := "") (Or.inl (own_w hw 22 rfl)) Via.refl e0 (Sta.ext O.2 S_3) (g := (mkF m 36 #[.val (.int q), .val (.int (q &&& (7 : Int32)))] [])) rfl (hb hby own_d4_36)
          refine own_st (st36) ?_
          clear st36 X0 e0
          show OFin p e below s _ _ _ (T36.setTop (mkF m 39 #[.val (.int q), .val (.int (q &&& (7 : Int32)))] [(.ref x3)]))
          exact own_ret X36 hx (t := (.object "com/example/notation_search/notationsearch/math/Relation")) hret hlk rfl (Or.inr (Or.inr (Or.inr (Or.inr ⟨rfl, rfl, rfl⟩)))) (hb hby own_d4_39) (by decide) (by decide) ⟨_, rfl, e36, rfl⟩
        · refine own_st (fun _ kS => XS.icmpYes X0.here hx rfl (pc0 := 33) (pc' := 40) rfl (hb hby own_d4_33) rfl (feq c4).2 (by decide) (by decide) kS) ?_
          show OFin p e below s _ _ _ (T0.setTop (mkF m 40 #[.val (.int q), .val (.int (q &&& (7 : Int32)))] []))
          refine own_st (fun _ kS => XS.iloadN X0.here hx rfl (hb hby own_d4_40) rfl kS) ?_
          show OFin p e below s _ _ _ (T0.setTop (mkF m 41 #[.val (.int q), .val (.int (q &&& (7 : Int32)))] [(.int (q &&& (7 : Int32)))]))
          refine own_st (fun _ kS => XS.iconst X0.here hx rfl (hb hby own_d4_41) kS) ?_
          show OFin p e below s _ _ _ (T0.setTop (mkF m 42 #[.val (.int q), .val (.int (q &&& (7 : Int32)))] [(.int (4 : Int32)), (.int (q &&& (7 : Int32)))]))
          by_cases c5 : (q &&& (7 : Int32)) = (4 : Int32)
          · refine own_st (fun _ kS => XS.icmpNo X0.here hx rfl (hb hby own_d4_42) rfl (teq c5).2 kS) ?_
            show OFin p e below s _ _ _ (T0.setTop (mkF m 45 #[.val (.int q), .val (.int (q &&& (7 : Int32)))] []))
            obtain ⟨T37, X37, e37, st37⟩ := getS2 X0 hx hZ hown (host := "") (Or.inl (own_w hw 69 rfl)) Via.refl e0 (Sta.ext O.2 S_4) (g := (mkF m 45 #[.val (.int q), .val (.int (q &&& (7 : Int32)))] [])) rfl (hb hby own_d4_45)
            refine own_st (st37) ?_
            clear st37 X0 e0
            show OFin p e below s _ _ _ (T37.setTop (mkF m 48 #[.val (.int q), .val (.int (q &&& (7 : Int32)))] [(.ref x4)]))
            exact own_ret X37 hx (t := (.object "com/example/notation_search/notationsearch/math/Relation")) hret hlk rfl (Or.inr (Or.inr (Or.inr (Or.inr ⟨rfl, rfl, rfl⟩)))) (hb hby own_d4_48) (by decide) (by decide) ⟨_, rfl, e37, rfl⟩
          · refine own_st (fun _ kS => XS.icmpYes X0.here hx rfl (pc0 := 42) (pc' := 49) rfl (hb hby own_d4_42) rfl (feq c5).2 (by decide) (by decide) kS) ?_
            show OFin p e below s _ _ _ (T0.setTop (mkF m 49 #[.val (.int q), .val (.int (q &&& (7 : Int32)))] []))
            refine own_st (fun _ kS => XS.iloadN X0.here hx rfl (hb hby own_d4_49) rfl kS) ?_
            show OFin p e below s _ _ _ (T0.setTop (mkF m 50 #[.val (.int q), .val (.int (q &&& (7 : Int32)))] [(.int (q &&& (7 : Int32)))]))
            refine own_st (fun _ kS => XS.iconst X0.here hx rfl (hb hby own_d4_50) kS) ?_
            show OFin p e below s _ _ _ (T0.setTop (mkF m 51 #[.val (.int q), .val (.int (q &&& (7 : Int32)))] [(.int (5 : Int32)), (.int (q &&& (7 : Int32)))]))
            by_cases c6 : (q &&& (7 : Int32)) = (5 : Int32)
            · refine own_st (fun _ kS => XS.icmpNo X0.here hx rfl (hb hby own_d4_51) rfl (teq c6).2 kS) ?_
              show OFin p e below s _ _ _ (T0.setTop (mkF m 54 #[.val (.int q), .val (.int (q &&& (7 : Int32)))] []))
              obtain ⟨T38, X38, e38, st38⟩ := getS2 X0 hx hZ hown (host := "") (Or.inl (own_w hw 210 rfl)) Via.refl e0 (Sta.ext O.2 S_5) (g := (mkF m 54 #[.val (.int q), .val (.int (q &&& (7 : Int32)))] [])) rfl (hb hby own_d4_54)
              refine own_st (st38) ?_
              clear st38 X0 e0
              show OFin p e below s _ _ _ (T38.setTop (mkF m 57 #[.val (.int q), .val (.int (q &&& (7 : Int32)))] [(.ref x5)]))
              exact own_ret X38 hx (t := (.object "com/example/notation_search/notationsearch/math/Relation")) hret hlk rfl (Or.inr (Or.inr (Or.inr (Or.inr ⟨rfl, rfl, rfl⟩)))) (hb hby own_d4_57) (by decide) (by decide) ⟨_, rfl, e38, rfl⟩
            · refine own_st (fun _ kS => XS.icmpYes X0.here hx rfl (pc0 := 51) (pc' := 58) rfl (hb hby own_d4_51) rfl (feq c6).2 (by decide) (by decide) kS) ?_
              show OFin p e below s _ _ _ (T0.setTop (mkF m 58 #[.val (.int q), .val (.int (q &&& (7 : Int32)))] []))
              refine own_st (fun _ kS => XS.iloadN X0.here hx rfl (hb hby own_d4_58) rfl kS) ?_
              show OFin p e below s _ _ _ (T0.setTop (mkF m 59 #[.val (.int q), .val (.int (q &&& (7 : Int32)))] [(.int (q &&& (7 : Int32)))]))
              refine own_st (fun _ kS => XS.bipush X0.here hx rfl (hb hby own_d4_59) kS) ?_
              show OFin p e below s _ _ _ (T0.setTop (mkF m 61 #[.val (.int q), .val (.int (q &&& (7 : Int32)))] [(.int (6 : Int32)), (.int (q &&& (7 : Int32)))]))
              by_cases c7 : (q &&& (7 : Int32)) = (6 : Int32)
              · refine own_st (fun _ kS => XS.icmpNo X0.here hx rfl (hb hby own_d4_61) rfl (teq c7).2 kS) ?_
                show OFin p e below s _ _ _ (T0.setTop (mkF m 64 #[.val (.int q), .val (.int (q &&& (7 : Int32)))] []))
                obtain ⟨T39, X39, e39, st39⟩ := getS2 X0 hx hZ hown (host := "") (Or.inl (own_w hw 214 rfl)) Via.refl e0 (Sta.ext O.2 S_6) (g := (mkF m 64 #[.val (.int q), .val (.int (q &&& (7 : Int32)))] [])) rfl (hb hby own_d4_64)
                refine own_st (st39) ?_
                clear st39 X0 e0
                show OFin p e below s _ _ _ (T39.setTop (mkF m 67 #[.val (.int q), .val (.int (q &&& (7 : Int32)))] [(.ref x6)]))
                exact own_ret X39 hx (t := (.object "com/example/notation_search/notationsearch/math/Relation")) hret hlk rfl (Or.inr (Or.inr (Or.inr (Or.inr ⟨rfl, rfl, rfl⟩)))) (hb hby own_d4_67) (by decide) (by decide) ⟨_, rfl, e39, rfl⟩
              · refine own_st (fun _ kS => XS.icmpYes X0.here hx rfl (pc0 := 61) (pc' := 68) rfl (hb hby own_d4_61) rfl (feq c7).2 (by decide) (by decide) kS) ?_
                show OFin p e below s _ _ _ (T0.setTop (mkF m 68 #[.val (.int q), .val (.int (q &&& (7 : Int32)))] []))
                obtain ⟨T40, X40, e40, st40⟩ := getS2 X0 hx hZ hown (host := "") (Or.inl (own_w hw 71 rfl)) Via.refl e0 (Sta.ext O.2 S_7) (g := (mkF m 68 #[.val (.int q), .val (.int (q &&& (7 : Int32)))] [])) rfl (hb hby own_d4_68)
                refine own_st (st40) ?_
                clear st40 X0 e0
                show OFin p e below s _ _ _ (T40.setTop (mkF m 71 #[.val (.int q), .val (.int (q &&& (7 : Int32)))] [(.ref x7)]))
                exact own_ret X40 hx (t := (.object "com/example/notation_search/notationsearch/math/Relation")) hret hlk rfl (Or.inr (Or.inr (Or.inr (Or.inr ⟨rfl, rfl, rfl⟩)))) (hb hby own_d4_71) (by decide) (by decide) ⟨_, rfl, e40, rfl⟩
set_option maxRecDepth 65536 in
set_option maxHeartbeats 40000000 in
theorem rmOf (l : Launch) (Z : State) (a0 : Array Value) (hw : ∀ d ∈ tables_1, d.before a0 Z = true)  (h0 : Heap) (n0 : Nat) (el : Addr) (S_el : Sta Z Z.heap "java/util/ImmutableCollections" "EMPTY_LIST" "Ljava/util/ImmutableCollections$ListN;" (.ref el)) (O : Old Z n0 h0) :
    OMet l Z (⟨"java/util/List", "of", "()Ljava/util/List;"⟩ : MethodName) jdk_40_method_36_code 0 (some (.object "java/util/List")) (⟨0, 0, 0, 0⟩ : Room) #[] h0 (fun v h L => v = some (.ref el) ∧ h = h0 ∧ L = []) := by
  refine own_enter own_pn6 ?_
  intro p e s m below meth c T0 X0 hC e0
  obtain ⟨hx, hZ, hby, hml, hown, hret, hlk, hnm⟩ := hC
  have hown : s.vm.findClass "java/util/List" = some m.cls := hown
  refine own_at (own_ef6_ m ) ?_
  show OFin p e below s _ _ _ (T0.setTop (mkF m 0 #[] []))
  obtain ⟨T41, X41, e41, st41⟩ := getS2 X0 hx hZ hown (host := "") (Or.inl (own_w hw 40 rfl)) Via.refl e0 (Sta.ext O.2 S_el) (g := (mkF m 0 #[] [])) rfl (hb hby own_d6_0)
  refine own_st (st41) ?_
  clear st41 X0 e0
  show OFin p e below s _ _ _ (T41.setTop (mkF m 3 #[] [(.ref el)]))
  exact own_ret X41 hx (t := (.object "java/util/List")) hret hlk rfl (Or.inr (Or.inr (Or.inr (Or.inr ⟨rfl, rfl, rfl⟩)))) (hb hby own_d6_3) (by decide) (by decide) ⟨rfl, e41, rfl⟩
set_option maxRecDepth 65536 in
set_option maxHeartbeats 40000000 in
theorem rmLS (l : Launch) (Z : State) (a0 : Array Value) (hw : ∀ d ∈ tables_1, d.before a0 Z = true) (el : Addr) (h0 : Heap) (em : Addr) (F_l : Fld Z h0 el "java/util/ImmutableCollections$ListN" "elements" "[Ljava/lang/Object;" (.ref em)) (A_m : OArr Z h0 em (.object "java/lang/Object") 0 (fun _ => .null)) :
    OMet l Z (⟨"java/util/ImmutableCollections$ListN", "size", "()I"⟩ : MethodName) jdk_45_method_3_code 1 (some .int) (⟨0, 0, 0, 0⟩ : Room) #[(.ref el)] h0 (fun v h L => v = some (.int (0 : Int32)) ∧ h = h0 ∧ L = []) := by
  refine own_enter own_pn7 ?_
  intro p e s m below meth c T0 X0 hC e0
  obtain ⟨hx, hZ, hby, hml, hown, hret, hlk, hnm⟩ := hC
  have hown : s.vm.findClass "java/util/ImmutableCollections$ListN" = some m.cls := hown
  refine own_at (own_ef7_R m el) ?_
  show OFin p e below s _ _ _ (T0.setTop (mkF m 0 #[.val (.ref el)] []))
  refine own_st (fun _ kS => XS.aloadN X0.here hx rfl (hb hby own_d7_0) rfl rfl kS) ?_
  show OFin p e below s _ _ _ (T0.setTop (mkF m 1 #[.val (.ref el)] [(.ref el)]))
  obtain ⟨T42, X42, e42, st42⟩ := getF X0 hx hZ hown (host := "") (Or.inl (own_w hw 52 rfl)) Via.refl e0 F_l (g := (mkF m 1 #[.val (.ref el)] [(.ref el)])) rfl rfl (hb hby own_d7_1)
  refine own_st (st42) ?_
  clear st42 X0 e0
  show OFin p e below s _ _ _ (T42.setTop (mkF m 4 #[.val (.ref el)] [(.ref em)]))
  obtain ⟨cl43, Ar43, S43, B43, H43⟩ := id A_m
  have hl43 := own_len S43 (rfl : _ = (0 : Int32))
  refine own_st (X42.arraylength hx (by rw [e42]; exact Ar43.1) (State.isArrayOf_alike hZ.alike Ar43.2.1) (g := (mkF m 4 #[.val (.ref el)] [(.ref em)])) rfl rfl (hb hby own_d7_4)) ?_
  rw [hl43]
  clear hl43 Ar43 S43 B43
  show OFin p e below s _ _ _ (T42.setTop (mkF m 5 #[.val (.ref el)] [(.int (0 : Int32))]))
  exact own_ret X42 hx (t := .int) hret hlk rfl (Or.inl ⟨rfl, by simp, _, rfl⟩) (hb hby own_d7_5) (by decide) (by decide) ⟨rfl, e42, rfl⟩
set_option maxRecDepth 65536 in
set_option maxHeartbeats 40000000 in
theorem rmLE (l : Launch) (Z : State) (a0 : Array Value) (hw : ∀ d ∈ tables_1, d.before a0 Z = true) (el : Addr) (h0 : Heap) (em : Addr) (F_l : Fld Z h0 el "java/util/ImmutableCollections$ListN" "elements" "[Ljava/lang/Object;" (.ref em)) (A_m : OArr Z h0 em (.object "java/lang/Object") 0 (fun _ => .null)) :
    OMet l Z (⟨"java/util/ImmutableCollections$ListN", "isEmpty", "()Z"⟩ : MethodName) jdk_45_method_2_code 1 (some .boolean) (⟨0, 0, 0, 0⟩ : Room) #[(.ref el)] h0 (fun v h L => v = some (.int (1 : Int32)) ∧ h = h0 ∧ L = []) := by
  refine own_enter own_pn8 ?_
  intro p e s m below meth c T0 X0 hC e0
  obtain ⟨hx, hZ, hby, hml, hown, hret, hlk, hnm⟩ := hC
  have hown : s.vm.findClass "java/util/ImmutableCollections$ListN" = some m.cls := hown
  refine own_at (own_ef8_R m el) ?_
  show OFin p e below s _ _ _ (T0.setTop (mkF m 0 #[.val (.ref el)] []))
  refine own_st (fun _ kS => XS.aloadN X0.here hx rfl (hb hby own_d8_0) rfl rfl kS) ?_
  show OFin p e below s _ _ _ (T0.setTop (mkF m 1 #[.val (.ref el)] [(.ref el)]))
  obtain ⟨T44, X44, e44, st44⟩ := getF X0 hx hZ hown (host := "") (Or.inl (own_w hw 52 rfl)) Via.refl e0 F_l (g := (mkF m 1 #[.val (.ref el)] [(.ref el)])) rfl rfl (hb hby own_d8_1)
  refine own_st (st44) ?_
  clear st44 X0 e0
  show OFin p e below s _ _ _ (T44.setTop (mkF m 4 #[.val (.ref el)] [(.ref em)]))
  obtain ⟨cl45, Ar45, S45, B45, H45⟩ := id A_m
  have hl45 := own_len S45 (rfl : _ = (0 : Int32))
  refine own_st (X44.arraylength hx (by rw [e44]; exact Ar45.1) (State.isArrayOf_alike hZ.alike Ar45.2.1) (g := (mkF m 4 #[.val (.ref el)] [(.ref em)])) rfl rfl (hb hby own_d8_4)) ?_
  rw [hl45]
  clear hl45 Ar45 S45 B45
  show OFin p e below s _ _ _ (T44.setTop (mkF m 5 #[.val (.ref el)] [(.int (0 : Int32))]))
  refine own_st (fun _ kS => XS.ifNo X44.here hx rfl (hb hby own_d8_5) rfl ((if0 _ _).trans (teq rfl).2) kS) ?_
  show OFin p e below s _ _ _ (T44.setTop (mkF m 8 #[.val (.ref el)] []))
  refine own_st (fun _ kS => XS.iconst X44.here hx rfl (hb hby own_d8_8) kS) ?_
  show OFin p e below s _ _ _ (T44.setTop (mkF m 9 #[.val (.ref el)] [(.int (1 : Int32))]))
  refine own_st (fun _ kS => XS.goto X44.here hx rfl (pc0 := 9) (pc' := 13) rfl (hb hby own_d8_9) (by decide) (by decide) kS) ?_
  show OFin p e below s _ _ _ (T44.setTop (mkF m 13 #[.val (.ref el)] [(.int (1 : Int32))]))
  exact own_ret X44 hx (t := .boolean) hret hlk rfl (Or.inl ⟨rfl, by simp, _, rfl⟩) (hb hby own_d8_13) (by decide) (by decide) ⟨rfl, e44, rfl⟩
set_option maxRecDepth 65536 in
set_option maxHeartbeats 40000000 in
theorem rmRN (l : Launch) (Z : State) (a0 : Array Value) (hw : ∀ d ∈ tables_1, d.before a0 Z = true) (a : Addr) (h0 : Heap) (n0 : Nat) (cn el : Addr) (B_a : BR Z h0 a cn .null) (g_a : n0 ≤ a) (S_el : Sta Z Z.heap "java/util/ImmutableCollections" "EMPTY_LIST" "Ljava/util/ImmutableCollections$ListN;" (.ref el)) (O : Old Z n0 h0) :
    OMet l Z (⟨"com/example/notation_search/notationsearch/math/Row", "release", "()Ljava/util/List;"⟩ : MethodName) prog_33_method_9_code 2 (some (.object "java/util/List")) (⟨1, 0, 0, 11⟩ : Room) #[(.ref a)] h0 (fun v h L => v = some (.ref el) ∧ Fr n0 L ∧ Keep h0 h [a] ∧ BR Z h a cn .null) := by
  refine own_enter own_pn5 ?_
  intro p e s m below meth c T0 X0 hC e0
  obtain ⟨hx, hZ, hby, hml, hown, hret, hlk, hnm⟩ := hC
  have hown : s.vm.findClass "com/example/notation_search/notationsearch/math/Row" = some m.cls := hown
  refine own_at (own_ef5_R m a) ?_
  show OFin p e below s _ _ _ (T0.setTop (mkF m 0 #[.val (.ref a), .unset] []))
  have N0 := Fr.nil n0
  have kp0 := Keep.refl h0 [a]
  obtain ⟨u46, u47, u48, u49, u50, u51, u52⟩ := B_a
  refine own_st (fun _ kS => XS.aloadN X0.here hx rfl (hb hby own_d5_0) rfl rfl kS) ?_
  show OFin p e below s _ _ _ (T0.setTop (mkF m 1 #[.val (.ref a), .unset] [(.ref a)]))
  obtain ⟨T53, X53, e53, st53⟩ := getF X0 hx hZ hown (host := "") (Or.inl (own_w hw 34 rfl)) Via.refl e0 u52 (g := (mkF m 1 #[.val (.ref a), .unset] [(.ref a)])) rfl rfl (hb hby own_d5_1)
  refine own_st (st53) ?_
  clear st53 X0 e0
  show OFin p e below s _ _ _ (T53.setTop (mkF m 4 #[.val (.ref a), .unset] [.null]))
  refine own_st (fun _ kS => XS.ifnonnullNo X53.here hx rfl (hb hby own_d5_4) rfl kS) ?_
  show OFin p e below s _ _ _ (T53.setTop (mkF m 7 #[.val (.ref a), .unset] []))
  obtain ⟨v54, T54, L54, X54, hQ54, st54⟩ := own_static X53 hx hZ (y := (⟨"java/util/List", "of", "()Ljava/util/List;"⟩ : MethodName)) (rm := ⟨0, 0, 0, 0⟩) (W := 0) (argsL := []) (rest := []) hown (own_w hw 36 rfl) (own_w hw 37 rfl) (own_w hw 38 rfl) (own_w hw 39 rfl) (rmOf l Z a0 hw h0 n0 el S_el O) e53 (g := (mkF m 7 #[.val (.ref a), .unset] [])) rfl (by rw [hml]; rfl) (lenOf own_pd1 rfl) rfl (by show 2 * 0 + _ ≤ _; exact Nat.le_of_eq rfl) (hb hby own_d5_7) (by decide) (by decide) (by decide) (by decide)
  obtain ⟨rfl, e54, rfl⟩ := hQ54
  rw [List.append_nil] at X54
  refine own_st (st54) ?_
  clear st54 X53 e53
  show OFin p e below s _ _ _ (T54.setTop (mkF m 10 #[.val (.ref a), .unset] [(.ref el)]))
  refine own_st (fun _ kS => XS.goto X54.here hx rfl (pc0 := 10) (pc' := 17) rfl (hb hby own_d5_10) (by decide) (by decide) kS) ?_
  show OFin p e below s _ _ _ (T54.setTop (mkF m 17 #[.val (.ref a), .unset] [(.ref el)]))
  refine own_st (fun _ kS => XS.astoreN X54.here hx rfl (hb hby own_d5_17) rfl rfl (l' := #[.val (.ref a), .val (.ref el)]) rfl kS) ?_
  show OFin p e below s _ _ _ (T54.setTop (mkF m 18 #[.val (.ref a), .val (.ref el)] []))
  refine own_st (fun _ kS => XS.aloadN X54.here hx rfl (hb hby own_d5_18) rfl rfl kS) ?_
  show OFin p e below s _ _ _ (T54.setTop (mkF m 19 #[.val (.ref a), .val (.ref el)] [(.ref a)]))
  refine own_st (fun _ kS => XS.aconstNull X54.here hx rfl (hb hby own_d5_19) kS) ?_
  show OFin p e below s _ _ _ (T54.setTop (mkF m 20 #[.val (.ref a), .val (.ref el)] [.null, (.ref a)]))
  obtain ⟨T55, h55, X55, e55, W55, st55⟩ := putF X54 hx hZ hown (host := "") (Or.inl (own_w hw 34 rfl)) Via.refl e54 u52 u46 (Or.inl (own_w hw 35 rfl)) (own_w hw 10 rfl) (ty := (.object "java/util/List")) (by decide) rfl rfl (g := (mkF m 20 #[.val (.ref a), .val (.ref el)] [.null, (.ref a)])) rfl rfl (hb hby own_d5_20)
  have f56 := u52.same W55
  have od55 := O.wr W55 g_a
  have f57 := u46.wr W55
  clear u46
  have f58 := u47.other W55 (Or.inr (slot_ne (Or.inr (own_w hw 17 rfl)) (Or.inl (own_w hw 35 rfl)) (by decide) (t := (.object "com/example/notation_search/notationsearch/math/SymbolCount")) (t' := (.object "java/util/List")) (by decide) (by decide)))
  clear u47
  have f59 := u48.other W55 (Or.inr (slot_ne (Or.inl (own_w hw 161 rfl)) (Or.inl (own_w hw 35 rfl)) (by decide) (t := (.object "com/example/notation_search/notationsearch/math/Symbol")) (t' := (.object "java/util/List")) (by decide) (by decide)))
  clear u48
  have f60 := u49.other W55 (Or.inr (slot_ne (Or.inl (own_w hw 217 rfl)) (Or.inl (own_w hw 35 rfl)) (by decide) (t := (.object "com/example/notation_search/notationsearch/math/Symbol")) (t' := (.object "java/util/List")) (by decide) (by decide)))
  clear u49
  have f61 := u50.other W55 (Or.inr (slot_ne (Or.inl (own_w hw 163 rfl)) (Or.inl (own_w hw 35 rfl)) (by decide) (t := (.object "com/example/notation_search/notationsearch/math/Symbol")) (t' := (.object "java/util/List")) (by decide) (by decide)))
  clear u50
  have f62 := u51.other W55 (Or.inr (slot_ne (Or.inl (own_w hw 68 rfl)) (Or.inl (own_w hw 35 rfl)) (by decide) (t := (.object "java/util/List")) (t' := (.object "java/util/List")) (by decide) (by decide)))
  clear u51
  have fr55 := Fr.snoc X55 N0 g_a
  clear N0
  have kp55 := kp0.wr W55 (Or.inl (List.mem_of_getElem? (i := 0) rfl))
  clear kp0
  refine own_st (st55) ?_
  clear st55 X54 e54 W55 u52
  show OFin p e below s _ _ _ (T55.setTop (mkF m 23 #[.val (.ref a), .val (.ref el)] []))
  refine own_st (fun _ kS => XS.aloadN X55.here hx rfl (hb hby own_d5_23) rfl rfl kS) ?_
  show OFin p e below s _ _ _ (T55.setTop (mkF m 24 #[.val (.ref a), .val (.ref el)] [(.ref el)]))
  exact own_ret X55 hx (t := (.object "java/util/List")) hret hlk rfl (Or.inr (Or.inr (Or.inr (Or.inr ⟨rfl, rfl, rfl⟩)))) (hb hby own_d5_24) (by decide) (by decide) (by show _ ∧ _ ∧ Keep h0 T55.heap _ ∧ _; rw [e55]; exact ⟨rfl, fr55, kp55, ⟨f57, f58, f59, f60, f61, f62, f56⟩⟩)
set_option maxRecDepth 65536 in
set_option maxHeartbeats 40000000 in
theorem rmRW (l : Launch) (Z : State) (a0 : Array Value) (hw : ∀ d ∈ tables_1, d.before a0 Z = true) (a : Addr) (h0 : Heap) (n0 : Nat) (cn b : Addr) (B_a : BR Z h0 a cn (.ref b)) (g_a : n0 ≤ a) :
    OMet l Z (⟨"com/example/notation_search/notationsearch/math/Row", "release", "()Ljava/util/List;"⟩ : MethodName) prog_33_method_9_code 2 (some (.object "java/util/List")) (⟨0, 0, 0, 0⟩ : Room) #[(.ref a)] h0 (fun v h L => v = some (.ref b) ∧ Fr n0 L ∧ Keep h0 h [a] ∧ BR Z h a cn .null) := by
  refine own_enter own_pn5 ?_
  intro p e s m below meth c T0 X0 hC e0
  obtain ⟨hx, hZ, hby, hml, hown, hret, hlk, hnm⟩ := hC
  have hown : s.vm.findClass "com/example/notation_search/notationsearch/math/Row" = some m.cls := hown
  refine own_at (own_ef5_R m a) ?_
  show OFin p e below s _ _ _ (T0.setTop (mkF m 0 #[.val (.ref a), .unset] []))
  have N0 := Fr.nil n0
  have kp0 := Keep.refl h0 [a]
  obtain ⟨u64, u65, u66, u67, u68, u69, u70⟩ := B_a
  refine own_st (fun _ kS => XS.aloadN X0.here hx rfl (hb hby own_d5_0) rfl rfl kS) ?_
  show OFin p e below s _ _ _ (T0.setTop (mkF m 1 #[.val (.ref a), .unset] [(.ref a)]))
  obtain ⟨T71, X71, e71, st71⟩ := getF X0 hx hZ hown (host := "") (Or.inl (own_w hw 34 rfl)) Via.refl e0 u70 (g := (mkF m 1 #[.val (.ref a), .unset] [(.ref a)])) rfl rfl (hb hby own_d5_1)
  refine own_st (st71) ?_
  clear st71 X0 e0
  show OFin p e below s _ _ _ (T71.setTop (mkF m 4 #[.val (.ref a), .unset] [(.ref b)]))
  refine own_st (fun _ kS => XS.ifnonnullYes X71.here hx rfl (pc0 := 4) (pc' := 13) rfl (hb hby own_d5_4) rfl (by decide) (by decide) kS) ?_
  show OFin p e below s _ _ _ (T71.setTop (mkF m 13 #[.val (.ref a), .unset] []))
  refine own_st (fun _ kS => XS.aloadN X71.here hx rfl (hb hby own_d5_13) rfl rfl kS) ?_
  show OFin p e below s _ _ _ (T71.setTop (mkF m 14 #[.val (.ref a), .unset] [(.ref a)]))
  obtain ⟨T72, X72, e72, st72⟩ := getF X71 hx hZ hown (host := "") (Or.inl (own_w hw 34 rfl)) Via.refl e71 u70 (g := (mkF m 14 #[.val (.ref a), .unset] [(.ref a)])) rfl rfl (hb hby own_d5_14)
  refine own_st (st72) ?_
  clear st72 X71 e71
  show OFin p e below s _ _ _ (T72.setTop (mkF m 17 #[.val (.ref a), .unset] [(.ref b)]))
  refine own_st (fun _ kS => XS.astoreN X72.here hx rfl (hb hby own_d5_17) rfl rfl (l' := #[.val (.ref a), .val (.ref b)]) rfl kS) ?_
  show OFin p e below s _ _ _ (T72.setTop (mkF m 18 #[.val (.ref a), .val (.ref b)] []))
  refine own_st (fun _ kS => XS.aloadN X72.here hx rfl (hb hby own_d5_18) rfl rfl kS) ?_
  show OFin p e below s _ _ _ (T72.setTop (mkF m 19 #[.val (.ref a), .val (.ref b)] [(.ref a)]))
  refine own_st (fun _ kS => XS.aconstNull X72.here hx rfl (hb hby own_d5_19) kS) ?_
  show OFin p e below s _ _ _ (T72.setTop (mkF m 20 #[.val (.ref a), .val (.ref b)] [.null, (.ref a)]))
  obtain ⟨T73, h73, X73, e73, W73, st73⟩ := putF X72 hx hZ hown (host := "") (Or.inl (own_w hw 34 rfl)) Via.refl e72 u70 u64 (Or.inl (own_w hw 35 rfl)) (own_w hw 10 rfl) (ty := (.object "java/util/List")) (by decide) rfl rfl (g := (mkF m 20 #[.val (.ref a), .val (.ref b)] [.null, (.ref a)])) rfl rfl (hb hby own_d5_20)
  have f74 := u70.same W73
  have f75 := u64.wr W73
  clear u64
  have f76 := u65.other W73 (Or.inr (slot_ne (Or.inr (own_w hw 17 rfl)) (Or.inl (own_w hw 35 rfl)) (by decide) (t := (.object "com/example/notation_search/notationsearch/math/SymbolCount")) (t' := (.object "java/util/List")) (by decide) (by decide)))
  clear u65
  have f77 := u66.other W73 (Or.inr (slot_ne (Or.inl (own_w hw 161 rfl)) (Or.inl (own_w hw 35 rfl)) (by decide) (t := (.object "com/example/notation_search/notationsearch/math/Symbol")) (t' := (.object "java/util/List")) (by decide) (by decide)))
  clear u66
  have f78 := u67.other W73 (Or.inr (slot_ne (Or.inl (own_w hw 217 rfl)) (Or.inl (own_w hw 35 rfl)) (by decide) (t := (.object "com/example/notation_search/notationsearch/math/Symbol")) (t' := (.object "java/util/List")) (by decide) (by decide)))
  clear u67
  have f79 := u68.other W73 (Or.inr (slot_ne (Or.inl (own_w hw 163 rfl)) (Or.inl (own_w hw 35 rfl)) (by decide) (t := (.object "com/example/notation_search/notationsearch/math/Symbol")) (t' := (.object "java/util/List")) (by decide) (by decide)))
  clear u68
  have f80 := u69.other W73 (Or.inr (slot_ne (Or.inl (own_w hw 68 rfl)) (Or.inl (own_w hw 35 rfl)) (by decide) (t := (.object "java/util/List")) (t' := (.object "java/util/List")) (by decide) (by decide)))
  clear u69
  have fr73 := Fr.snoc X73 N0 g_a
  clear N0
  have kp73 := kp0.wr W73 (Or.inl (List.mem_of_getElem? (i := 0) rfl))
  clear kp0
  refine own_st (st73) ?_
  clear st73 X72 e72 W73 u70
  show OFin p e below s _ _ _ (T73.setTop (mkF m 23 #[.val (.ref a), .val (.ref b)] []))
  refine own_st (fun _ kS => XS.aloadN X73.here hx rfl (hb hby own_d5_23) rfl rfl kS) ?_
  show OFin p e below s _ _ _ (T73.setTop (mkF m 24 #[.val (.ref a), .val (.ref b)] [(.ref b)]))
  exact own_ret X73 hx (t := (.object "java/util/List")) hret hlk rfl (Or.inr (Or.inr (Or.inr (Or.inr ⟨rfl, rfl, rfl⟩)))) (hb hby own_d5_24) (by decide) (by decide) (by show _ ∧ _ ∧ Keep h0 T73.heap _ ∧ _; rw [e73]; exact ⟨rfl, fr73, kp73, ⟨f75, f76, f77, f78, f79, f80, f74⟩⟩)
set_option maxRecDepth 65536 in
set_option maxHeartbeats 40000000 in
theorem rmFo (l : Launch) (Z : State) (a0 : Array Value) (hw : ∀ d ∈ tables_1, d.before a0 Z = true) (a : Addr) (h0 : Heap) (n0 : Nat) (cn el : Addr) (B_a : BR Z h0 a cn .null) (S_el : Sta Z Z.heap "java/util/ImmutableCollections" "EMPTY_LIST" "Ljava/util/ImmutableCollections$ListN;" (.ref el)) (O : Old Z n0 h0) :
    OMet l Z (⟨"com/example/notation_search/notationsearch/math/Row", "followed", "()Ljava/util/List;"⟩ : MethodName) prog_33_method_8_code 1 (some (.object "java/util/List")) (⟨1, 0, 0, 11⟩ : Room) #[(.ref a)] h0 (fun v h L => v = some (.ref el) ∧ h = h0 ∧ L = []) := by
  refine own_enter own_pn9 ?_
  intro p e s m below meth c T0 X0 hC e0
  obtain ⟨hx, hZ, hby, hml, hown, hret, hlk, hnm⟩ := hC
  have hown : s.vm.findClass "com/example/notation_search/notationsearch/math/Row" = some m.cls := hown
  refine own_at (own_ef9_R m a) ?_
  show OFin p e below s _ _ _ (T0.setTop (mkF m 0 #[.val (.ref a)] []))
  obtain ⟨u82, u83, u84, u85, u86, u87, u88⟩ := B_a
  refine own_st (fun _ kS => XS.aloadN X0.here hx rfl (hb hby own_d9_0) rfl rfl kS) ?_
  show OFin p e below s _ _ _ (T0.setTop (mkF m 1 #[.val (.ref a)] [(.ref a)]))
  obtain ⟨T89, X89, e89, st89⟩ := getF X0 hx hZ hown (host := "") (Or.inl (own_w hw 67 rfl)) Via.refl e0 u87 (g := (mkF m 1 #[.val (.ref a)] [(.ref a)])) rfl rfl (hb hby own_d9_1)
  refine own_st (st89) ?_
  clear st89 X0 e0
  show OFin p e below s _ _ _ (T89.setTop (mkF m 4 #[.val (.ref a)] [.null]))
  refine own_st (fun _ kS => XS.ifnonnullNo X89.here hx rfl (hb hby own_d9_4) rfl kS) ?_
  show OFin p e below s _ _ _ (T89.setTop (mkF m 7 #[.val (.ref a)] []))
  obtain ⟨v90, T90, L90, X90, hQ90, st90⟩ := own_static X89 hx hZ (y := (⟨"java/util/List", "of", "()Ljava/util/List;"⟩ : MethodName)) (rm := ⟨0, 0, 0, 0⟩) (W := 0) (argsL := []) (rest := []) hown (own_w hw 36 rfl) (own_w hw 37 rfl) (own_w hw 38 rfl) (own_w hw 39 rfl) (rmOf l Z a0 hw h0 n0 el S_el O) e89 (g := (mkF m 7 #[.val (.ref a)] [])) rfl (by rw [hml]; rfl) (lenOf own_pd1 rfl) rfl (by show 2 * 0 + _ ≤ _; exact Nat.le_of_eq rfl) (hb hby own_d9_7) (by decide) (by decide) (by decide) (by decide)
  obtain ⟨rfl, e90, rfl⟩ := hQ90
  rw [List.append_nil] at X90
  refine own_st (st90) ?_
  clear st90 X89 e89
  show OFin p e below s _ _ _ (T90.setTop (mkF m 10 #[.val (.ref a)] [(.ref el)]))
  refine own_st (fun _ kS => XS.goto X90.here hx rfl (pc0 := 10) (pc' := 17) rfl (hb hby own_d9_10) (by decide) (by decide) kS) ?_
  show OFin p e below s _ _ _ (T90.setTop (mkF m 17 #[.val (.ref a)] [(.ref el)]))
  exact own_ret X90 hx (t := (.object "java/util/List")) hret hlk rfl (Or.inr (Or.inr (Or.inr (Or.inr ⟨rfl, rfl, rfl⟩)))) (hb hby own_d9_17) (by decide) (by decide) ⟨rfl, e90, rfl⟩
set_option maxRecDepth 65536 in
set_option maxHeartbeats 40000000 in
theorem rmAp (l : Launch) (Z : State) (a0 : Array Value) (hw : ∀ d ∈ tables_1, d.before a0 Z = true) (a : Addr) (o : Addr) (h0 : Heap) (n0 : Nat) (cn : Addr) (wv : Value) (B_a : BR Z h0 a cn wv) (g_a : n0 ≤ a) (F_o : Fld Z h0 o "com/example/notation_search/notationsearch/math/Row" "first" "Lcom/example/notation_search/notationsearch/math/Symbol;" .null) :
    OMet l Z (⟨"com/example/notation_search/notationsearch/math/Row", "append", "(Lcom/example/notation_search/notationsearch/math/Row;)V"⟩ : MethodName) prog_33_method_6_code 2 none (⟨0, 0, 0, 0⟩ : Room) #[(.ref a), (.ref o)] h0 (fun v h L => v = none ∧ Fr n0 L ∧ Keep h0 h [a] ∧ BR Z h a cn wv) := by
  refine own_enter own_pn21 ?_
  intro p e s m below meth c T0 X0 hC e0
  obtain ⟨hx, hZ, hby, hml, hown, hret, hlk, hnm⟩ := hC
  have hown : s.vm.findClass "com/example/notation_search/notationsearch/math/Row" = some m.cls := hown
  refine own_at (own_ef21_RR m a o) ?_
  show OFin p e below s _ _ _ (T0.setTop (mkF m 0 #[.val (.ref a), .val (.ref o)] []))
  have N0 := Fr.nil n0
  have kp0 := Keep.refl h0 [a]
  obtain ⟨u91, u92, u93, u94, u95, u96, u97⟩ := B_a
  refine own_st (fun _ kS => XS.aloadN X0.here hx rfl (hb hby own_d21_0) rfl rfl kS) ?_
  show OFin p e below s _ _ _ (T0.setTop (mkF m 1 #[.val (.ref a), .val (.ref o)] [(.ref o)]))
  obtain ⟨T98, X98, e98, st98⟩ := getF X0 hx hZ hown (host := "") (Or.inl (own_w hw 160 rfl)) Via.refl e0 F_o (g := (mkF m 1 #[.val (.ref a), .val (.ref o)] [(.ref o)])) rfl rfl (hb hby own_d21_1)
  refine own_st (st98) ?_
  clear st98 X0 e0
  show OFin p e below s _ _ _ (T98.setTop (mkF m 4 #[.val (.ref a), .val (.ref o)] [.null]))
  refine own_st (fun _ kS => XS.ifnonnullNo X98.here hx rfl (hb hby own_d21_4) rfl kS) ?_
  show OFin p e below s _ _ _ (T98.setTop (mkF m 7 #[.val (.ref a), .val (.ref o)] []))
  refine own_st (fun _ kS => XS.aloadN X98.here hx rfl (hb hby own_d21_7) rfl rfl kS) ?_
  show OFin p e below s _ _ _ (T98.setTop (mkF m 8 #[.val (.ref a), .val (.ref o)] [(.ref a)]))
  refine own_st (fun _ kS => XS.aconstNull X98.here hx rfl (hb hby own_d21_8) kS) ?_
  show OFin p e below s _ _ _ (T98.setTop (mkF m 9 #[.val (.ref a), .val (.ref o)] [.null, (.ref a)]))
  obtain ⟨T99, h99, X99, e99, W99, st99⟩ := putF X98 hx hZ hown (host := "") (Or.inl (own_w hw 162 rfl)) Via.refl e98 u95 u91 (Or.inl (own_w hw 163 rfl)) (own_w hw 10 rfl) (ty := (.object "com/example/notation_search/notationsearch/math/Symbol")) (by decide) rfl rfl (g := (mkF m 9 #[.val (.ref a), .val (.ref o)] [.null, (.ref a)])) rfl rfl (hb hby own_d21_9)
  have f100 := u95.same W99
  have f101 := u91.wr W99
  clear u91
  have f102 := u92.other W99 (Or.inr (slot_ne (Or.inr (own_w hw 17 rfl)) (Or.inl (own_w hw 163 rfl)) (by decide) (t := (.object "com/example/notation_search/notationsearch/math/SymbolCount")) (t' := (.object "com/example/notation_search/notationsearch/math/Symbol")) (by decide) (by decide)))
  clear u92
  have f103 := u93.other W99 (Or.inr (slot_ne (Or.inl (own_w hw 161 rfl)) (Or.inl (own_w hw 163 rfl)) (by decide) (t := (.object "com/example/notation_search/notationsearch/math/Symbol")) (t' := (.object "com/example/notation_search/notationsearch/math/Symbol")) (by decide) (by decide)))
  clear u93
  have f104 := u94.other W99 (Or.inr (slot_ne (Or.inl (own_w hw 217 rfl)) (Or.inl (own_w hw 163 rfl)) (by decide) (t := (.object "com/example/notation_search/notationsearch/math/Symbol")) (t' := (.object "com/example/notation_search/notationsearch/math/Symbol")) (by decide) (by decide)))
  clear u94
  have f106 := u96.other W99 (Or.inr (slot_ne (Or.inl (own_w hw 68 rfl)) (Or.inl (own_w hw 163 rfl)) (by decide) (t := (.object "java/util/List")) (t' := (.object "com/example/notation_search/notationsearch/math/Symbol")) (by decide) (by decide)))
  clear u96
  have f107 := u97.other W99 (Or.inr (slot_ne (Or.inl (own_w hw 35 rfl)) (Or.inl (own_w hw 163 rfl)) (by decide) (t := (.object "java/util/List")) (t' := (.object "com/example/notation_search/notationsearch/math/Symbol")) (by decide) (by decide)))
  clear u97
  have fr99 := Fr.snoc X99 N0 g_a
  clear N0
  have kp99 := kp0.wr W99 (Or.inl (List.mem_of_getElem? (i := 0) rfl))
  clear kp0
  refine own_st (st99) ?_
  clear st99 X98 e98 W99 u95
  show OFin p e below s _ _ _ (T99.setTop (mkF m 12 #[.val (.ref a), .val (.ref o)] []))
  exact own_retV X99 hx hret hlk (hb hby own_d21_12) (by decide) (by decide) (by show _ ∧ _ ∧ Keep h0 T99.heap _ ∧ _; rw [e99]; exact ⟨rfl, fr99, kp99, ⟨f101, f102, f103, f104, f100, f106, f107⟩⟩)
set_option maxRecDepth 65536 in
set_option maxHeartbeats 40000000 in
theorem rmSc (l : Launch) (Z : State) (a0 : Array Value) (hw : ∀ d ∈ tables_1, d.before a0 Z = true) (sc : Addr) (r : Addr) (g : Addr) (h0 : Heap) (n0 : Nat) (E_s : Exa Z h0 sc "com/example/notation_search/notationsearch/math/Row$Script") (F_r : Fld Z h0 sc "com/example/notation_search/notationsearch/math/Row$Script" "relation" "Lcom/example/notation_search/notationsearch/math/Relation;" .null) (F_g : Fld Z h0 sc "com/example/notation_search/notationsearch/math/Row$Script" "region" "Lcom/example/notation_search/notationsearch/math/Row;" .null) (F_b : Fld Z h0 sc "com/example/notation_search/notationsearch/math/Row$Script" "before" "Lcom/example/notation_search/notationsearch/math/Symbol;" .null) (g_sc : n0 ≤ sc) :
    OMet l Z (⟨"com/example/notation_search/notationsearch/math/Row$Script", "<init>", "(Lcom/example/notation_search/notationsearch/math/Relation;Lcom/example/notation_search/notationsearch/math/Row;Lcom/example/notation_search/notationsearch/math/Symbol;)V"⟩ : MethodName) prog_34_method_1_code 4 none (⟨2, 0, 0, 24⟩ : Room) #[(.ref sc), (.ref r), (.ref g), .null] h0 (fun v h L => v = none ∧ Fr n0 L ∧ Keep h0 h [sc] ∧ BS Z h sc r g) := by
  refine own_enter own_pn14 ?_
  intro p e s m below meth c T0 X0 hC e0
  obtain ⟨hx, hZ, hby, hml, hown, hret, hlk, hnm⟩ := hC
  have hown : s.vm.findClass "com/example/notation_search/notationsearch/math/Row$Script" = some m.cls := hown
  refine own_at (own_ef14_RRRN m sc r g) ?_
  show OFin p e below s _ _ _ (T0.setTop (mkF m 0 #[.val (.ref sc), .val (.ref r), .val (.ref g), .val .null] []))
  have N0 := Fr.nil n0
  have kp0 := Keep.refl h0 [sc]
  refine own_st (fun _ kS => XS.aloadN X0.here hx rfl (hb hby own_d14_0) rfl rfl kS) ?_
  show OFin p e below s _ _ _ (T0.setTop (mkF m 1 #[.val (.ref sc), .val (.ref r), .val (.ref g), .val .null] [(.ref sc)]))
  obtain ⟨v108, T108, L108, X108, hQ108, st108⟩ := own_init X0 hx hZ (y := (⟨"java/lang/Record", "<init>", "()V"⟩ : MethodName)) (rm := ⟨1, 0, 0, 12⟩) (W := 0) (a := sc) (argsL := []) (rest := []) rfl hown (own_w hw 108 rfl) (own_w hw 109 rfl) (own_w hw 111 rfl) (own_w hw 112 rfl) (rmRec l Z a0 hw sc h0) e0 (g := (mkF m 1 #[.val (.ref sc), .val (.ref r), .val (.ref g), .val .null] [(.ref sc)])) rfl (by rw [hml]; rfl) (lenOf own_pd0 rfl) rfl (by show 2 * 0 + _ ≤ _; exact Nat.le_of_eq rfl) (hb hby own_d14_1) (by decide) (by decide) (by decide) (by decide)
  obtain ⟨rfl, e108, rfl⟩ := hQ108
  rw [List.append_nil] at X108
  refine own_st (st108) ?_
  clear st108 X0 e0
  show OFin p e below s _ _ _ (T108.setTop (mkF m 4 #[.val (.ref sc), .val (.ref r), .val (.ref g), .val .null] []))
  refine own_st (fun _ kS => XS.aloadN X108.here hx rfl (hb hby own_d14_4) rfl rfl kS) ?_
  show OFin p e below s _ _ _ (T108.setTop (mkF m 5 #[.val (.ref sc), .val (.ref r), .val (.ref g), .val .null] [(.ref sc)]))
  refine own_st (fun _ kS => XS.aloadN X108.here hx rfl (hb hby own_d14_5) rfl rfl kS) ?_
  show OFin p e below s _ _ _ (T108.setTop (mkF m 6 #[.val (.ref sc), .val (.ref r), .val (.ref g), .val .null] [(.ref r), (.ref sc)]))
  obtain ⟨T109, h109, X109, e109, W109, st109⟩ := putF X108 hx hZ hown (host := "") (Or.inl (own_w hw 114 rfl)) Via.refl e108 F_r E_s (Or.inr ⟨(own_w hw 115 rfl), rfl, hnm⟩) (own_w hw 103 rfl) (ty := (.object "com/example/notation_search/notationsearch/math/Relation")) (by decide) rfl rfl (g := (mkF m 6 #[.val (.ref sc), .val (.ref r), .val (.ref g), .val .null] [(.ref r), (.ref sc)])) rfl rfl (hb hby own_d14_6)
  have f110 := F_r.same W109
  have f111 := E_s.wr W109
  have f113 := F_g.other W109 (Or.inr (slot_ne (Or.inr (own_w hw 117 rfl)) (Or.inr (own_w hw 115 rfl)) (by decide) (t := (.object "com/example/notation_search/notationsearch/math/Row")) (t' := (.object "com/example/notation_search/notationsearch/math/Relation")) (by decide) (by decide)))
  have f114 := F_b.other W109 (Or.inr (slot_ne (Or.inr (own_w hw 119 rfl)) (Or.inr (own_w hw 115 rfl)) (by decide) (t := (.object "com/example/notation_search/notationsearch/math/Symbol")) (t' := (.object "com/example/notation_search/notationsearch/math/Relation")) (by decide) (by decide)))
  have fr109 := Fr.snoc X109 N0 g_sc
  clear N0
  have kp109 := kp0.wr W109 (Or.inl (List.mem_of_getElem? (i := 0) rfl))
  clear kp0
  refine own_st (st109) ?_
  clear st109 X108 e108 W109
  show OFin p e below s _ _ _ (T109.setTop (mkF m 9 #[.val (.ref sc), .val (.ref r), .val (.ref g), .val .null] []))
  refine own_st (fun _ kS => XS.aloadN X109.here hx rfl (hb hby own_d14_9) rfl rfl kS) ?_
  show OFin p e below s _ _ _ (T109.setTop (mkF m 10 #[.val (.ref sc), .val (.ref r), .val (.ref g), .val .null] [(.ref sc)]))
  refine own_st (fun _ kS => XS.aloadN X109.here hx rfl (hb hby own_d14_10) rfl rfl kS) ?_
  show OFin p e below s _ _ _ (T109.setTop (mkF m 11 #[.val (.ref sc), .val (.ref r), .val (.ref g), .val .null] [(.ref g), (.ref sc)]))
  obtain ⟨T115, h115, X115, e115, W115, st115⟩ := putF X109 hx hZ hown (host := "") (Or.inl (own_w hw 116 rfl)) Via.refl e109 f113 f111 (Or.inr ⟨(own_w hw 117 rfl), rfl, hnm⟩) (own_w hw 103 rfl) (ty := (.object "com/example/notation_search/notationsearch/math/Row")) (by decide) rfl rfl (g := (mkF m 11 #[.val (.ref sc), .val (.ref r), .val (.ref g), .val .null] [(.ref g), (.ref sc)])) rfl rfl (hb hby own_d14_11)
  have f116 := f113.same W115
  have f117 := f111.wr W115
  clear f111
  have f118 := f110.other W115 (Or.inr (slot_ne (Or.inr (own_w hw 115 rfl)) (Or.inr (own_w hw 117 rfl)) (by decide) (t := (.object "com/example/notation_search/notationsearch/math/Relation")) (t' := (.object "com/example/notation_search/notationsearch/math/Row")) (by decide) (by decide)))
  clear f110
  have f120 := f114.other W115 (Or.inr (slot_ne (Or.inr (own_w hw 119 rfl)) (Or.inr (own_w hw 117 rfl)) (by decide) (t := (.object "com/example/notation_search/notationsearch/math/Symbol")) (t' := (.object "com/example/notation_search/notationsearch/math/Row")) (by decide) (by decide)))
  clear f114
  have fr115 := Fr.snoc X115 fr109 g_sc
  clear fr109
  have kp115 := kp109.wr W115 (Or.inl (List.mem_of_getElem? (i := 0) rfl))
  clear kp109
  refine own_st (st115) ?_
  clear st115 X109 e109 W115 f113
  show OFin p e below s _ _ _ (T115.setTop (mkF m 14 #[.val (.ref sc), .val (.ref r), .val (.ref g), .val .null] []))
  refine own_st (fun _ kS => XS.aloadN X115.here hx rfl (hb hby own_d14_14) rfl rfl kS) ?_
  show OFin p e below s _ _ _ (T115.setTop (mkF m 15 #[.val (.ref sc), .val (.ref r), .val (.ref g), .val .null] [(.ref sc)]))
  refine own_st (fun _ kS => XS.aloadN X115.here hx rfl (hb hby own_d14_15) rfl rfl kS) ?_
  show OFin p e below s _ _ _ (T115.setTop (mkF m 16 #[.val (.ref sc), .val (.ref r), .val (.ref g), .val .null] [.null, (.ref sc)]))
  obtain ⟨T121, h121, X121, e121, W121, st121⟩ := putF X115 hx hZ hown (host := "") (Or.inl (own_w hw 118 rfl)) Via.refl e115 f120 f117 (Or.inr ⟨(own_w hw 119 rfl), rfl, hnm⟩) (own_w hw 103 rfl) (ty := (.object "com/example/notation_search/notationsearch/math/Symbol")) (by decide) rfl rfl (g := (mkF m 16 #[.val (.ref sc), .val (.ref r), .val (.ref g), .val .null] [.null, (.ref sc)])) rfl rfl (hb hby own_d14_16)
  have f122 := f120.same W121
  have f123 := f117.wr W121
  clear f117
  have f124 := f118.other W121 (Or.inr (slot_ne (Or.inr (own_w hw 115 rfl)) (Or.inr (own_w hw 119 rfl)) (by decide) (t := (.object "com/example/notation_search/notationsearch/math/Relation")) (t' := (.object "com/example/notation_search/notationsearch/math/Symbol")) (by decide) (by decide)))
  clear f118
  have f125 := f116.other W121 (Or.inr (slot_ne (Or.inr (own_w hw 117 rfl)) (Or.inr (own_w hw 119 rfl)) (by decide) (t := (.object "com/example/notation_search/notationsearch/math/Row")) (t' := (.object "com/example/notation_search/notationsearch/math/Symbol")) (by decide) (by decide)))
  clear f116
  have fr121 := Fr.snoc X121 fr115 g_sc
  clear fr115
  have kp121 := kp115.wr W121 (Or.inl (List.mem_of_getElem? (i := 0) rfl))
  clear kp115
  refine own_st (st121) ?_
  clear st121 X115 e115 W121 f120
  show OFin p e below s _ _ _ (T121.setTop (mkF m 19 #[.val (.ref sc), .val (.ref r), .val (.ref g), .val .null] []))
  exact own_retV X121 hx hret hlk (hb hby own_d14_19) (by decide) (by decide) (by show _ ∧ _ ∧ Keep h0 T121.heap _ ∧ _; rw [e121]; exact ⟨rfl, fr121, kp121, ⟨f123, f124, f125, f122⟩⟩)
set_option maxRecDepth 65536 in
set_option maxHeartbeats 40000000 in
theorem rmGr (l : Launch) (Z : State) (a0 : Array Value) (hw : ∀ d ∈ tables_1, d.before a0 Z = true) (sc : Addr) (h0 : Heap) (r g : Addr) (B_s : BS Z h0 sc r g) :
    OMet l Z (⟨"com/example/notation_search/notationsearch/math/Row$Script", "relation", "()Lcom/example/notation_search/notationsearch/math/Relation;"⟩ : MethodName) prog_34_method_5_code 1 (some (.object "com/example/notation_search/notationsearch/math/Relation")) (⟨0, 0, 0, 0⟩ : Room) #[(.ref sc)] h0 (fun v h L => v = some (.ref r) ∧ h = h0 ∧ L = []) := by
  refine own_enter own_pn28 ?_
  intro p e s m below meth c T0 X0 hC e0
  obtain ⟨hx, hZ, hby, hml, hown, hret, hlk, hnm⟩ := hC
  have hown : s.vm.findClass "com/example/notation_search/notationsearch/math/Row$Script" = some m.cls := hown
  refine own_at (own_ef28_R m sc) ?_
  show OFin p e below s _ _ _ (T0.setTop (mkF m 0 #[.val (.ref sc)] []))
  obtain ⟨u127, u128, u129, u130⟩ := B_s
  refine own_st (fun _ kS => XS.aloadN X0.here hx rfl (hb hby own_d28_0) rfl rfl kS) ?_
  show OFin p e below s _ _ _ (T0.setTop (mkF m 1 #[.val (.ref sc)] [(.ref sc)]))
  obtain ⟨T131, X131, e131, st131⟩ := getF X0 hx hZ hown (host := "") (Or.inl (own_w hw 114 rfl)) Via.refl e0 u128 (g := (mkF m 1 #[.val (.ref sc)] [(.ref sc)])) rfl rfl (hb hby own_d28_1)
  refine own_st (st131) ?_
  clear st131 X0 e0
  show OFin p e below s _ _ _ (T131.setTop (mkF m 4 #[.val (.ref sc)] [(.ref r)]))
  exact own_ret X131 hx (t := (.object "com/example/notation_search/notationsearch/math/Relation")) hret hlk rfl (Or.inr (Or.inr (Or.inr (Or.inr ⟨rfl, rfl, rfl⟩)))) (hb hby own_d28_4) (by decide) (by decide) ⟨rfl, e131, rfl⟩
set_option maxRecDepth 65536 in
set_option maxHeartbeats 40000000 in
theorem rmGg (l : Launch) (Z : State) (a0 : Array Value) (hw : ∀ d ∈ tables_1, d.before a0 Z = true) (sc : Addr) (h0 : Heap) (r g : Addr) (B_s : BS Z h0 sc r g) :
    OMet l Z (⟨"com/example/notation_search/notationsearch/math/Row$Script", "region", "()Lcom/example/notation_search/notationsearch/math/Row;"⟩ : MethodName) prog_34_method_6_code 1 (some (.object "com/example/notation_search/notationsearch/math/Row")) (⟨0, 0, 0, 0⟩ : Room) #[(.ref sc)] h0 (fun v h L => v = some (.ref g) ∧ h = h0 ∧ L = []) := by
  refine own_enter own_pn29 ?_
  intro p e s m below meth c T0 X0 hC e0
  obtain ⟨hx, hZ, hby, hml, hown, hret, hlk, hnm⟩ := hC
  have hown : s.vm.findClass "com/example/notation_search/notationsearch/math/Row$Script" = some m.cls := hown
  refine own_at (own_ef29_R m sc) ?_
  show OFin p e below s _ _ _ (T0.setTop (mkF m 0 #[.val (.ref sc)] []))
  obtain ⟨u132, u133, u134, u135⟩ := B_s
  refine own_st (fun _ kS => XS.aloadN X0.here hx rfl (hb hby own_d29_0) rfl rfl kS) ?_
  show OFin p e below s _ _ _ (T0.setTop (mkF m 1 #[.val (.ref sc)] [(.ref sc)]))
  obtain ⟨T136, X136, e136, st136⟩ := getF X0 hx hZ hown (host := "") (Or.inl (own_w hw 116 rfl)) Via.refl e0 u134 (g := (mkF m 1 #[.val (.ref sc)] [(.ref sc)])) rfl rfl (hb hby own_d29_1)
  refine own_st (st136) ?_
  clear st136 X0 e0
  show OFin p e below s _ _ _ (T136.setTop (mkF m 4 #[.val (.ref sc)] [(.ref g)]))
  exact own_ret X136 hx (t := (.object "com/example/notation_search/notationsearch/math/Row")) hret hlk rfl (Or.inr (Or.inr (Or.inr (Or.inr ⟨rfl, rfl, rfl⟩)))) (hb hby own_d29_4) (by decide) (by decide) ⟨rfl, e136, rfl⟩
set_option maxRecDepth 65536 in
set_option maxHeartbeats 40000000 in
theorem rmGb (l : Launch) (Z : State) (a0 : Array Value) (hw : ∀ d ∈ tables_1, d.before a0 Z = true) (sc : Addr) (h0 : Heap) (r g : Addr) (B_s : BS Z h0 sc r g) :
    OMet l Z (⟨"com/example/notation_search/notationsearch/math/Row$Script", "before", "()Lcom/example/notation_search/notationsearch/math/Symbol;"⟩ : MethodName) prog_34_method_7_code 1 (some (.object "com/example/notation_search/notationsearch/math/Symbol")) (⟨0, 0, 0, 0⟩ : Room) #[(.ref sc)] h0 (fun v h L => v = some .null ∧ h = h0 ∧ L = []) := by
  refine own_enter own_pn30 ?_
  intro p e s m below meth c T0 X0 hC e0
  obtain ⟨hx, hZ, hby, hml, hown, hret, hlk, hnm⟩ := hC
  have hown : s.vm.findClass "com/example/notation_search/notationsearch/math/Row$Script" = some m.cls := hown
  refine own_at (own_ef30_R m sc) ?_
  show OFin p e below s _ _ _ (T0.setTop (mkF m 0 #[.val (.ref sc)] []))
  obtain ⟨u137, u138, u139, u140⟩ := B_s
  refine own_st (fun _ kS => XS.aloadN X0.here hx rfl (hb hby own_d30_0) rfl rfl kS) ?_
  show OFin p e below s _ _ _ (T0.setTop (mkF m 1 #[.val (.ref sc)] [(.ref sc)]))
  obtain ⟨T141, X141, e141, st141⟩ := getF X0 hx hZ hown (host := "") (Or.inl (own_w hw 118 rfl)) Via.refl e0 u140 (g := (mkF m 1 #[.val (.ref sc)] [(.ref sc)])) rfl rfl (hb hby own_d30_1)
  refine own_st (st141) ?_
  clear st141 X0 e0
  show OFin p e below s _ _ _ (T141.setTop (mkF m 4 #[.val (.ref sc)] [.null]))
  exact own_ret X141 hx (t := (.object "com/example/notation_search/notationsearch/math/Symbol")) hret hlk rfl (Or.inr (Or.inr (Or.inr (Or.inr ⟨rfl, rfl, rfl⟩)))) (hb hby own_d30_4) (by decide) (by decide) ⟨rfl, e141, rfl⟩
set_option maxRecDepth 65536 in
set_option maxHeartbeats 40000000 in
theorem rmSame (l : Launch) (Z : State) (a0 : Array Value) (hw : ∀ d ∈ tables_1, d.before a0 Z = true) (sc : Addr) (r : Addr) (g : Addr) (h0 : Heap) (B_s : BS Z h0 sc r g) :
    OMet l Z (⟨"com/example/notation_search/notationsearch/math/RowReleasePinLaw", "same", "(Lcom/example/notation_search/notationsearch/math/Row$Script;Lcom/example/notation_search/notationsearch/math/Relation;Lcom/example/notation_search/notationsearch/math/Row;)Z"⟩ : MethodName) method_3_code 3 (some .boolean) (⟨1, 0, 0, 12⟩ : Room) #[(.ref sc), (.ref r), (.ref g)] h0 (fun v h L => v = some (.int (1 : Int32)) ∧ h = h0 ∧ L = []) := by
  refine own_enter own_pn27 ?_
  intro p e s m below meth c T0 X0 hC e0
  obtain ⟨hx, hZ, hby, hml, hown, hret, hlk, hnm⟩ := hC
  have hown : s.vm.findClass "com/example/notation_search/notationsearch/math/RowReleasePinLaw" = some m.cls := hown
  refine own_at (own_ef27_RRR m sc r g) ?_
  show OFin p e below s _ _ _ (T0.setTop (mkF m 0 #[.val (.ref sc), .val (.ref r), .val (.ref g)] []))
  have E_s := B_s.1
  refine own_st (fun _ kS => XS.aloadN X0.here hx rfl (hb hby own_d27_0) rfl rfl kS) ?_
  show OFin p e below s _ _ _ (T0.setTop (mkF m 1 #[.val (.ref sc), .val (.ref r), .val (.ref g)] [(.ref sc)]))
  obtain ⟨v142, T142, L142, X142, hQ142, st142⟩ := own_virtual X0 hx hZ (y := (⟨"com/example/notation_search/notationsearch/math/Row$Script", "relation", "()Lcom/example/notation_search/notationsearch/math/Relation;"⟩ : MethodName)) (z := (⟨"com/example/notation_search/notationsearch/math/Row$Script", "relation", "()Lcom/example/notation_search/notationsearch/math/Relation;"⟩ : MethodName)) (rm := ⟨0, 0, 0, 0⟩) (W := 0) (a := sc) (argsL := []) (rest := []) hown (own_w hw 195 rfl) (own_w hw 196 rfl) (notFace_of_selects (args := #[]) (mvT hZ (own_w hw 198 rfl))) (own_w hw 198 rfl) (own_w hw 197 rfl) (own_w hw 104 rfl) (own_w hw 199 rfl) (rmGr l Z a0 hw sc h0 r g B_s) e0 E_s (g := (mkF m 1 #[.val (.ref sc), .val (.ref r), .val (.ref g)] [(.ref sc)])) rfl (by rw [hml]; rfl) (lenOf own_pd2 rfl) rfl (by show 2 * 0 + _ ≤ _; exact Nat.le_of_eq rfl) (hb hby own_d27_1) (by decide) (by decide) (by decide) (by decide)
  obtain ⟨rfl, e142, rfl⟩ := hQ142
  rw [List.append_nil] at X142
  refine own_st (st142) ?_
  clear st142 X0 e0
  show OFin p e below s _ _ _ (T142.setTop (mkF m 4 #[.val (.ref sc), .val (.ref r), .val (.ref g)] [(.ref r)]))
  refine own_st (fun _ kS => XS.aloadN X142.here hx rfl (hb hby own_d27_4) rfl rfl kS) ?_
  show OFin p e below s _ _ _ (T142.setTop (mkF m 5 #[.val (.ref sc), .val (.ref r), .val (.ref g)] [(.ref r), (.ref r)]))
  refine own_st (fun _ kS => Jvm.RoadKit.acmp (g := (mkF m 5 #[.val (.ref sc), .val (.ref r), .val (.ref g)] [(.ref r), (.ref r)])) X142 hx rfl rfl rfl (pc0 := 5) (pc' := 8) (same := true) rfl (hb hby own_d27_5) rfl (decide_eq_true rfl) (by decide) (by decide) kS) ?_
  show OFin p e below s _ _ _ (T142.setTop (mkF m 8 #[.val (.ref sc), .val (.ref r), .val (.ref g)] []))
  refine own_st (fun _ kS => XS.aloadN X142.here hx rfl (hb hby own_d27_8) rfl rfl kS) ?_
  show OFin p e below s _ _ _ (T142.setTop (mkF m 9 #[.val (.ref sc), .val (.ref r), .val (.ref g)] [(.ref sc)]))
  obtain ⟨v143, T143, L143, X143, hQ143, st143⟩ := own_virtual X142 hx hZ (y := (⟨"com/example/notation_search/notationsearch/math/Row$Script", "region", "()Lcom/example/notation_search/notationsearch/math/Row;"⟩ : MethodName)) (z := (⟨"com/example/notation_search/notationsearch/math/Row$Script", "region", "()Lcom/example/notation_search/notationsearch/math/Row;"⟩ : MethodName)) (rm := ⟨0, 0, 0, 0⟩) (W := 0) (a := sc) (argsL := []) (rest := []) hown (own_w hw 200 rfl) (own_w hw 201 rfl) (notFace_of_selects (args := #[]) (mvT hZ (own_w hw 203 rfl))) (own_w hw 203 rfl) (own_w hw 202 rfl) (own_w hw 104 rfl) (own_w hw 204 rfl) (rmGg l Z a0 hw sc h0 r g B_s) e142 E_s (g := (mkF m 9 #[.val (.ref sc), .val (.ref r), .val (.ref g)] [(.ref sc)])) rfl (by rw [hml]; rfl) (lenOf own_pd3 rfl) rfl (by show 2 * 0 + _ ≤ _; exact Nat.le_of_eq rfl) (hb hby own_d27_9) (by decide) (by decide) (by decide) (by decide)
  obtain ⟨rfl, e143, rfl⟩ := hQ143
  rw [List.append_nil] at X143
  refine own_st (st143) ?_
  clear st143 X142 e142
  show OFin p e below s _ _ _ (T143.setTop (mkF m 12 #[.val (.ref sc), .val (.ref r), .val (.ref g)] [(.ref g)]))
  refine own_st (fun _ kS => XS.aloadN X143.here hx rfl (hb hby own_d27_12) rfl rfl kS) ?_
  show OFin p e below s _ _ _ (T143.setTop (mkF m 13 #[.val (.ref sc), .val (.ref r), .val (.ref g)] [(.ref g), (.ref g)]))
  refine own_st (fun _ kS => Jvm.RoadKit.acmp (g := (mkF m 13 #[.val (.ref sc), .val (.ref r), .val (.ref g)] [(.ref g), (.ref g)])) X143 hx rfl rfl rfl (pc0 := 13) (pc' := 16) (same := true) rfl (hb hby own_d27_13) rfl (decide_eq_true rfl) (by decide) (by decide) kS) ?_
  show OFin p e below s _ _ _ (T143.setTop (mkF m 16 #[.val (.ref sc), .val (.ref r), .val (.ref g)] []))
  refine own_st (fun _ kS => XS.aloadN X143.here hx rfl (hb hby own_d27_16) rfl rfl kS) ?_
  show OFin p e below s _ _ _ (T143.setTop (mkF m 17 #[.val (.ref sc), .val (.ref r), .val (.ref g)] [(.ref sc)]))
  obtain ⟨v144, T144, L144, X144, hQ144, st144⟩ := own_virtual X143 hx hZ (y := (⟨"com/example/notation_search/notationsearch/math/Row$Script", "before", "()Lcom/example/notation_search/notationsearch/math/Symbol;"⟩ : MethodName)) (z := (⟨"com/example/notation_search/notationsearch/math/Row$Script", "before", "()Lcom/example/notation_search/notationsearch/math/Symbol;"⟩ : MethodName)) (rm := ⟨0, 0, 0, 0⟩) (W := 0) (a := sc) (argsL := []) (rest := []) hown (own_w hw 205 rfl) (own_w hw 206 rfl) (notFace_of_selects (args := #[]) (mvT hZ (own_w hw 208 rfl))) (own_w hw 208 rfl) (own_w hw 207 rfl) (own_w hw 104 rfl) (own_w hw 209 rfl) (rmGb l Z a0 hw sc h0 r g B_s) e143 E_s (g := (mkF m 17 #[.val (.ref sc), .val (.ref r), .val (.ref g)] [(.ref sc)])) rfl (by rw [hml]; rfl) (lenOf own_pd4 rfl) rfl (by show 2 * 0 + _ ≤ _; exact Nat.le_of_eq rfl) (hb hby own_d27_17) (by decide) (by decide) (by decide) (by decide)
  obtain ⟨rfl, e144, rfl⟩ := hQ144
  rw [List.append_nil] at X144
  refine own_st (st144) ?_
  clear st144 X143 e143
  show OFin p e below s _ _ _ (T144.setTop (mkF m 20 #[.val (.ref sc), .val (.ref r), .val (.ref g)] [.null]))
  refine own_st (fun _ kS => XS.ifnonnullNo X144.here hx rfl (hb hby own_d27_20) rfl kS) ?_
  show OFin p e below s _ _ _ (T144.setTop (mkF m 23 #[.val (.ref sc), .val (.ref r), .val (.ref g)] []))
  refine own_st (fun _ kS => XS.iconst X144.here hx rfl (hb hby own_d27_23) kS) ?_
  show OFin p e below s _ _ _ (T144.setTop (mkF m 24 #[.val (.ref sc), .val (.ref r), .val (.ref g)] [(.int (1 : Int32))]))
  refine own_st (fun _ kS => XS.goto X144.here hx rfl (pc0 := 24) (pc' := 28) rfl (hb hby own_d27_24) (by decide) (by decide) kS) ?_
  show OFin p e below s _ _ _ (T144.setTop (mkF m 28 #[.val (.ref sc), .val (.ref r), .val (.ref g)] [(.int (1 : Int32))]))
  exact own_ret X144 hx (t := .boolean) hret hlk rfl (Or.inl ⟨rfl, by simp, _, rfl⟩) (hb hby own_d27_28) (by decide) (by decide) ⟨rfl, e144, rfl⟩
set_option maxRecDepth 65536 in
set_option maxHeartbeats 40000000 in
theorem rmMax (l : Launch) (Z : State) (a0 : Array Value) (hw : ∀ d ∈ tables_1, d.before a0 Z = true) (q1 : Int32) (q2 : Int32) (h0 : Heap) (hq : ¬ q1 < q2) :
    OMet l Z (⟨"java/lang/Math", "max", "(II)I"⟩ : MethodName) jdk_29_method_65_code 2 (some .int) (⟨0, 0, 0, 0⟩ : Room) #[(.int q1), (.int q2)] h0 (fun v h L => v = some (.int q1) ∧ h = h0 ∧ L = []) := by
  refine own_enter own_pn20 ?_
  intro p e s m below meth c T0 X0 hC e0
  obtain ⟨hx, hZ, hby, hml, hown, hret, hlk, hnm⟩ := hC
  have hown : s.vm.findClass "java/lang/Math" = some m.cls := hown
  refine own_at (own_ef20_II m q1 q2) ?_
  show OFin p e below s _ _ _ (T0.setTop (mkF m 0 #[.val (.int q1), .val (.int q2)] []))
  refine own_st (fun _ kS => XS.iloadN X0.here hx rfl (hb hby own_d20_0) rfl kS) ?_
  show OFin p e below s _ _ _ (T0.setTop (mkF m 1 #[.val (.int q1), .val (.int q2)] [(.int q1)]))
  refine own_st (fun _ kS => XS.iloadN X0.here hx rfl (hb hby own_d20_1) rfl kS) ?_
  show OFin p e below s _ _ _ (T0.setTop (mkF m 2 #[.val (.int q1), .val (.int q2)] [(.int q2), (.int q1)]))
  refine own_st (fun _ kS => XS.icmpNo X0.here hx rfl (hb hby own_d20_2) rfl (flt hq).1 kS) ?_
  show OFin p e below s _ _ _ (T0.setTop (mkF m 5 #[.val (.int q1), .val (.int q2)] []))
  refine own_st (fun _ kS => XS.iloadN X0.here hx rfl (hb hby own_d20_5) rfl kS) ?_
  show OFin p e below s _ _ _ (T0.setTop (mkF m 6 #[.val (.int q1), .val (.int q2)] [(.int q1)]))
  refine own_st (fun _ kS => XS.goto X0.here hx rfl (pc0 := 6) (pc' := 10) rfl (hb hby own_d20_6) (by decide) (by decide) kS) ?_
  show OFin p e below s _ _ _ (T0.setTop (mkF m 10 #[.val (.int q1), .val (.int q2)] [(.int q1)]))
  exact own_ret X0 hx (t := .int) hret hlk rfl (Or.inl ⟨rfl, by simp, _, rfl⟩) (hb hby own_d20_10) (by decide) (by decide) ⟨rfl, e0, rfl⟩
set_option maxRecDepth 65536 in
set_option maxHeartbeats 40000000 in
theorem rmCP (l : Launch) (Z : State) (a0 : Array Value) (hw : ∀ d ∈ tables_1, d.before a0 Z = true) (q1 : Int32) (q2 : Int32) (h0 : Heap) (c1 : ¬ q1 < 0) (c2 : q1 < q2) :
    OMet l Z (⟨"jdk/internal/util/Preconditions", "checkIndex", "(IILjava/util/function/BiFunction;)I"⟩ : MethodName) jdk_41_method_11_code 3 (some .int) (⟨0, 0, 0, 0⟩ : Room) #[(.int q1), (.int q2), .null] h0 (fun v h L => v = some (.int q1) ∧ h = h0 ∧ L = []) := by
  refine own_enter own_pn25 ?_
  intro p e s m below meth c T0 X0 hC e0
  obtain ⟨hx, hZ, hby, hml, hown, hret, hlk, hnm⟩ := hC
  have hown : s.vm.findClass "jdk/internal/util/Preconditions" = some m.cls := hown
  refine own_at (own_ef25_IIN m q1 q2) ?_
  show OFin p e below s _ _ _ (T0.setTop (mkF m 0 #[.val (.int q1), .val (.int q2), .val .null] []))
  refine own_st (fun _ kS => XS.iloadN X0.here hx rfl (hb hby own_d25_0) rfl kS) ?_
  show OFin p e below s _ _ _ (T0.setTop (mkF m 1 #[.val (.int q1), .val (.int q2), .val .null] [(.int q1)]))
  refine own_st (fun _ kS => XS.ifNo X0.here hx rfl (hb hby own_d25_1) rfl ((if0 _ _).trans (flt c1).1) kS) ?_
  show OFin p e below s _ _ _ (T0.setTop (mkF m 4 #[.val (.int q1), .val (.int q2), .val .null] []))
  refine own_st (fun _ kS => XS.iloadN X0.here hx rfl (hb hby own_d25_4) rfl kS) ?_
  show OFin p e below s _ _ _ (T0.setTop (mkF m 5 #[.val (.int q1), .val (.int q2), .val .null] [(.int q1)]))
  refine own_st (fun _ kS => XS.iloadN X0.here hx rfl (hb hby own_d25_5) rfl kS) ?_
  show OFin p e below s _ _ _ (T0.setTop (mkF m 6 #[.val (.int q1), .val (.int q2), .val .null] [(.int q2), (.int q1)]))
  refine own_st (fun _ kS => XS.icmpYes X0.here hx rfl (pc0 := 6) (pc' := 16) rfl (hb hby own_d25_6) rfl (tlt c2).1 (by decide) (by decide) kS) ?_
  show OFin p e below s _ _ _ (T0.setTop (mkF m 16 #[.val (.int q1), .val (.int q2), .val .null] []))
  refine own_st (fun _ kS => XS.iloadN X0.here hx rfl (hb hby own_d25_16) rfl kS) ?_
  show OFin p e below s _ _ _ (T0.setTop (mkF m 17 #[.val (.int q1), .val (.int q2), .val .null] [(.int q1)]))
  exact own_ret X0 hx (t := .int) hret hlk rfl (Or.inl ⟨rfl, by simp, _, rfl⟩) (hb hby own_d25_17) (by decide) (by decide) ⟨rfl, e0, rfl⟩
set_option maxRecDepth 65536 in
set_option maxHeartbeats 40000000 in
theorem rmCO (l : Launch) (Z : State) (a0 : Array Value) (hw : ∀ d ∈ tables_1, d.before a0 Z = true) (q1 : Int32) (q2 : Int32) (h0 : Heap) (c1 : ¬ q1 < 0) (c2 : q1 < q2) :
    OMet l Z (⟨"java/util/Objects", "checkIndex", "(II)I"⟩ : MethodName) jdk_31_method_17_code 2 (some .int) (⟨1, 0, 0, 14⟩ : Room) #[(.int q1), (.int q2)] h0 (fun v h L => v = some (.int q1) ∧ h = h0 ∧ L = []) := by
  refine own_enter own_pn24 ?_
  intro p e s m below meth c T0 X0 hC e0
  obtain ⟨hx, hZ, hby, hml, hown, hret, hlk, hnm⟩ := hC
  have hown : s.vm.findClass "java/util/Objects" = some m.cls := hown
  refine own_at (own_ef24_II m q1 q2) ?_
  show OFin p e below s _ _ _ (T0.setTop (mkF m 0 #[.val (.int q1), .val (.int q2)] []))
  refine own_st (fun _ kS => XS.iloadN X0.here hx rfl (hb hby own_d24_0) rfl kS) ?_
  show OFin p e below s _ _ _ (T0.setTop (mkF m 1 #[.val (.int q1), .val (.int q2)] [(.int q1)]))
  refine own_st (fun _ kS => XS.iloadN X0.here hx rfl (hb hby own_d24_1) rfl kS) ?_
  show OFin p e below s _ _ _ (T0.setTop (mkF m 2 #[.val (.int q1), .val (.int q2)] [(.int q2), (.int q1)]))
  refine own_st (fun _ kS => XS.aconstNull X0.here hx rfl (hb hby own_d24_2) kS) ?_
  show OFin p e below s _ _ _ (T0.setTop (mkF m 3 #[.val (.int q1), .val (.int q2)] [.null, (.int q2), (.int q1)]))
  obtain ⟨v145, T145, L145, X145, hQ145, st145⟩ := own_static X0 hx hZ (y := (⟨"jdk/internal/util/Preconditions", "checkIndex", "(IILjava/util/function/BiFunction;)I"⟩ : MethodName)) (rm := ⟨0, 0, 0, 0⟩) (W := 0) (argsL := [(.int q1), (.int q2), .null]) (rest := []) hown (own_w hw 181 rfl) (own_w hw 182 rfl) (own_w hw 183 rfl) (own_w hw 184 rfl) (rmCP l Z a0 hw q1 q2 h0 c1 c2) e0 (g := (mkF m 3 #[.val (.int q1), .val (.int q2)] [.null, (.int q2), (.int q1)])) rfl (by rw [hml]; rfl) (lenOf own_pd5 rfl) rfl (by show 2 * 0 + _ ≤ _; exact Nat.le_of_eq rfl) (hb hby own_d24_3) (by decide) (by decide) (by decide) (by decide)
  obtain ⟨rfl, e145, rfl⟩ := hQ145
  rw [List.append_nil] at X145
  refine own_st (st145) ?_
  clear st145 X0 e0
  show OFin p e below s _ _ _ (T145.setTop (mkF m 6 #[.val (.int q1), .val (.int q2)] [(.int q1)]))
  exact own_ret X145 hx (t := .int) hret hlk rfl (Or.inl ⟨rfl, by simp, _, rfl⟩) (hb hby own_d24_6) (by decide) (by decide) ⟨rfl, e145, rfl⟩
set_option maxRecDepth 65536 in
set_option maxHeartbeats 40000000 in
theorem rmSz (l : Launch) (Z : State) (a0 : Array Value) (hw : ∀ d ∈ tables_1, d.before a0 Z = true) (b : Addr) (h0 : Heap) (n : Int32) (F_s : Fld Z h0 b "java/util/ArrayList" "size" "I" (.int n)) :
    OMet l Z (⟨"java/util/ArrayList", "size", "()I"⟩ : MethodName) jdk_38_method_8_code 1 (some .int) (⟨0, 0, 0, 0⟩ : Room) #[(.ref b)] h0 (fun v h L => v = some (.int n) ∧ h = h0 ∧ L = []) := by
  refine own_enter own_pn22 ?_
  intro p e s m below meth c T0 X0 hC e0
  obtain ⟨hx, hZ, hby, hml, hown, hret, hlk, hnm⟩ := hC
  have hown : s.vm.findClass "java/util/ArrayList" = some m.cls := hown
  refine own_at (own_ef22_R m b) ?_
  show OFin p e below s _ _ _ (T0.setTop (mkF m 0 #[.val (.ref b)] []))
  refine own_st (fun _ kS => XS.aloadN X0.here hx rfl (hb hby own_d22_0) rfl rfl kS) ?_
  show OFin p e below s _ _ _ (T0.setTop (mkF m 1 #[.val (.ref b)] [(.ref b)]))
  obtain ⟨T146, X146, e146, st146⟩ := getF X0 hx hZ hown (host := "") (Or.inl (own_w hw 131 rfl)) Via.refl e0 F_s (g := (mkF m 1 #[.val (.ref b)] [(.ref b)])) rfl rfl (hb hby own_d22_1)
  refine own_st (st146) ?_
  clear st146 X0 e0
  show OFin p e below s _ _ _ (T146.setTop (mkF m 4 #[.val (.ref b)] [(.int n)]))
  exact own_ret X146 hx (t := .int) hret hlk rfl (Or.inl ⟨rfl, by simp, _, rfl⟩) (hb hby own_d22_4) (by decide) (by decide) ⟨rfl, e146, rfl⟩
set_option maxRecDepth 65536 in
set_option maxHeartbeats 40000000 in
theorem rmED (l : Launch) (Z : State) (a0 : Array Value) (hw : ∀ d ∈ tables_1, d.before a0 Z = true) (b : Addr) (q : Int32) (h0 : Heap) (ar x : Addr) (mc n : Int32) (f : Nat → Value) (j : Nat) (B_b : BL Z h0 b ar mc n f) (c1 : ¬ q < 0) (hj : q.toNatClampNeg = j) (hi : j < 10) (hf : f j = .ref x) :
    OMet l Z (⟨"java/util/ArrayList", "elementData", "(I)Ljava/lang/Object;"⟩ : MethodName) jdk_38_method_18_code 2 (some (.object "java/lang/Object")) (⟨0, 0, 0, 0⟩ : Room) #[(.ref b), (.int q)] h0 (fun v h L => v = some (.ref x) ∧ h = h0 ∧ L = []) := by
  refine own_enter own_pn26 ?_
  intro p e s m below meth c T0 X0 hC e0
  obtain ⟨hx, hZ, hby, hml, hown, hret, hlk, hnm⟩ := hC
  have hown : s.vm.findClass "java/util/ArrayList" = some m.cls := hown
  refine own_at (own_ef26_RI m b q) ?_
  show OFin p e below s _ _ _ (T0.setTop (mkF m 0 #[.val (.ref b), .val (.int q)] []))
  obtain ⟨u147, u148, u149, u150, u151⟩ := B_b
  refine own_st (fun _ kS => XS.aloadN X0.here hx rfl (hb hby own_d26_0) rfl rfl kS) ?_
  show OFin p e below s _ _ _ (T0.setTop (mkF m 1 #[.val (.ref b), .val (.int q)] [(.ref b)]))
  obtain ⟨T152, X152, e152, st152⟩ := getF X0 hx hZ hown (host := "") (Or.inl (own_w hw 100 rfl)) Via.refl e0 u149 (g := (mkF m 1 #[.val (.ref b), .val (.int q)] [(.ref b)])) rfl rfl (hb hby own_d26_1)
  refine own_st (st152) ?_
  clear st152 X0 e0
  show OFin p e below s _ _ _ (T152.setTop (mkF m 4 #[.val (.ref b), .val (.int q)] [(.ref ar)]))
  refine own_st (fun _ kS => XS.iloadN X152.here hx rfl (hb hby own_d26_4) rfl kS) ?_
  show OFin p e below s _ _ _ (T152.setTop (mkF m 5 #[.val (.ref b), .val (.int q)] [(.int q), (.ref ar)]))
  obtain ⟨cl153, Ar153, S153, B153, H153, O153⟩ := id u151
  refine own_st (X152.aaload hx (j := q) (v := (.ref x)) (by rw [e152]; exact Ar153.1) (State.isArrayOf_alike hZ.alike Ar153.2.1) rfl Ar153.2.2 (own_inb S153 c1 hj hi) ((own_hv H153 hj hi).trans (congrArg some (hf))) (g := (mkF m 5 #[.val (.ref b), .val (.int q)] [(.int q), (.ref ar)])) rfl rfl (hb hby own_d26_5)) ?_
  clear Ar153 S153 B153 H153 O153
  show OFin p e below s _ _ _ (T152.setTop (mkF m 6 #[.val (.ref b), .val (.int q)] [(.ref x)]))
  exact own_ret X152 hx (t := (.object "java/lang/Object")) hret hlk rfl (Or.inr (Or.inr (Or.inr (Or.inr ⟨rfl, rfl, rfl⟩)))) (hb hby own_d26_6) (by decide) (by decide) ⟨rfl, e152, rfl⟩
set_option maxRecDepth 65536 in
set_option maxHeartbeats 40000000 in
theorem rmGet (l : Launch) (Z : State) (a0 : Array Value) (hw : ∀ d ∈ tables_1, d.before a0 Z = true) (b : Addr) (q : Int32) (h0 : Heap) (ar x : Addr) (mc n : Int32) (f : Nat → Value) (j : Nat) (B_b : BL Z h0 b ar mc n f) (c1 : ¬ q < 0) (c2 : q < n) (hj : q.toNatClampNeg = j) (hi : j < 10) (hf : f j = .ref x) :
    OMet l Z (⟨"java/util/ArrayList", "get", "(I)Ljava/lang/Object;"⟩ : MethodName) jdk_38_method_20_code 2 (some (.object "java/lang/Object")) (⟨2, 0, 0, 27⟩ : Room) #[(.ref b), (.int q)] h0 (fun v h L => v = some (.ref x) ∧ h = h0 ∧ L = []) := by
  refine own_enter own_pn23 ?_
  intro p e s m below meth c T0 X0 hC e0
  obtain ⟨hx, hZ, hby, hml, hown, hret, hlk, hnm⟩ := hC
  have hown : s.vm.findClass "java/util/ArrayList" = some m.cls := hown
  refine own_at (own_ef23_RI m b q) ?_
  show OFin p e below s _ _ _ (T0.setTop (mkF m 0 #[.val (.ref b), .val (.int q)] []))
  obtain ⟨u154, u155, u156, u157, u158⟩ := (id B_b)
  refine own_st (fun _ kS => XS.iloadN X0.here hx rfl (hb hby own_d23_0) rfl kS) ?_
  show OFin p e below s _ _ _ (T0.setTop (mkF m 1 #[.val (.ref b), .val (.int q)] [(.int q)]))
  refine own_st (fun _ kS => XS.aloadN X0.here hx rfl (hb hby own_d23_1) rfl rfl kS) ?_
  show OFin p e below s _ _ _ (T0.setTop (mkF m 2 #[.val (.ref b), .val (.int q)] [(.ref b), (.int q)]))
  obtain ⟨T159, X159, e159, st159⟩ := getF X0 hx hZ hown (host := "") (Or.inl (own_w hw 131 rfl)) Via.refl e0 u157 (g := (mkF m 2 #[.val (.ref b), .val (.int q)] [(.ref b), (.int q)])) rfl rfl (hb hby own_d23_2)
  refine own_st (st159) ?_
  clear st159 X0 e0
  show OFin p e below s _ _ _ (T159.setTop (mkF m 5 #[.val (.ref b), .val (.int q)] [(.int n), (.int q)]))
  obtain ⟨v160, T160, L160, X160, hQ160, st160⟩ := own_static X159 hx hZ (y := (⟨"java/util/Objects", "checkIndex", "(II)I"⟩ : MethodName)) (rm := ⟨1, 0, 0, 14⟩) (W := 0) (argsL := [(.int q), (.int n)]) (rest := []) hown (own_w hw 177 rfl) (own_w hw 178 rfl) (own_w hw 179 rfl) (own_w hw 180 rfl) (rmCO l Z a0 hw q n h0 c1 c2) e159 (g := (mkF m 5 #[.val (.ref b), .val (.int q)] [(.int n), (.int q)])) rfl (by rw [hml]; rfl) (lenOf own_pd6 rfl) rfl (by show 2 * 0 + _ ≤ _; exact Nat.le_of_eq rfl) (hb hby own_d23_5) (by decide) (by decide) (by decide) (by decide)
  obtain ⟨rfl, e160, rfl⟩ := hQ160
  rw [List.append_nil] at X160
  refine own_st (st160) ?_
  clear st160 X159 e159
  show OFin p e below s _ _ _ (T160.setTop (mkF m 8 #[.val (.ref b), .val (.int q)] [(.int q)]))
  refine own_st (fun _ kS => XS.pop X160.here hx rfl (hb hby own_d23_8) rfl rfl kS) ?_
  show OFin p e below s _ _ _ (T160.setTop (mkF m 9 #[.val (.ref b), .val (.int q)] []))
  refine own_st (fun _ kS => XS.aloadN X160.here hx rfl (hb hby own_d23_9) rfl rfl kS) ?_
  show OFin p e below s _ _ _ (T160.setTop (mkF m 10 #[.val (.ref b), .val (.int q)] [(.ref b)]))
  refine own_st (fun _ kS => XS.iloadN X160.here hx rfl (hb hby own_d23_10) rfl kS) ?_
  show OFin p e below s _ _ _ (T160.setTop (mkF m 11 #[.val (.ref b), .val (.int q)] [(.int q), (.ref b)]))
  obtain ⟨v161, T161, L161, X161, hQ161, st161⟩ := own_virtual X160 hx hZ (y := (⟨"java/util/ArrayList", "elementData", "(I)Ljava/lang/Object;"⟩ : MethodName)) (z := (⟨"java/util/ArrayList", "elementData", "(I)Ljava/lang/Object;"⟩ : MethodName)) (rm := ⟨0, 0, 0, 0⟩) (W := 0) (a := b) (argsL := [(.int q)]) (rest := []) hown (own_w hw 185 rfl) (own_w hw 186 rfl) (notFace_of_selects (args := #[]) (mvT hZ (own_w hw 188 rfl))) (own_w hw 188 rfl) (own_w hw 187 rfl) (own_w hw 80 rfl) (own_w hw 189 rfl) (rmED l Z a0 hw b q h0 ar x mc n f j B_b c1 hj hi hf) e160 u154 (g := (mkF m 11 #[.val (.ref b), .val (.int q)] [(.int q), (.ref b)])) rfl (by rw [hml]; rfl) (lenOf own_pd7 rfl) rfl (by show 2 * 0 + _ ≤ _; exact Nat.le_of_eq rfl) (hb hby own_d23_11) (by decide) (by decide) (by decide) (by decide)
  obtain ⟨rfl, e161, rfl⟩ := hQ161
  rw [List.append_nil] at X161
  refine own_st (st161) ?_
  clear st161 X160 e160
  show OFin p e below s _ _ _ (T161.setTop (mkF m 14 #[.val (.ref b), .val (.int q)] [(.ref x)]))
  exact own_ret X161 hx (t := (.object "java/lang/Object")) hret hlk rfl (Or.inr (Or.inr (Or.inr (Or.inr ⟨rfl, rfl, rfl⟩)))) (hb hby own_d23_14) (by decide) (by decide) ⟨rfl, e161, rfl⟩
set_option maxRecDepth 65536 in
set_option maxHeartbeats 40000000 in
theorem rmG1 (l : Launch) (Z : State) (a0 : Array Value) (hw : ∀ d ∈ tables_1, d.before a0 Z = true) (b : Addr) (q : Int32) (h0 : Heap) (n0 : Nat) (Z0 : n0 ≤ h0.size) (dc : Addr) (mc : Int32) (hq : ¬ (10 : Int32) < q) (E_b : Exa Z h0 b "java/util/ArrayList") (F_m : Fld Z h0 b "java/util/AbstractList" "modCount" "I" (.int mc)) (F_e : Fld Z h0 b "java/util/ArrayList" "elementData" "[Ljava/lang/Object;" (.ref dc)) (F_s : Fld Z h0 b "java/util/ArrayList" "size" "I" (.int (0 : Int32))) (g_b : n0 ≤ b) (O : Old Z n0 h0) (S_dc : Sta Z Z.heap "java/util/ArrayList" "DEFAULTCAPACITY_EMPTY_ELEMENTDATA" "[Ljava/lang/Object;" (.ref dc)) (A_dc : OArr Z Z.heap dc (.object "java/lang/Object") 0 (fun _ => .null)) :
    OMet l Z (⟨"java/util/ArrayList", "grow", "(I)[Ljava/lang/Object;"⟩ : MethodName) jdk_38_method_6_code 4 (some (.array (.object "java/lang/Object"))) (⟨1, 1, 10, 14⟩ : Room) #[(.ref b), (.int q)] h0 (fun v h L => ∃ ar, v = some (.ref ar) ∧ Fr n0 L ∧ Keep h0 h [b] ∧ h0.size ≤ ar ∧ BL Z h b ar mc (0 : Int32) (fun _ => .null)) := by
  refine own_enter own_pn19 ?_
  intro p e s m below meth c T0 X0 hC e0
  obtain ⟨hx, hZ, hby, hml, hown, hret, hlk, hnm⟩ := hC
  have hown : s.vm.findClass "java/util/ArrayList" = some m.cls := hown
  refine own_at (own_ef19_RI m b q) ?_
  show OFin p e below s _ _ _ (T0.setTop (mkF m 0 #[.val (.ref b), .val (.int q), .unset, .unset] []))
  have N0 := Fr.nil n0
  have kp0 := Keep.refl h0 [b]
  refine own_st (fun _ kS => XS.aloadN X0.here hx rfl (hb hby own_d19_0) rfl rfl kS) ?_
  show OFin p e below s _ _ _ (T0.setTop (mkF m 1 #[.val (.ref b), .val (.int q), .unset, .unset] [(.ref b)]))
  obtain ⟨T162, X162, e162, st162⟩ := getF X0 hx hZ hown (host := "") (Or.inl (own_w hw 100 rfl)) Via.refl e0 F_e (g := (mkF m 1 #[.val (.ref b), .val (.int q), .unset, .unset] [(.ref b)])) rfl rfl (hb hby own_d19_1)
  refine own_st (st162) ?_
  clear st162 X0 e0
  show OFin p e below s _ _ _ (T162.setTop (mkF m 4 #[.val (.ref b), .val (.int q), .unset, .unset] [(.ref dc)]))
  obtain ⟨cl163, Ar163, S163, B163, H163⟩ := id (A_dc.ext O.2)
  have hl163 := own_len S163 (rfl : _ = (0 : Int32))
  refine own_st (X162.arraylength hx (by rw [e162]; exact Ar163.1) (State.isArrayOf_alike hZ.alike Ar163.2.1) (g := (mkF m 4 #[.val (.ref b), .val (.int q), .unset, .unset] [(.ref dc)])) rfl rfl (hb hby own_d19_4)) ?_
  rw [hl163]
  clear hl163 Ar163 S163 B163
  show OFin p e below s _ _ _ (T162.setTop (mkF m 5 #[.val (.ref b), .val (.int q), .unset, .unset] [(.int (0 : Int32))]))
  refine own_st (fun _ kS => XS.istoreN X162.here hx rfl (hb hby own_d19_5) rfl (l' := #[.val (.ref b), .val (.int q), .val (.int (0 : Int32)), .unset]) rfl kS) ?_
  show OFin p e below s _ _ _ (T162.setTop (mkF m 6 #[.val (.ref b), .val (.int q), .val (.int (0 : Int32)), .unset] []))
  refine own_st (fun _ kS => XS.iloadN X162.here hx rfl (hb hby own_d19_6) rfl kS) ?_
  show OFin p e below s _ _ _ (T162.setTop (mkF m 7 #[.val (.ref b), .val (.int q), .val (.int (0 : Int32)), .unset] [(.int (0 : Int32))]))
  refine own_st (fun _ kS => XS.ifNo X162.here hx rfl (hb hby own_d19_7) rfl ((if0 _ _).trans (flt (by decide)).2.2.1) kS) ?_
  show OFin p e below s _ _ _ (T162.setTop (mkF m 10 #[.val (.ref b), .val (.int q), .val (.int (0 : Int32)), .unset] []))
  refine own_st (fun _ kS => XS.aloadN X162.here hx rfl (hb hby own_d19_10) rfl rfl kS) ?_
  show OFin p e below s _ _ _ (T162.setTop (mkF m 11 #[.val (.ref b), .val (.int q), .val (.int (0 : Int32)), .unset] [(.ref b)]))
  obtain ⟨T164, X164, e164, st164⟩ := getF X162 hx hZ hown (host := "") (Or.inl (own_w hw 100 rfl)) Via.refl e162 F_e (g := (mkF m 11 #[.val (.ref b), .val (.int q), .val (.int (0 : Int32)), .unset] [(.ref b)])) rfl rfl (hb hby own_d19_11)
  refine own_st (st164) ?_
  clear st164 X162 e162
  show OFin p e below s _ _ _ (T164.setTop (mkF m 14 #[.val (.ref b), .val (.int q), .val (.int (0 : Int32)), .unset] [(.ref dc)]))
  obtain ⟨T165, X165, e165, st165⟩ := getS2 X164 hx hZ hown (host := "") (Or.inl (own_w hw 99 rfl)) Via.refl e164 (Sta.ext O.2 S_dc) (g := (mkF m 14 #[.val (.ref b), .val (.int q), .val (.int (0 : Int32)), .unset] [(.ref dc)])) rfl (hb hby own_d19_14)
  refine own_st (st165) ?_
  clear st165 X164 e164
  show OFin p e below s _ _ _ (T165.setTop (mkF m 17 #[.val (.ref b), .val (.int q), .val (.int (0 : Int32)), .unset] [(.ref dc), (.ref dc)]))
  refine own_st (fun _ kS => Jvm.RoadKit.acmp (g := (mkF m 17 #[.val (.ref b), .val (.int q), .val (.int (0 : Int32)), .unset] [(.ref dc), (.ref dc)])) X165 hx rfl rfl rfl (pc0 := 17) (pc' := 45) (same := true) rfl (hb hby own_d19_17) rfl (decide_eq_true rfl) (by decide) (by decide) kS) ?_
  show OFin p e below s _ _ _ (T165.setTop (mkF m 45 #[.val (.ref b), .val (.int q), .val (.int (0 : Int32)), .unset] []))
  refine own_st (fun _ kS => XS.aloadN X165.here hx rfl (hb hby own_d19_45) rfl rfl kS) ?_
  show OFin p e below s _ _ _ (T165.setTop (mkF m 46 #[.val (.ref b), .val (.int q), .val (.int (0 : Int32)), .unset] [(.ref b)]))
  refine own_st (fun _ kS => XS.bipush X165.here hx rfl (hb hby own_d19_46) kS) ?_
  show OFin p e below s _ _ _ (T165.setTop (mkF m 48 #[.val (.ref b), .val (.int q), .val (.int (0 : Int32)), .unset] [(.int (10 : Int32)), (.ref b)]))
  refine own_st (fun _ kS => XS.iloadN X165.here hx rfl (hb hby own_d19_48) rfl kS) ?_
  show OFin p e below s _ _ _ (T165.setTop (mkF m 49 #[.val (.ref b), .val (.int q), .val (.int (0 : Int32)), .unset] [(.int q), (.int (10 : Int32)), (.ref b)]))
  obtain ⟨v166, T166, L166, X166, hQ166, st166⟩ := own_static X165 hx hZ (y := (⟨"java/lang/Math", "max", "(II)I"⟩ : MethodName)) (rm := ⟨0, 0, 0, 0⟩) (W := 1) (argsL := [(.int (10 : Int32)), (.int q)]) (rest := [(.ref b)]) hown (own_w hw 148 rfl) (own_w hw 149 rfl) (own_w hw 150 rfl) (own_w hw 151 rfl) (rmMax l Z a0 hw (10 : Int32) q h0 hq) e165 (g := (mkF m 49 #[.val (.ref b), .val (.int q), .val (.int (0 : Int32)), .unset] [(.int q), (.int (10 : Int32)), (.ref b)])) rfl (by rw [hml]; rfl) (lenOf own_pd6 rfl) rfl (by show 2 * 0 + _ ≤ _; exact Nat.le_of_eq rfl) (hb hby own_d19_49) (by decide) (by decide) (by decide) (by decide)
  obtain ⟨rfl, e166, rfl⟩ := hQ166
  rw [List.append_nil] at X166
  refine own_st (st166) ?_
  clear st166 X165 e165
  show OFin p e below s _ _ _ (T166.setTop (mkF m 52 #[.val (.ref b), .val (.int q), .val (.int (0 : Int32)), .unset] [(.int (10 : Int32)), (.ref b)]))
  obtain ⟨T167, h167, k167, X167, e167, E167, A167, Ex167, O167, st167⟩ := newRE X166 hx hZ hown (own_w hw 152 rfl) (own_w hw 153 rfl) e166 (g := (mkF m 52 #[.val (.ref b), .val (.int q), .val (.int (0 : Int32)), .unset] [(.int (10 : Int32)), (.ref b)])) rfl (hb hby own_d19_52) rfl (by decide) (cap := 10) (by decide) (by decide) (by decide) (by decide) rfl
  obtain ⟨ar, g167⟩ : ∃ z, z = h0.size := ⟨_, rfl⟩
  rw [← g167] at A167 st167 Ex167
  have ne_b_ar : b ≠ ar := Nat.ne_of_lt (Nat.lt_of_lt_of_le E_b.lt (Nat.le_of_eq g167.symm))
  have g_ar : n0 ≤ ar := Nat.le_trans Z0 (Nat.le_of_eq g167.symm)
  have od167 := O.ext E167
  have f168 := E_b.ext E167
  have f169 := F_m.ext E167
  have f170 := F_e.ext E167
  have f171 := F_s.ext E167
  have f172 : ORef Z h167 ar (.object "java/lang/Object") "java/lang/Object" 10 (fun _ => .null) := ORef.new A167 O167 rfl
  have sz167 : n0 ≤ h167.size := Nat.le_trans Z0 E167.1
  have kp167 := kp0.ext E167
  have kz_ar := Nat.le_trans kp0.1 (Nat.le_of_eq g167.symm)
  clear kp0
  refine own_st (st167) ?_
  clear st167 X166 e166 E167 g167
  show OFin p e below s _ _ _ (T167.setTop (mkF m 55 #[.val (.ref b), .val (.int q), .val (.int (0 : Int32)), .unset] [(.ref ar), (.ref b)]))
  refine own_st (fun _ kS => XS.dupX1 X167.here hx rfl (hb hby own_d19_55) rfl rfl rfl kS) ?_
  show OFin p e below s _ _ _ (T167.setTop (mkF m 56 #[.val (.ref b), .val (.int q), .val (.int (0 : Int32)), .unset] [(.ref ar), (.ref b), (.ref ar)]))
  obtain ⟨T173, h173, X173, e173, W173, st173⟩ := putF X167 hx hZ hown (host := "") (Or.inl (own_w hw 100 rfl)) Via.refl e167 f170 f168 (Or.inl (own_w hw 101 rfl)) (own_w hw 79 rfl) (ty := (.array (.object "java/lang/Object"))) (by decide) rfl rfl (g := (mkF m 56 #[.val (.ref b), .val (.int q), .val (.int (0 : Int32)), .unset] [(.ref ar), (.ref b), (.ref ar)])) rfl rfl (hb hby own_d19_56)
  have f174 := f170.same W173
  have od173 := od167.wr W173 g_b
  clear od167
  have f175 := f168.wr W173
  clear f168
  have f176 := f169.other W173 (Or.inr (slot_ne (Or.inl (own_w hw 98 rfl)) (Or.inl (own_w hw 101 rfl)) (by decide) (t := .int) (t' := (.array (.object "java/lang/Object"))) (by decide) (by decide)))
  clear f169
  have f178 := f171.other W173 (Or.inr (slot_ne (Or.inl (own_w hw 132 rfl)) (Or.inl (own_w hw 101 rfl)) (by decide) (t := .int) (t' := (.array (.object "java/lang/Object"))) (by decide) (by decide)))
  clear f171
  have f179 := f172.other W173 (Ne.symm ne_b_ar)
  clear f172
  have f180 := Ex167.wr W173
  clear Ex167
  have sz173 : n0 ≤ h173.size := by rw [W173.size]; exact sz167
  clear sz167
  have fr173 := Fr.snoc X173 N0 g_b
  clear N0
  have kp173 := kp167.wr W173 (Or.inl (List.mem_of_getElem? (i := 0) rfl))
  clear kp167
  refine own_st (st173) ?_
  clear st173 X167 e167 W173 f170
  show OFin p e below s _ _ _ (T173.setTop (mkF m 59 #[.val (.ref b), .val (.int q), .val (.int (0 : Int32)), .unset] [(.ref ar)]))
  exact own_ret X173 hx (t := (.array (.object "java/lang/Object"))) hret hlk rfl (Or.inr (Or.inr (Or.inr (Or.inr ⟨rfl, rfl, rfl⟩)))) (hb hby own_d19_59) (by decide) (by decide) (by show ∃ ar, _ ∧ _ ∧ Keep h0 T173.heap _ ∧ _; rw [e173]; exact ⟨ar, rfl, fr173, kp173, kz_ar, ⟨f175, f176, f174, f178, f179⟩⟩)
set_option maxRecDepth 65536 in
set_option maxHeartbeats 40000000 in
theorem rmG0 (l : Launch) (Z : State) (a0 : Array Value) (hw : ∀ d ∈ tables_1, d.before a0 Z = true) (b : Addr) (h0 : Heap) (n0 : Nat) (Z0 : n0 ≤ h0.size) (dc : Addr) (mc : Int32) (E_b : Exa Z h0 b "java/util/ArrayList") (F_m : Fld Z h0 b "java/util/AbstractList" "modCount" "I" (.int mc)) (F_e : Fld Z h0 b "java/util/ArrayList" "elementData" "[Ljava/lang/Object;" (.ref dc)) (F_s : Fld Z h0 b "java/util/ArrayList" "size" "I" (.int (0 : Int32))) (g_b : n0 ≤ b) (O : Old Z n0 h0) (S_dc : Sta Z Z.heap "java/util/ArrayList" "DEFAULTCAPACITY_EMPTY_ELEMENTDATA" "[Ljava/lang/Object;" (.ref dc)) (A_dc : OArr Z Z.heap dc (.object "java/lang/Object") 0 (fun _ => .null)) :
    OMet l Z (⟨"java/util/ArrayList", "grow", "()[Ljava/lang/Object;"⟩ : MethodName) jdk_38_method_7_code 1 (some (.array (.object "java/lang/Object"))) (⟨2, 1, 10, 29⟩ : Room) #[(.ref b)] h0 (fun v h L => ∃ ar, v = some (.ref ar) ∧ Fr n0 L ∧ Keep h0 h [b] ∧ h0.size ≤ ar ∧ BL Z h b ar mc (0 : Int32) (fun _ => .null)) := by
  refine own_enter own_pn18 ?_
  intro p e s m below meth c T0 X0 hC e0
  obtain ⟨hx, hZ, hby, hml, hown, hret, hlk, hnm⟩ := hC
  have hown : s.vm.findClass "java/util/ArrayList" = some m.cls := hown
  refine own_at (own_ef18_R m b) ?_
  show OFin p e below s _ _ _ (T0.setTop (mkF m 0 #[.val (.ref b)] []))
  have N0 := Fr.nil n0
  have kp0 := Keep.refl h0 [b]
  refine own_st (fun _ kS => XS.aloadN X0.here hx rfl (hb hby own_d18_0) rfl rfl kS) ?_
  show OFin p e below s _ _ _ (T0.setTop (mkF m 1 #[.val (.ref b)] [(.ref b)]))
  refine own_st (fun _ kS => XS.aloadN X0.here hx rfl (hb hby own_d18_1) rfl rfl kS) ?_
  show OFin p e below s _ _ _ (T0.setTop (mkF m 2 #[.val (.ref b)] [(.ref b), (.ref b)]))
  obtain ⟨T181, X181, e181, st181⟩ := getF X0 hx hZ hown (host := "") (Or.inl (own_w hw 131 rfl)) Via.refl e0 F_s (g := (mkF m 2 #[.val (.ref b)] [(.ref b), (.ref b)])) rfl rfl (hb hby own_d18_2)
  refine own_st (st181) ?_
  clear st181 X0 e0
  show OFin p e below s _ _ _ (T181.setTop (mkF m 5 #[.val (.ref b)] [(.int (0 : Int32)), (.ref b)]))
  refine own_st (fun _ kS => XS.iconst X181.here hx rfl (hb hby own_d18_5) kS) ?_
  show OFin p e below s _ _ _ (T181.setTop (mkF m 6 #[.val (.ref b)] [(.int (1 : Int32)), (.int (0 : Int32)), (.ref b)]))
  refine own_st (fun _ kS => XS.iadd X181.here hx rfl (hb hby own_d18_6) rfl kS) ?_
  show OFin p e below s _ _ _ (T181.setTop (mkF m 7 #[.val (.ref b)] [(.int ((0 : Int32) + (1 : Int32))), (.ref b)]))
  obtain ⟨v182, T182, L182, X182, hQ182, st182⟩ := own_private X181 hx hZ (y := (⟨"java/util/ArrayList", "grow", "(I)[Ljava/lang/Object;"⟩ : MethodName)) (rm := ⟨1, 1, 10, 14⟩) (W := 0) (a := b) (argsL := [(.int ((0 : Int32) + (1 : Int32)))]) (rest := []) hown (own_w hw 143 rfl) (own_w hw 144 rfl) (own_w hw 145 rfl) (own_w hw 136 rfl) rfl (own_w hw 80 rfl) (own_w hw 147 rfl) (rmG1 l Z a0 hw b _ h0 n0 Z0 dc mc (by decide) E_b F_m F_e F_s g_b O S_dc A_dc) e181 E_b (g := (mkF m 7 #[.val (.ref b)] [(.int ((0 : Int32) + (1 : Int32))), (.ref b)])) rfl (by rw [hml]; rfl) (lenOf own_pd8 rfl) rfl (by show 2 * 0 + _ ≤ _; exact Nat.le_of_eq rfl) (hb hby own_d18_7) (by decide) (by decide) (by decide) (by decide)
  obtain ⟨ar, rfl, N182, K182, ge_ar, BB182⟩ := hQ182
  have ne_b_ar : b ≠ ar := Nat.ne_of_lt (Nat.lt_of_lt_of_le E_b.lt ge_ar)
  have g_ar : n0 ≤ ar := Nat.le_trans Z0 ge_ar
  have kz_ar := Nat.le_trans kp0.1 ge_ar
  have fr182 := Fr.app N0 N182
  have kp182 := kp0.trans K182 (allS (Or.inl (List.mem_of_getElem? (i := 0) rfl)) all0)
  have od182 := O.keep K182 (allS g_b all0)
  have f183 := E_b.keep K182
  have sz182 : n0 ≤ T182.heap.size := Nat.le_trans Z0 K182.1
  obtain ⟨u187, u188, u189, u190, u191⟩ := BB182
  refine own_st (st182) ?_
  clear st182 X181 e181
  show OFin p e below s _ _ _ (T182.setTop (mkF m 10 #[.val (.ref b)] [(.ref ar)]))
  exact own_ret X182 hx (t := (.array (.object "java/lang/Object"))) hret hlk rfl (Or.inr (Or.inr (Or.inr (Or.inr ⟨rfl, rfl, rfl⟩)))) (hb hby own_d18_10) (by decide) (by decide) (by show ∃ ar, _ ∧ _ ∧ Keep h0 T182.heap _ ∧ _; exact ⟨ar, rfl, fr182, kp182, kz_ar, ⟨u187, u188, u189, u190, u191⟩⟩)
set_option maxRecDepth 65536 in
set_option maxHeartbeats 40000000 in
theorem rmA30 (l : Launch) (Z : State) (a0 : Array Value) (hw : ∀ d ∈ tables_1, d.before a0 Z = true) (b : Addr) (x : Addr) (dc : Addr) (q : Int32) (h0 : Heap) (n0 : Nat) (Z0 : n0 ≤ h0.size) (mc : Int32) (hq : q = (0 : Int32)) (E_b : Exa Z h0 b "java/util/ArrayList") (F_m : Fld Z h0 b "java/util/AbstractList" "modCount" "I" (.int mc)) (F_e : Fld Z h0 b "java/util/ArrayList" "elementData" "[Ljava/lang/Object;" (.ref dc)) (F_s : Fld Z h0 b "java/util/ArrayList" "size" "I" (.int (0 : Int32))) (g_b : n0 ≤ b) (E_x : Exa Z h0 x "com/example/notation_search/notationsearch/math/Row$Script") (O : Old Z n0 h0) (S_dc : Sta Z Z.heap "java/util/ArrayList" "DEFAULTCAPACITY_EMPTY_ELEMENTDATA" "[Ljava/lang/Object;" (.ref dc)) (A_dc : OArr Z Z.heap dc (.object "java/lang/Object") 0 (fun _ => .null)) :
    OMet l Z (⟨"java/util/ArrayList", "add", "(Ljava/lang/Object;[Ljava/lang/Object;I)V"⟩ : MethodName) jdk_38_method_24_code 4 none (⟨3, 1, 10, 41⟩ : Room) #[(.ref b), (.ref x), (.ref dc), (.int q)] h0 (fun v h L => v = none ∧ Fr n0 L ∧ Keep h0 h [b] ∧ ∃ ar, h0.size ≤ ar ∧ BL Z h b ar mc (1 : Int32) (fun i => if i = 0 then .ref x else (fun _ => .null) i)) := by
  refine own_enter own_pn17 ?_
  intro p e s m below meth c T0 X0 hC e0
  obtain ⟨hx, hZ, hby, hml, hown, hret, hlk, hnm⟩ := hC
  have hown : s.vm.findClass "java/util/ArrayList" = some m.cls := hown
  refine own_at (own_ef17_RRRI m b x dc q) ?_
  show OFin p e below s _ _ _ (T0.setTop (mkF m 0 #[.val (.ref b), .val (.ref x), .val (.ref dc), .val (.int q)] []))
  have N0 := Fr.nil n0
  have kp0 := Keep.refl h0 [b]
  refine own_st (fun _ kS => XS.iloadN X0.here hx rfl (hb hby own_d17_0) rfl kS) ?_
  show OFin p e below s _ _ _ (T0.setTop (mkF m 1 #[.val (.ref b), .val (.ref x), .val (.ref dc), .val (.int q)] [(.int q)]))
  refine own_st (fun _ kS => XS.aloadN X0.here hx rfl (hb hby own_d17_1) rfl rfl kS) ?_
  show OFin p e below s _ _ _ (T0.setTop (mkF m 2 #[.val (.ref b), .val (.ref x), .val (.ref dc), .val (.int q)] [(.ref dc), (.int q)]))
  obtain ⟨cl192, Ar192, S192, B192, H192⟩ := id (A_dc.ext O.2)
  have hl192 := own_len S192 (rfl : _ = (0 : Int32))
  refine own_st (X0.arraylength hx (by rw [e0]; exact Ar192.1) (State.isArrayOf_alike hZ.alike Ar192.2.1) (g := (mkF m 2 #[.val (.ref b), .val (.ref x), .val (.ref dc), .val (.int q)] [(.ref dc), (.int q)])) rfl rfl (hb hby own_d17_2)) ?_
  rw [hl192]
  clear hl192 Ar192 S192 B192
  show OFin p e below s _ _ _ (T0.setTop (mkF m 3 #[.val (.ref b), .val (.ref x), .val (.ref dc), .val (.int q)] [(.int (0 : Int32)), (.int q)]))
  refine own_st (fun _ kS => XS.icmpNo X0.here hx rfl (hb hby own_d17_3) rfl (teq hq).2 kS) ?_
  show OFin p e below s _ _ _ (T0.setTop (mkF m 6 #[.val (.ref b), .val (.ref x), .val (.ref dc), .val (.int q)] []))
  refine own_st (fun _ kS => XS.aloadN X0.here hx rfl (hb hby own_d17_6) rfl rfl kS) ?_
  show OFin p e below s _ _ _ (T0.setTop (mkF m 7 #[.val (.ref b), .val (.ref x), .val (.ref dc), .val (.int q)] [(.ref b)]))
  obtain ⟨v193, T193, L193, X193, hQ193, st193⟩ := own_private X0 hx hZ (y := (⟨"java/util/ArrayList", "grow", "()[Ljava/lang/Object;"⟩ : MethodName)) (rm := ⟨2, 1, 10, 29⟩) (W := 0) (a := b) (argsL := []) (rest := []) hown (own_w hw 138 rfl) (own_w hw 139 rfl) (own_w hw 140 rfl) (own_w hw 136 rfl) rfl (own_w hw 80 rfl) (own_w hw 142 rfl) (rmG0 l Z a0 hw b h0 n0 Z0 dc mc E_b F_m F_e F_s g_b O S_dc A_dc) e0 E_b (g := (mkF m 7 #[.val (.ref b), .val (.ref x), .val (.ref dc), .val (.int q)] [(.ref b)])) rfl (by rw [hml]; rfl) (lenOf own_pd9 rfl) rfl (by show 2 * 0 + _ ≤ _; exact Nat.le_of_eq rfl) (hb hby own_d17_7) (by decide) (by decide) (by decide) (by decide)
  obtain ⟨ar, rfl, N193, K193, ge_ar, BB193⟩ := hQ193
  have ne_b_ar : b ≠ ar := Nat.ne_of_lt (Nat.lt_of_lt_of_le E_b.lt ge_ar)
  have ne_x_ar : x ≠ ar := Nat.ne_of_lt (Nat.lt_of_lt_of_le E_x.lt ge_ar)
  have g_ar : n0 ≤ ar := Nat.le_trans Z0 ge_ar
  have kz_ar := Nat.le_trans kp0.1 ge_ar
  have fr193 := Fr.app N0 N193
  have kp193 := kp0.trans K193 (allS (Or.inl (List.mem_of_getElem? (i := 0) rfl)) all0)
  have od193 := O.keep K193 (allS g_b all0)
  have f194 := E_b.keep K193
  have f198 := E_x.keep K193
  have sz193 : n0 ≤ T193.heap.size := Nat.le_trans Z0 K193.1
  obtain ⟨u199, u200, u201, u202, u203⟩ := BB193
  refine own_st (st193) ?_
  clear st193 X0 e0
  show OFin p e below s _ _ _ (T193.setTop (mkF m 10 #[.val (.ref b), .val (.ref x), .val (.ref dc), .val (.int q)] [(.ref ar)]))
  refine own_st (fun _ kS => XS.astoreN X193.here hx rfl (hb hby own_d17_10) rfl rfl (l' := #[.val (.ref b), .val (.ref x), .val (.ref ar), .val (.int q)]) rfl kS) ?_
  show OFin p e below s _ _ _ (T193.setTop (mkF m 11 #[.val (.ref b), .val (.ref x), .val (.ref ar), .val (.int q)] []))
  refine own_st (fun _ kS => XS.aloadN X193.here hx rfl (hb hby own_d17_11) rfl rfl kS) ?_
  show OFin p e below s _ _ _ (T193.setTop (mkF m 12 #[.val (.ref b), .val (.ref x), .val (.ref ar), .val (.int q)] [(.ref ar)]))
  refine own_st (fun _ kS => XS.iloadN X193.here hx rfl (hb hby own_d17_12) rfl kS) ?_
  show OFin p e below s _ _ _ (T193.setTop (mkF m 13 #[.val (.ref b), .val (.ref x), .val (.ref ar), .val (.int q)] [(.int q), (.ref ar)]))
  refine own_st (fun _ kS => XS.aloadN X193.here hx rfl (hb hby own_d17_13) rfl rfl kS) ?_
  show OFin p e below s _ _ _ (T193.setTop (mkF m 14 #[.val (.ref b), .val (.ref x), .val (.ref ar), .val (.int q)] [(.ref x), (.int q), (.ref ar)]))
  obtain ⟨cl204, Ar204, S204, B204, H204, O204⟩ := id u203
  obtain ⟨T204, h204, X204, e204, W204, st204⟩ := stR X193 hx hZ rfl Ar204 (j := q) (own_inb S204 (by rw [hq]; decide) (by rw [hq]) (by decide)) rfl (own_sto Ar204 O204 (Ins.of_exa f198 (own_w hw 154 rfl))) (g := (mkF m 14 #[.val (.ref b), .val (.ref x), .val (.ref ar), .val (.int q)] [(.ref x), (.int q), (.ref ar)])) rfl rfl (hb hby own_d17_14)
  have V204 := own_wrj W204 (by rw [hq])
  have f205 := (u203).set V204
  have od204 := od193.wr W204 g_ar
  clear od193
  have f206 := u199.wr W204
  clear u199
  have f207 := f198.wr W204
  clear f198
  have f208 := u200.other W204 (Or.inl ne_b_ar)
  clear u200
  have f209 := u201.other W204 (Or.inl ne_b_ar)
  clear u201
  have f210 := u202.other W204 (Or.inl ne_b_ar)
  clear u202
  have sz204 : n0 ≤ h204.size := by rw [W204.size]; exact sz193
  clear sz193
  have fr204 := Fr.snoc X204 fr193 g_ar
  clear fr193
  have kp204 := kp193.wr W204 (Or.inr kz_ar)
  clear kp193
  refine own_st (st204) ?_
  clear st204 X193 W204 V204 Ar204 S204 B204 H204 O204 u203
  show OFin p e below s _ _ _ (T204.setTop (mkF m 15 #[.val (.ref b), .val (.ref x), .val (.ref ar), .val (.int q)] []))
  refine own_st (fun _ kS => XS.aloadN X204.here hx rfl (hb hby own_d17_15) rfl rfl kS) ?_
  show OFin p e below s _ _ _ (T204.setTop (mkF m 16 #[.val (.ref b), .val (.ref x), .val (.ref ar), .val (.int q)] [(.ref b)]))
  refine own_st (fun _ kS => XS.iloadN X204.here hx rfl (hb hby own_d17_16) rfl kS) ?_
  show OFin p e below s _ _ _ (T204.setTop (mkF m 17 #[.val (.ref b), .val (.ref x), .val (.ref ar), .val (.int q)] [(.int q), (.ref b)]))
  refine own_st (fun _ kS => XS.iconst X204.here hx rfl (hb hby own_d17_17) kS) ?_
  show OFin p e below s _ _ _ (T204.setTop (mkF m 18 #[.val (.ref b), .val (.ref x), .val (.ref ar), .val (.int q)] [(.int (1 : Int32)), (.int q), (.ref b)]))
  refine own_st (fun _ kS => XS.iadd X204.here hx rfl (hb hby own_d17_18) rfl kS) ?_
  show OFin p e below s _ _ _ (T204.setTop (mkF m 19 #[.val (.ref b), .val (.ref x), .val (.ref ar), .val (.int q)] [(.int (q + (1 : Int32))), (.ref b)]))
  rw [show q + (1 : Int32) = 1 from by rw [hq]; rfl]
  show OFin p e below s _ _ _ (T204.setTop (mkF m 19 #[.val (.ref b), .val (.ref x), .val (.ref ar), .val (.int q)] [(.int (1 : Int32)), (.ref b)]))
  obtain ⟨T212, h212, X212, e212, W212, st212⟩ := putF X204 hx hZ hown (host := "") (Or.inl (own_w hw 131 rfl)) Via.refl e204 f210 f206 (Or.inl (own_w hw 132 rfl)) (own_w hw 79 rfl) (ty := .int) (by decide) rfl rfl (g := (mkF m 19 #[.val (.ref b), .val (.ref x), .val (.ref ar), .val (.int q)] [(.int (1 : Int32)), (.ref b)])) rfl rfl (hb hby own_d17_19)
  have f213 := f210.same W212
  have od212 := od204.wr W212 g_b
  clear od204
  have f214 := f206.wr W212
  clear f206
  have f215 := f207.wr W212
  clear f207
  have f216 := f208.other W212 (Or.inr (slot_ne (Or.inl (own_w hw 98 rfl)) (Or.inl (own_w hw 132 rfl)) (by decide) (t := .int) (t' := .int) (by decide) (by decide)))
  clear f208
  have f217 := f209.other W212 (Or.inr (slot_ne (Or.inl (own_w hw 101 rfl)) (Or.inl (own_w hw 132 rfl)) (by decide) (t := (.array (.object "java/lang/Object"))) (t' := .int) (by decide) (by decide)))
  clear f209
  have f219 := f205.other W212 (Ne.symm ne_b_ar)
  clear f205
  have sz212 : n0 ≤ h212.size := by rw [W212.size]; exact sz204
  clear sz204
  have fr212 := Fr.snoc X212 fr204 g_b
  clear fr204
  have kp212 := kp204.wr W212 (Or.inl (List.mem_of_getElem? (i := 0) rfl))
  clear kp204
  refine own_st (st212) ?_
  clear st212 X204 e204 W212 f210
  show OFin p e below s _ _ _ (T212.setTop (mkF m 22 #[.val (.ref b), .val (.ref x), .val (.ref ar), .val (.int q)] []))
  exact own_retV X212 hx hret hlk (hb hby own_d17_22) (by decide) (by decide) (by show _ ∧ _ ∧ Keep h0 T212.heap _ ∧ _; rw [e212]; exact ⟨rfl, fr212, kp212, ar, kz_ar, ⟨f214, f216, f217, f213, f219⟩⟩)
set_option maxRecDepth 65536 in
set_option maxHeartbeats 40000000 in
theorem rmA0 (l : Launch) (Z : State) (a0 : Array Value) (hw : ∀ d ∈ tables_1, d.before a0 Z = true) (b : Addr) (x : Addr) (h0 : Heap) (n0 : Nat) (Z0 : n0 ≤ h0.size) (dc : Addr) (E_b : Exa Z h0 b "java/util/ArrayList") (F_m : Fld Z h0 b "java/util/AbstractList" "modCount" "I" (.int (0 : Int32))) (F_e : Fld Z h0 b "java/util/ArrayList" "elementData" "[Ljava/lang/Object;" (.ref dc)) (F_s : Fld Z h0 b "java/util/ArrayList" "size" "I" (.int (0 : Int32))) (g_b : n0 ≤ b) (E_x : Exa Z h0 x "com/example/notation_search/notationsearch/math/Row$Script") (O : Old Z n0 h0) (S_dc : Sta Z Z.heap "java/util/ArrayList" "DEFAULTCAPACITY_EMPTY_ELEMENTDATA" "[Ljava/lang/Object;" (.ref dc)) (A_dc : OArr Z Z.heap dc (.object "java/lang/Object") 0 (fun _ => .null)) :
    OMet l Z (⟨"java/util/ArrayList", "add", "(Ljava/lang/Object;)Z"⟩ : MethodName) jdk_38_method_25_code 2 (some .boolean) (⟨4, 1, 10, 56⟩ : Room) #[(.ref b), (.ref x)] h0 (fun v h L => v = some (.int (1 : Int32)) ∧ Fr n0 L ∧ Keep h0 h [b] ∧ ∃ ar, h0.size ≤ ar ∧ BL Z h b ar (1 : Int32) (1 : Int32) (fun i => if i = 0 then .ref x else (fun _ => .null) i)) := by
  refine own_enter own_pn16 ?_
  intro p e s m below meth c T0 X0 hC e0
  obtain ⟨hx, hZ, hby, hml, hown, hret, hlk, hnm⟩ := hC
  have hown : s.vm.findClass "java/util/ArrayList" = some m.cls := hown
  refine own_at (own_ef16_RR m b x) ?_
  show OFin p e below s _ _ _ (T0.setTop (mkF m 0 #[.val (.ref b), .val (.ref x)] []))
  have N0 := Fr.nil n0
  have kp0 := Keep.refl h0 [b]
  refine own_st (fun _ kS => XS.aloadN X0.here hx rfl (hb hby own_d16_0) rfl rfl kS) ?_
  show OFin p e below s _ _ _ (T0.setTop (mkF m 1 #[.val (.ref b), .val (.ref x)] [(.ref b)]))
  refine own_st (fun _ kS => XS.dup X0.here hx rfl (hb hby own_d16_1) rfl rfl kS) ?_
  show OFin p e below s _ _ _ (T0.setTop (mkF m 2 #[.val (.ref b), .val (.ref x)] [(.ref b), (.ref b)]))
  obtain ⟨T220, X220, e220, st220⟩ := getF X0 hx hZ hown (host := "") (Or.inl (own_w hw 129 rfl)) (Via.of (own_w hw 130 rfl)) e0 F_m (g := (mkF m 2 #[.val (.ref b), .val (.ref x)] [(.ref b), (.ref b)])) rfl rfl (hb hby own_d16_2)
  refine own_st (st220) ?_
  clear st220 X0 e0
  show OFin p e below s _ _ _ (T220.setTop (mkF m 5 #[.val (.ref b), .val (.ref x)] [(.int (0 : Int32)), (.ref b)]))
  refine own_st (fun _ kS => XS.iconst X220.here hx rfl (hb hby own_d16_5) kS) ?_
  show OFin p e below s _ _ _ (T220.setTop (mkF m 6 #[.val (.ref b), .val (.ref x)] [(.int (1 : Int32)), (.int (0 : Int32)), (.ref b)]))
  refine own_st (fun _ kS => XS.iadd X220.here hx rfl (hb hby own_d16_6) rfl kS) ?_
  show OFin p e below s _ _ _ (T220.setTop (mkF m 7 #[.val (.ref b), .val (.ref x)] [(.int ((0 : Int32) + (1 : Int32))), (.ref b)]))
  rw [show ((0 : Int32) + (1 : Int32)) = (1 : Int32) from by decide]
  show OFin p e below s _ _ _ (T220.setTop (mkF m 7 #[.val (.ref b), .val (.ref x)] [(.int ((1 : Int32))), (.ref b)]))
  obtain ⟨T221, h221, X221, e221, W221, st221⟩ := putF X220 hx hZ hown (host := "") (Or.inl (own_w hw 129 rfl)) (Via.of (own_w hw 130 rfl)) e220 F_m E_b (Or.inl (own_w hw 98 rfl)) (own_w hw 79 rfl) (ty := .int) (by decide) rfl rfl (g := (mkF m 7 #[.val (.ref b), .val (.ref x)] [(.int (1 : Int32)), (.ref b)])) rfl rfl (hb hby own_d16_7)
  have f222 := F_m.same W221
  have od221 := O.wr W221 g_b
  have f223 := E_b.wr W221
  have f225 := F_e.other W221 (Or.inr (slot_ne (Or.inl (own_w hw 101 rfl)) (Or.inl (own_w hw 98 rfl)) (by decide) (t := (.array (.object "java/lang/Object"))) (t' := .int) (by decide) (by decide)))
  have f226 := F_s.other W221 (Or.inr (slot_ne (Or.inl (own_w hw 132 rfl)) (Or.inl (own_w hw 98 rfl)) (by decide) (t := .int) (t' := .int) (by decide) (by decide)))
  have f227 := E_x.wr W221
  have sz221 : n0 ≤ h221.size := by rw [W221.size]; exact Z0
  have fr221 := Fr.snoc X221 N0 g_b
  clear N0
  have kp221 := kp0.wr W221 (Or.inl (List.mem_of_getElem? (i := 0) rfl))
  clear kp0
  refine own_st (st221) ?_
  clear st221 X220 e220 W221
  show OFin p e below s _ _ _ (T221.setTop (mkF m 10 #[.val (.ref b), .val (.ref x)] []))
  refine own_st (fun _ kS => XS.aloadN X221.here hx rfl (hb hby own_d16_10) rfl rfl kS) ?_
  show OFin p e below s _ _ _ (T221.setTop (mkF m 11 #[.val (.ref b), .val (.ref x)] [(.ref b)]))
  refine own_st (fun _ kS => XS.aloadN X221.here hx rfl (hb hby own_d16_11) rfl rfl kS) ?_
  show OFin p e below s _ _ _ (T221.setTop (mkF m 12 #[.val (.ref b), .val (.ref x)] [(.ref x), (.ref b)]))
  refine own_st (fun _ kS => XS.aloadN X221.here hx rfl (hb hby own_d16_12) rfl rfl kS) ?_
  show OFin p e below s _ _ _ (T221.setTop (mkF m 13 #[.val (.ref b), .val (.ref x)] [(.ref b), (.ref x), (.ref b)]))
  obtain ⟨T228, X228, e228, st228⟩ := getF X221 hx hZ hown (host := "") (Or.inl (own_w hw 100 rfl)) Via.refl e221 f225 (g := (mkF m 13 #[.val (.ref b), .val (.ref x)] [(.ref b), (.ref x), (.ref b)])) rfl rfl (hb hby own_d16_13)
  refine own_st (st228) ?_
  clear st228 X221 e221
  show OFin p e below s _ _ _ (T228.setTop (mkF m 16 #[.val (.ref b), .val (.ref x)] [(.ref dc), (.ref x), (.ref b)]))
  refine own_st (fun _ kS => XS.aloadN X228.here hx rfl (hb hby own_d16_16) rfl rfl kS) ?_
  show OFin p e below s _ _ _ (T228.setTop (mkF m 17 #[.val (.ref b), .val (.ref x)] [(.ref b), (.ref dc), (.ref x), (.ref b)]))
  obtain ⟨T229, X229, e229, st229⟩ := getF X228 hx hZ hown (host := "") (Or.inl (own_w hw 131 rfl)) Via.refl e228 f226 (g := (mkF m 17 #[.val (.ref b), .val (.ref x)] [(.ref b), (.ref dc), (.ref x), (.ref b)])) rfl rfl (hb hby own_d16_17)
  refine own_st (st229) ?_
  clear st229 X228 e228
  show OFin p e below s _ _ _ (T229.setTop (mkF m 20 #[.val (.ref b), .val (.ref x)] [(.int (0 : Int32)), (.ref dc), (.ref x), (.ref b)]))
  obtain ⟨v230, T230, L230, X230, hQ230, st230⟩ := own_private X229 hx hZ (y := (⟨"java/util/ArrayList", "add", "(Ljava/lang/Object;[Ljava/lang/Object;I)V"⟩ : MethodName)) (rm := ⟨3, 1, 10, 41⟩) (W := 0) (a := b) (argsL := [(.ref x), (.ref dc), (.int (0 : Int32))]) (rest := []) hown (own_w hw 133 rfl) (own_w hw 134 rfl) (own_w hw 135 rfl) (own_w hw 136 rfl) rfl (own_w hw 80 rfl) (own_w hw 137 rfl) (rmA30 l Z a0 hw b x dc _ h221 n0 sz221 (1 : Int32) rfl f223 f222 f225 f226 g_b f227 od221 S_dc A_dc) e229 f223 (g := (mkF m 20 #[.val (.ref b), .val (.ref x)] [(.int (0 : Int32)), (.ref dc), (.ref x), (.ref b)])) rfl (by rw [hml]; rfl) (lenOf own_pd10 rfl) rfl (by show 2 * 0 + _ ≤ _; exact Nat.le_of_eq rfl) (hb hby own_d16_20) (by decide) (by decide) (by decide) (by decide)
  obtain ⟨rfl, N230, K230, ar, ge_ar, BB230⟩ := hQ230
  have ne_b_ar : b ≠ ar := Nat.ne_of_lt (Nat.lt_of_lt_of_le f223.lt ge_ar)
  have ne_x_ar : x ≠ ar := Nat.ne_of_lt (Nat.lt_of_lt_of_le f227.lt ge_ar)
  have g_ar : n0 ≤ ar := Nat.le_trans sz221 ge_ar
  have kz_ar := Nat.le_trans kp221.1 ge_ar
  have fr230 := Fr.app fr221 N230
  have kp230 := kp221.trans K230 (allS (Or.inl (List.mem_of_getElem? (i := 0) rfl)) all0)
  refine own_st (st230) ?_
  clear st230 X229 e229
  show OFin p e below s _ _ _ (T230.setTop (mkF m 23 #[.val (.ref b), .val (.ref x)] []))
  refine own_st (fun _ kS => XS.iconst X230.here hx rfl (hb hby own_d16_23) kS) ?_
  show OFin p e below s _ _ _ (T230.setTop (mkF m 24 #[.val (.ref b), .val (.ref x)] [(.int (1 : Int32))]))
  exact own_ret X230 hx (t := .boolean) hret hlk rfl (Or.inl ⟨rfl, by simp, _, rfl⟩) (hb hby own_d16_24) (by decide) (by decide) (by show _ ∧ _ ∧ Keep h0 T230.heap _ ∧ _; exact ⟨rfl, fr230, kp230, ar, kz_ar, BB230⟩)
set_option maxRecDepth 65536 in
set_option maxHeartbeats 40000000 in
theorem rmA3n (l : Launch) (Z : State) (a0 : Array Value) (hw : ∀ d ∈ tables_1, d.before a0 Z = true) (b : Addr) (x : Addr) (ar : Addr) (n : Int32) (h0 : Heap) (n0 : Nat) (mc n2 : Int32) (f : Nat → Value) (j : Nat) (c1 : ¬ n < 0) (hj : n.toNatClampNeg = j) (hi : j < 10) (hn : ¬ n = (10 : Int32)) (hn2 : n + (1 : Int32) = n2) (B_b : BL Z h0 b ar mc n f) (ne_b_ar : b ≠ ar) (g_b : n0 ≤ b) (g_ar : n0 ≤ ar) (E_x : Exa Z h0 x "com/example/notation_search/notationsearch/math/Row$Script") :
    OMet l Z (⟨"java/util/ArrayList", "add", "(Ljava/lang/Object;[Ljava/lang/Object;I)V"⟩ : MethodName) jdk_38_method_24_code 4 none (⟨0, 0, 0, 0⟩ : Room) #[(.ref b), (.ref x), (.ref ar), (.int n)] h0 (fun v h L => v = none ∧ Fr n0 L ∧ Keep h0 h [b, ar] ∧ BL Z h b ar mc n2 (fun i => if i = j then .ref x else f i)) := by
  refine own_enter own_pn17 ?_
  intro p e s m below meth c T0 X0 hC e0
  obtain ⟨hx, hZ, hby, hml, hown, hret, hlk, hnm⟩ := hC
  have hown : s.vm.findClass "java/util/ArrayList" = some m.cls := hown
  refine own_at (own_ef17_RRRI m b x ar n) ?_
  show OFin p e below s _ _ _ (T0.setTop (mkF m 0 #[.val (.ref b), .val (.ref x), .val (.ref ar), .val (.int n)] []))
  have N0 := Fr.nil n0
  have kp0 := Keep.refl h0 [b, ar]
  obtain ⟨u231, u232, u233, u234, u235⟩ := B_b
  refine own_st (fun _ kS => XS.iloadN X0.here hx rfl (hb hby own_d17_0) rfl kS) ?_
  show OFin p e below s _ _ _ (T0.setTop (mkF m 1 #[.val (.ref b), .val (.ref x), .val (.ref ar), .val (.int n)] [(.int n)]))
  refine own_st (fun _ kS => XS.aloadN X0.here hx rfl (hb hby own_d17_1) rfl rfl kS) ?_
  show OFin p e below s _ _ _ (T0.setTop (mkF m 2 #[.val (.ref b), .val (.ref x), .val (.ref ar), .val (.int n)] [(.ref ar), (.int n)]))
  obtain ⟨cl236, Ar236, S236, B236, H236⟩ := id u235
  have hl236 := own_len S236 (rfl : _ = (10 : Int32))
  refine own_st (X0.arraylength hx (by rw [e0]; exact Ar236.1) (State.isArrayOf_alike hZ.alike Ar236.2.1) (g := (mkF m 2 #[.val (.ref b), .val (.ref x), .val (.ref ar), .val (.int n)] [(.ref ar), (.int n)])) rfl rfl (hb hby own_d17_2)) ?_
  rw [hl236]
  clear hl236 Ar236 S236 B236
  show OFin p e below s _ _ _ (T0.setTop (mkF m 3 #[.val (.ref b), .val (.ref x), .val (.ref ar), .val (.int n)] [(.int (10 : Int32)), (.int n)]))
  refine own_st (fun _ kS => XS.icmpYes X0.here hx rfl (pc0 := 3) (pc' := 11) rfl (hb hby own_d17_3) rfl (feq hn).2 (by decide) (by decide) kS) ?_
  show OFin p e below s _ _ _ (T0.setTop (mkF m 11 #[.val (.ref b), .val (.ref x), .val (.ref ar), .val (.int n)] []))
  refine own_st (fun _ kS => XS.aloadN X0.here hx rfl (hb hby own_d17_11) rfl rfl kS) ?_
  show OFin p e below s _ _ _ (T0.setTop (mkF m 12 #[.val (.ref b), .val (.ref x), .val (.ref ar), .val (.int n)] [(.ref ar)]))
  refine own_st (fun _ kS => XS.iloadN X0.here hx rfl (hb hby own_d17_12) rfl kS) ?_
  show OFin p e below s _ _ _ (T0.setTop (mkF m 13 #[.val (.ref b), .val (.ref x), .val (.ref ar), .val (.int n)] [(.int n), (.ref ar)]))
  refine own_st (fun _ kS => XS.aloadN X0.here hx rfl (hb hby own_d17_13) rfl rfl kS) ?_
  show OFin p e below s _ _ _ (T0.setTop (mkF m 14 #[.val (.ref b), .val (.ref x), .val (.ref ar), .val (.int n)] [(.ref x), (.int n), (.ref ar)]))
  obtain ⟨cl237, Ar237, S237, B237, H237, O237⟩ := id u235
  obtain ⟨T237, h237, X237, e237, W237, st237⟩ := stR X0 hx hZ e0 Ar237 (j := n) (own_inb S237 c1 hj hi) rfl (own_sto Ar237 O237 (Ins.of_exa E_x (own_w hw 154 rfl))) (g := (mkF m 14 #[.val (.ref b), .val (.ref x), .val (.ref ar), .val (.int n)] [(.ref x), (.int n), (.ref ar)])) rfl rfl (hb hby own_d17_14)
  have V237 := own_wrj W237 hj
  have f238 := (u235).set V237
  have f239 := u231.wr W237
  clear u231
  have f240 := u232.other W237 (Or.inl ne_b_ar)
  clear u232
  have f241 := u233.other W237 (Or.inl ne_b_ar)
  clear u233
  have f242 := u234.other W237 (Or.inl ne_b_ar)
  clear u234
  have f244 := E_x.wr W237
  have fr237 := Fr.snoc X237 N0 g_ar
  clear N0
  have kp237 := kp0.wr W237 (Or.inl (List.mem_of_getElem? (i := 1) rfl))
  clear kp0
  refine own_st (st237) ?_
  clear st237 X0 e0 W237 V237 Ar237 S237 B237 H237 O237 u235
  show OFin p e below s _ _ _ (T237.setTop (mkF m 15 #[.val (.ref b), .val (.ref x), .val (.ref ar), .val (.int n)] []))
  refine own_st (fun _ kS => XS.aloadN X237.here hx rfl (hb hby own_d17_15) rfl rfl kS) ?_
  show OFin p e below s _ _ _ (T237.setTop (mkF m 16 #[.val (.ref b), .val (.ref x), .val (.ref ar), .val (.int n)] [(.ref b)]))
  refine own_st (fun _ kS => XS.iloadN X237.here hx rfl (hb hby own_d17_16) rfl kS) ?_
  show OFin p e below s _ _ _ (T237.setTop (mkF m 17 #[.val (.ref b), .val (.ref x), .val (.ref ar), .val (.int n)] [(.int n), (.ref b)]))
  refine own_st (fun _ kS => XS.iconst X237.here hx rfl (hb hby own_d17_17) kS) ?_
  show OFin p e below s _ _ _ (T237.setTop (mkF m 18 #[.val (.ref b), .val (.ref x), .val (.ref ar), .val (.int n)] [(.int (1 : Int32)), (.int n), (.ref b)]))
  refine own_st (fun _ kS => XS.iadd X237.here hx rfl (hb hby own_d17_18) rfl kS) ?_
  show OFin p e below s _ _ _ (T237.setTop (mkF m 19 #[.val (.ref b), .val (.ref x), .val (.ref ar), .val (.int n)] [(.int (n + (1 : Int32))), (.ref b)]))
  rw [hn2]
  show OFin p e below s _ _ _ (T237.setTop (mkF m 19 #[.val (.ref b), .val (.ref x), .val (.ref ar), .val (.int n)] [(.int n2), (.ref b)]))
  obtain ⟨T245, h245, X245, e245, W245, st245⟩ := putF X237 hx hZ hown (host := "") (Or.inl (own_w hw 131 rfl)) Via.refl e237 f242 f239 (Or.inl (own_w hw 132 rfl)) (own_w hw 79 rfl) (ty := .int) (by decide) rfl rfl (g := (mkF m 19 #[.val (.ref b), .val (.ref x), .val (.ref ar), .val (.int n)] [(.int n2), (.ref b)])) rfl rfl (hb hby own_d17_19)
  have f246 := f242.same W245
  have f247 := f239.wr W245
  clear f239
  have f248 := f240.other W245 (Or.inr (slot_ne (Or.inl (own_w hw 98 rfl)) (Or.inl (own_w hw 132 rfl)) (by decide) (t := .int) (t' := .int) (by decide) (by decide)))
  clear f240
  have f249 := f241.other W245 (Or.inr (slot_ne (Or.inl (own_w hw 101 rfl)) (Or.inl (own_w hw 132 rfl)) (by decide) (t := (.array (.object "java/lang/Object"))) (t' := .int) (by decide) (by decide)))
  clear f241
  have f251 := f238.other W245 (Ne.symm ne_b_ar)
  clear f238
  have f252 := f244.wr W245
  clear f244
  have fr245 := Fr.snoc X245 fr237 g_b
  clear fr237
  have kp245 := kp237.wr W245 (Or.inl (List.mem_of_getElem? (i := 0) rfl))
  clear kp237
  refine own_st (st245) ?_
  clear st245 X237 e237 W245 f242
  show OFin p e below s _ _ _ (T245.setTop (mkF m 22 #[.val (.ref b), .val (.ref x), .val (.ref ar), .val (.int n)] []))
  exact own_retV X245 hx hret hlk (hb hby own_d17_22) (by decide) (by decide) (by show _ ∧ _ ∧ Keep h0 T245.heap _ ∧ _; rw [e245]; exact ⟨rfl, fr245, kp245, ⟨f247, f248, f249, f246, f251⟩⟩)
set_option maxRecDepth 65536 in
set_option maxHeartbeats 40000000 in
theorem rmAn (l : Launch) (Z : State) (a0 : Array Value) (hw : ∀ d ∈ tables_1, d.before a0 Z = true) (b : Addr) (x : Addr) (h0 : Heap) (n0 : Nat) (ar : Addr) (n n2 : Int32) (f : Nat → Value) (j : Nat) (c1 : ¬ n < 0) (hj : n.toNatClampNeg = j) (hi : j < 10) (hn : ¬ n = (10 : Int32)) (hn2 : n + (1 : Int32) = n2) (B_b : BL Z h0 b ar n n f) (ne_b_ar : b ≠ ar) (g_b : n0 ≤ b) (g_ar : n0 ≤ ar) (E_x : Exa Z h0 x "com/example/notation_search/notationsearch/math/Row$Script") :
    OMet l Z (⟨"java/util/ArrayList", "add", "(Ljava/lang/Object;)Z"⟩ : MethodName) jdk_38_method_25_code 2 (some .boolean) (⟨1, 0, 0, 15⟩ : Room) #[(.ref b), (.ref x)] h0 (fun v h L => v = some (.int (1 : Int32)) ∧ Fr n0 L ∧ Keep h0 h [b, ar] ∧ BL Z h b ar n2 n2 (fun i => if i = j then .ref x else f i)) := by
  refine own_enter own_pn16 ?_
  intro p e s m below meth c T0 X0 hC e0
  obtain ⟨hx, hZ, hby, hml, hown, hret, hlk, hnm⟩ := hC
  have hown : s.vm.findClass "java/util/ArrayList" = some m.cls := hown
  refine own_at (own_ef16_RR m b x) ?_
  show OFin p e below s _ _ _ (T0.setTop (mkF m 0 #[.val (.ref b), .val (.ref x)] []))
  have N0 := Fr.nil n0
  have kp0 := Keep.refl h0 [b, ar]
  obtain ⟨u253, u254, u255, u256, u257⟩ := B_b
  refine own_st (fun _ kS => XS.aloadN X0.here hx rfl (hb hby own_d16_0) rfl rfl kS) ?_
  show OFin p e below s _ _ _ (T0.setTop (mkF m 1 #[.val (.ref b), .val (.ref x)] [(.ref b)]))
  refine own_st (fun _ kS => XS.dup X0.here hx rfl (hb hby own_d16_1) rfl rfl kS) ?_
  show OFin p e below s _ _ _ (T0.setTop (mkF m 2 #[.val (.ref b), .val (.ref x)] [(.ref b), (.ref b)]))
  obtain ⟨T258, X258, e258, st258⟩ := getF X0 hx hZ hown (host := "") (Or.inl (own_w hw 129 rfl)) (Via.of (own_w hw 130 rfl)) e0 u254 (g := (mkF m 2 #[.val (.ref b), .val (.ref x)] [(.ref b), (.ref b)])) rfl rfl (hb hby own_d16_2)
  refine own_st (st258) ?_
  clear st258 X0 e0
  show OFin p e below s _ _ _ (T258.setTop (mkF m 5 #[.val (.ref b), .val (.ref x)] [(.int n), (.ref b)]))
  refine own_st (fun _ kS => XS.iconst X258.here hx rfl (hb hby own_d16_5) kS) ?_
  show OFin p e below s _ _ _ (T258.setTop (mkF m 6 #[.val (.ref b), .val (.ref x)] [(.int (1 : Int32)), (.int n), (.ref b)]))
  refine own_st (fun _ kS => XS.iadd X258.here hx rfl (hb hby own_d16_6) rfl kS) ?_
  show OFin p e below s _ _ _ (T258.setTop (mkF m 7 #[.val (.ref b), .val (.ref x)] [(.int (n + (1 : Int32))), (.ref b)]))
  rw [hn2]
  show OFin p e below s _ _ _ (T258.setTop (mkF m 7 #[.val (.ref b), .val (.ref x)] [(.int n2), (.ref b)]))
  obtain ⟨T259, h259, X259, e259, W259, st259⟩ := putF X258 hx hZ hown (host := "") (Or.inl (own_w hw 129 rfl)) (Via.of (own_w hw 130 rfl)) e258 u254 u253 (Or.inl (own_w hw 98 rfl)) (own_w hw 79 rfl) (ty := .int) (by decide) rfl rfl (g := (mkF m 7 #[.val (.ref b), .val (.ref x)] [(.int n2), (.ref b)])) rfl rfl (hb hby own_d16_7)
  have f260 := u254.same W259
  have f261 := u253.wr W259
  clear u253
  have f263 := u255.other W259 (Or.inr (slot_ne (Or.inl (own_w hw 101 rfl)) (Or.inl (own_w hw 98 rfl)) (by decide) (t := (.array (.object "java/lang/Object"))) (t' := .int) (by decide) (by decide)))
  clear u255
  have f264 := u256.other W259 (Or.inr (slot_ne (Or.inl (own_w hw 132 rfl)) (Or.inl (own_w hw 98 rfl)) (by decide) (t := .int) (t' := .int) (by decide) (by decide)))
  clear u256
  have f265 := u257.other W259 (Ne.symm ne_b_ar)
  clear u257
  have f266 := E_x.wr W259
  have fr259 := Fr.snoc X259 N0 g_b
  clear N0
  have kp259 := kp0.wr W259 (Or.inl (List.mem_of_getElem? (i := 0) rfl))
  clear kp0
  refine own_st (st259) ?_
  clear st259 X258 e258 W259 u254
  show OFin p e below s _ _ _ (T259.setTop (mkF m 10 #[.val (.ref b), .val (.ref x)] []))
  refine own_st (fun _ kS => XS.aloadN X259.here hx rfl (hb hby own_d16_10) rfl rfl kS) ?_
  show OFin p e below s _ _ _ (T259.setTop (mkF m 11 #[.val (.ref b), .val (.ref x)] [(.ref b)]))
  refine own_st (fun _ kS => XS.aloadN X259.here hx rfl (hb hby own_d16_11) rfl rfl kS) ?_
  show OFin p e below s _ _ _ (T259.setTop (mkF m 12 #[.val (.ref b), .val (.ref x)] [(.ref x), (.ref b)]))
  refine own_st (fun _ kS => XS.aloadN X259.here hx rfl (hb hby own_d16_12) rfl rfl kS) ?_
  show OFin p e below s _ _ _ (T259.setTop (mkF m 13 #[.val (.ref b), .val (.ref x)] [(.ref b), (.ref x), (.ref b)]))
  obtain ⟨T267, X267, e267, st267⟩ := getF X259 hx hZ hown (host := "") (Or.inl (own_w hw 100 rfl)) Via.refl e259 f263 (g := (mkF m 13 #[.val (.ref b), .val (.ref x)] [(.ref b), (.ref x), (.ref b)])) rfl rfl (hb hby own_d16_13)
  refine own_st (st267) ?_
  clear st267 X259 e259
  show OFin p e below s _ _ _ (T267.setTop (mkF m 16 #[.val (.ref b), .val (.ref x)] [(.ref ar), (.ref x), (.ref b)]))
  refine own_st (fun _ kS => XS.aloadN X267.here hx rfl (hb hby own_d16_16) rfl rfl kS) ?_
  show OFin p e below s _ _ _ (T267.setTop (mkF m 17 #[.val (.ref b), .val (.ref x)] [(.ref b), (.ref ar), (.ref x), (.ref b)]))
  obtain ⟨T268, X268, e268, st268⟩ := getF X267 hx hZ hown (host := "") (Or.inl (own_w hw 131 rfl)) Via.refl e267 f264 (g := (mkF m 17 #[.val (.ref b), .val (.ref x)] [(.ref b), (.ref ar), (.ref x), (.ref b)])) rfl rfl (hb hby own_d16_17)
  refine own_st (st268) ?_
  clear st268 X267 e267
  show OFin p e below s _ _ _ (T268.setTop (mkF m 20 #[.val (.ref b), .val (.ref x)] [(.int n), (.ref ar), (.ref x), (.ref b)]))
  obtain ⟨v269, T269, L269, X269, hQ269, st269⟩ := own_private X268 hx hZ (y := (⟨"java/util/ArrayList", "add", "(Ljava/lang/Object;[Ljava/lang/Object;I)V"⟩ : MethodName)) (rm := ⟨0, 0, 0, 0⟩) (W := 0) (a := b) (argsL := [(.ref x), (.ref ar), (.int n)]) (rest := []) hown (own_w hw 133 rfl) (own_w hw 134 rfl) (own_w hw 135 rfl) (own_w hw 136 rfl) rfl (own_w hw 80 rfl) (own_w hw 137 rfl) (rmA3n l Z a0 hw b x ar n h259 n0 n2 n2 f j c1 hj hi hn hn2 ⟨f261, f260, f263, f264, f265⟩ ne_b_ar g_b g_ar f266) e268 f261 (g := (mkF m 20 #[.val (.ref b), .val (.ref x)] [(.int n), (.ref ar), (.ref x), (.ref b)])) rfl (by rw [hml]; rfl) (lenOf own_pd10 rfl) rfl (by show 2 * 0 + _ ≤ _; exact Nat.le_of_eq rfl) (hb hby own_d16_20) (by decide) (by decide) (by decide) (by decide)
  obtain ⟨rfl, N269, K269, B269_0⟩ := hQ269
  have fr269 := Fr.app fr259 N269
  clear fr259 N269
  have kp269 := kp259.trans K269 (allS (Or.inl (List.mem_of_getElem? (i := 0) rfl)) (allS (Or.inl (List.mem_of_getElem? (i := 1) rfl)) all0))
  clear kp259
  have f270 := f261.keep K269
  clear f261
  clear f260
  clear f263
  clear f264
  clear f265
  have f275 := f266.keep K269
  clear f266
  clear K269
  obtain ⟨u276, u277, u278, u279, u280⟩ := B269_0
  refine own_st (st269) ?_
  clear st269 X268 e268
  show OFin p e below s _ _ _ (T269.setTop (mkF m 23 #[.val (.ref b), .val (.ref x)] []))
  refine own_st (fun _ kS => XS.iconst X269.here hx rfl (hb hby own_d16_23) kS) ?_
  show OFin p e below s _ _ _ (T269.setTop (mkF m 24 #[.val (.ref b), .val (.ref x)] [(.int (1 : Int32))]))
  exact own_ret X269 hx (t := .boolean) hret hlk rfl (Or.inl ⟨rfl, by simp, _, rfl⟩) (hb hby own_d16_24) (by decide) (by decide) (by show _ ∧ _ ∧ Keep h0 T269.heap _ ∧ _; exact ⟨rfl, fr269, kp269, ⟨u276, u277, u278, u279, u280⟩⟩)
set_option maxRecDepth 65536 in
set_option maxHeartbeats 40000000 in
theorem rmH0 (l : Launch) (Z : State) (a0 : Array Value) (hw : ∀ d ∈ tables_1, d.before a0 Z = true) (a : Addr) (r : Addr) (g : Addr) (h0 : Heap) (n0 : Nat) (Z0 : n0 ≤ h0.size) (cn dc : Addr) (B_a : BR Z h0 a cn .null) (g_a : n0 ≤ a) (O : Old Z n0 h0) (S_dc : Sta Z Z.heap "java/util/ArrayList" "DEFAULTCAPACITY_EMPTY_ELEMENTDATA" "[Ljava/lang/Object;" (.ref dc)) (A_dc : OArr Z Z.heap dc (.object "java/lang/Object") 0 (fun _ => .null)) :
    OMet l Z (⟨"com/example/notation_search/notationsearch/math/Row", "hold", "(Lcom/example/notation_search/notationsearch/math/Relation;Lcom/example/notation_search/notationsearch/math/Row;)V"⟩ : MethodName) prog_33_method_7_code 3 none (⟨5, 3, 16, 69⟩ : Room) #[(.ref a), (.ref r), (.ref g)] h0 (fun v h L => v = none ∧ Fr n0 L ∧ Keep h0 h [a] ∧ ∃ b, h0.size ≤ b ∧ ∃ ar, h0.size ≤ ar ∧ ∃ sc, h0.size ≤ sc ∧ b ≠ ar ∧ b ≠ sc ∧ ar ≠ sc ∧ BR Z h a cn (.ref b) ∧ BL Z h b ar (1 : Int32) (1 : Int32) (fun i => if i = 0 then .ref sc else (fun _ => .null) i) ∧ BS Z h sc r g) := by
  refine own_enter own_pn10 ?_
  intro p e s m below meth c T0 X0 hC e0
  obtain ⟨hx, hZ, hby, hml, hown, hret, hlk, hnm⟩ := hC
  have hown : s.vm.findClass "com/example/notation_search/notationsearch/math/Row" = some m.cls := hown
  refine own_at (own_ef10_RRR m a r g) ?_
  show OFin p e below s _ _ _ (T0.setTop (mkF m 0 #[.val (.ref a), .val (.ref r), .val (.ref g)] []))
  have N0 := Fr.nil n0
  have kp0 := Keep.refl h0 [a]
  obtain ⟨u281, u282, u283, u284, u285, u286, u287⟩ := B_a
  refine own_st (fun _ kS => XS.aloadN X0.here hx rfl (hb hby own_d10_0) rfl rfl kS) ?_
  show OFin p e below s _ _ _ (T0.setTop (mkF m 1 #[.val (.ref a), .val (.ref r), .val (.ref g)] [(.ref a)]))
  obtain ⟨T288, X288, e288, st288⟩ := getF X0 hx hZ hown (host := "") (Or.inl (own_w hw 34 rfl)) Via.refl e0 u287 (g := (mkF m 1 #[.val (.ref a), .val (.ref r), .val (.ref g)] [(.ref a)])) rfl rfl (hb hby own_d10_1)
  refine own_st (st288) ?_
  clear st288 X0 e0
  show OFin p e below s _ _ _ (T288.setTop (mkF m 4 #[.val (.ref a), .val (.ref r), .val (.ref g)] [.null]))
  refine own_st (fun _ kS => XS.ifnonnullNo X288.here hx rfl (hb hby own_d10_4) rfl kS) ?_
  show OFin p e below s _ _ _ (T288.setTop (mkF m 7 #[.val (.ref a), .val (.ref r), .val (.ref g)] []))
  refine own_st (fun _ kS => XS.aloadN X288.here hx rfl (hb hby own_d10_7) rfl rfl kS) ?_
  show OFin p e below s _ _ _ (T288.setTop (mkF m 8 #[.val (.ref a), .val (.ref r), .val (.ref g)] [(.ref a)]))
  obtain ⟨T289, h289, X289, e289, E289, A289, D289, -, st289⟩ := newO X288 hx hZ hown (own_w hw 78 rfl) (own_w hw 79 rfl) (own_w hw 80 rfl) e288 (g := (mkF m 8 #[.val (.ref a), .val (.ref r), .val (.ref g)] [(.ref a)])) rfl (hb hby own_d10_8) (by decide) (by decide)
  obtain ⟨b, g289⟩ : ∃ z, z = h0.size := ⟨_, rfl⟩
  rw [← g289] at A289 D289 st289
  have ne_a_b : a ≠ b := Nat.ne_of_lt (Nat.lt_of_lt_of_le u281.lt (Nat.le_of_eq g289.symm))
  have g_b : n0 ≤ b := Nat.le_trans Z0 (Nat.le_of_eq g289.symm)
  have od289 := O.ext E289
  have f290 := u281.ext E289
  clear u281
  have f291 := u282.ext E289
  clear u282
  have f292 := u283.ext E289
  clear u283
  have f293 := u284.ext E289
  clear u284
  have f294 := u285.ext E289
  clear u285
  have f295 := u286.ext E289
  clear u286
  have f296 := u287.ext E289
  clear u287
  have f297 : Fld Z h289 b "java/util/AbstractList" "modCount" "I" (.int (0 : Int32)) := D289 (Or.inl (own_w hw 98 rfl)) (ty := .int) (by decide)
  have f298 : Fld Z h289 b "java/util/ArrayList" "elementData" "[Ljava/lang/Object;" .null := D289 (Or.inl (own_w hw 101 rfl)) (ty := (.array (.object "java/lang/Object"))) (by decide)
  have f299 : Fld Z h289 b "java/util/ArrayList" "size" "I" (.int (0 : Int32)) := D289 (Or.inl (own_w hw 132 rfl)) (ty := .int) (by decide)
  have sz289 : n0 ≤ h289.size := Nat.le_trans Z0 E289.1
  have kp289 := kp0.ext E289
  have kz_b := Nat.le_trans kp0.1 (Nat.le_of_eq g289.symm)
  clear kp0
  refine own_st (st289) ?_
  clear st289 X288 e288 E289 D289 g289
  show OFin p e below s _ _ _ (T289.setTop (mkF m 11 #[.val (.ref a), .val (.ref r), .val (.ref g)] [(.ref b), (.ref a)]))
  refine own_st (fun _ kS => XS.dup X289.here hx rfl (hb hby own_d10_11) rfl rfl kS) ?_
  show OFin p e below s _ _ _ (T289.setTop (mkF m 12 #[.val (.ref a), .val (.ref r), .val (.ref g)] [(.ref b), (.ref b), (.ref a)]))
  obtain ⟨v300, T300, L300, X300, hQ300, st300⟩ := own_init X289 hx hZ (y := (⟨"java/util/ArrayList", "<init>", "()V"⟩ : MethodName)) (rm := ⟨3, 0, 0, 36⟩) (W := 2) (a := b) (argsL := []) (rest := [(.ref b), (.ref a)]) rfl hown (own_w hw 81 rfl) (own_w hw 82 rfl) (own_w hw 80 rfl) (own_w hw 83 rfl) (rmAL l Z a0 hw b h289 n0 dc A289 f297 f298 f299 g_b od289 S_dc) e289 (g := (mkF m 12 #[.val (.ref a), .val (.ref r), .val (.ref g)] [(.ref b), (.ref b), (.ref a)])) rfl (by rw [hml]; rfl) (lenOf own_pd0 rfl) rfl (by show 2 * 0 + _ ≤ _; exact Nat.le_of_eq rfl) (hb hby own_d10_12) (by decide) (by decide) (by decide) (by decide)
  obtain ⟨rfl, N300, K300, EB300, FM300, FE300, FS300⟩ := hQ300
  have fr300 := Fr.app N0 N300
  clear N0
  have kp300 := kp289.trans K300 (allS (Or.inr kz_b) all0)
  clear kp289
  have od300 := od289.keep K300 (allS g_b all0)
  clear od289
  have f301 := f290.keep K300
  clear f290
  have f302 := f291.keep K300 (ninS ne_a_b nin0)
  clear f291
  have f303 := f292.keep K300 (ninS ne_a_b nin0)
  clear f292
  have f304 := f293.keep K300 (ninS ne_a_b nin0)
  clear f293
  have f305 := f294.keep K300 (ninS ne_a_b nin0)
  clear f294
  have f306 := f295.keep K300 (ninS ne_a_b nin0)
  clear f295
  have f307 := f296.keep K300 (ninS ne_a_b nin0)
  clear f296
  have f308 := A289.keep K300
  clear f297
  clear f298
  clear f299
  have sz300 : n0 ≤ T300.heap.size := Nat.le_trans sz289 K300.1
  clear sz289
  refine own_st (st300) ?_
  clear st300 X289 e289
  show OFin p e below s _ _ _ (T300.setTop (mkF m 15 #[.val (.ref a), .val (.ref r), .val (.ref g)] [(.ref b), (.ref a)]))
  obtain ⟨T312, h312, X312, e312, W312, st312⟩ := putF X300 hx hZ hown (host := "") (Or.inl (own_w hw 34 rfl)) Via.refl rfl f307 f301 (Or.inl (own_w hw 35 rfl)) (own_w hw 10 rfl) (ty := (.object "java/util/List")) (by decide) rfl rfl (g := (mkF m 15 #[.val (.ref a), .val (.ref r), .val (.ref g)] [(.ref b), (.ref a)])) rfl rfl (hb hby own_d10_15)
  have f313 := f307.same W312
  have od312 := od300.wr W312 g_a
  clear od300
  have f314 := f301.wr W312
  clear f301
  have f315 := f302.other W312 (Or.inr (slot_ne (Or.inr (own_w hw 17 rfl)) (Or.inl (own_w hw 35 rfl)) (by decide) (t := (.object "com/example/notation_search/notationsearch/math/SymbolCount")) (t' := (.object "java/util/List")) (by decide) (by decide)))
  clear f302
  have f316 := f303.other W312 (Or.inr (slot_ne (Or.inl (own_w hw 161 rfl)) (Or.inl (own_w hw 35 rfl)) (by decide) (t := (.object "com/example/notation_search/notationsearch/math/Symbol")) (t' := (.object "java/util/List")) (by decide) (by decide)))
  clear f303
  have f317 := f304.other W312 (Or.inr (slot_ne (Or.inl (own_w hw 217 rfl)) (Or.inl (own_w hw 35 rfl)) (by decide) (t := (.object "com/example/notation_search/notationsearch/math/Symbol")) (t' := (.object "java/util/List")) (by decide) (by decide)))
  clear f304
  have f318 := f305.other W312 (Or.inr (slot_ne (Or.inl (own_w hw 163 rfl)) (Or.inl (own_w hw 35 rfl)) (by decide) (t := (.object "com/example/notation_search/notationsearch/math/Symbol")) (t' := (.object "java/util/List")) (by decide) (by decide)))
  clear f305
  have f319 := f306.other W312 (Or.inr (slot_ne (Or.inl (own_w hw 68 rfl)) (Or.inl (own_w hw 35 rfl)) (by decide) (t := (.object "java/util/List")) (t' := (.object "java/util/List")) (by decide) (by decide)))
  clear f306
  have f321 := EB300.wr W312
  have f322 := FM300.other W312 (Or.inl (Ne.symm ne_a_b))
  have f323 := FE300.other W312 (Or.inl (Ne.symm ne_a_b))
  have f324 := FS300.other W312 (Or.inl (Ne.symm ne_a_b))
  have sz312 : n0 ≤ h312.size := by rw [W312.size]; exact sz300
  clear sz300
  have fr312 := Fr.snoc X312 fr300 g_a
  clear fr300
  have kp312 := kp300.wr W312 (Or.inl (List.mem_of_getElem? (i := 0) rfl))
  clear kp300
  refine own_st (st312) ?_
  clear st312 X300 W312 f307
  show OFin p e below s _ _ _ (T312.setTop (mkF m 18 #[.val (.ref a), .val (.ref r), .val (.ref g)] []))
  refine own_st (fun _ kS => XS.aloadN X312.here hx rfl (hb hby own_d10_18) rfl rfl kS) ?_
  show OFin p e below s _ _ _ (T312.setTop (mkF m 19 #[.val (.ref a), .val (.ref r), .val (.ref g)] [(.ref a)]))
  obtain ⟨T325, X325, e325, st325⟩ := getF X312 hx hZ hown (host := "") (Or.inl (own_w hw 34 rfl)) Via.refl e312 f313 (g := (mkF m 19 #[.val (.ref a), .val (.ref r), .val (.ref g)] [(.ref a)])) rfl rfl (hb hby own_d10_19)
  refine own_st (st325) ?_
  clear st325 X312 e312
  show OFin p e below s _ _ _ (T325.setTop (mkF m 22 #[.val (.ref a), .val (.ref r), .val (.ref g)] [(.ref b)]))
  obtain ⟨T326, h326, X326, e326, E326, A326, D326, -, st326⟩ := newO X325 hx hZ hown (own_w hw 102 rfl) (own_w hw 103 rfl) (own_w hw 104 rfl) e325 (g := (mkF m 22 #[.val (.ref a), .val (.ref r), .val (.ref g)] [(.ref b)])) rfl (hb hby own_d10_22) (by decide) (by decide)
  obtain ⟨sc, g326⟩ : ∃ z, z = h312.size := ⟨_, rfl⟩
  rw [← g326] at A326 D326 st326
  have ne_a_sc : a ≠ sc := Nat.ne_of_lt (Nat.lt_of_lt_of_le f314.lt (Nat.le_of_eq g326.symm))
  have ne_b_sc : b ≠ sc := Nat.ne_of_lt (Nat.lt_of_lt_of_le f321.lt (Nat.le_of_eq g326.symm))
  have g_sc : n0 ≤ sc := Nat.le_trans sz312 (Nat.le_of_eq g326.symm)
  have od326 := od312.ext E326
  clear od312
  have f327 := f314.ext E326
  clear f314
  have f328 := f315.ext E326
  clear f315
  have f329 := f316.ext E326
  clear f316
  have f330 := f317.ext E326
  clear f317
  have f331 := f318.ext E326
  clear f318
  have f332 := f319.ext E326
  clear f319
  have f333 := f313.ext E326
  clear f313
  have f334 := f321.ext E326
  clear f321
  have f335 := f322.ext E326
  clear f322
  have f336 := f323.ext E326
  clear f323
  have f337 := f324.ext E326
  clear f324
  have f338 : Fld Z h326 sc "com/example/notation_search/notationsearch/math/Row$Script" "relation" "Lcom/example/notation_search/notationsearch/math/Relation;" .null := D326 (Or.inr (own_w hw 115 rfl)) (ty := (.object "com/example/notation_search/notationsearch/math/Relation")) (by decide)
  have f339 : Fld Z h326 sc "com/example/notation_search/notationsearch/math/Row$Script" "region" "Lcom/example/notation_search/notationsearch/math/Row;" .null := D326 (Or.inr (own_w hw 117 rfl)) (ty := (.object "com/example/notation_search/notationsearch/math/Row")) (by decide)
  have f340 : Fld Z h326 sc "com/example/notation_search/notationsearch/math/Row$Script" "before" "Lcom/example/notation_search/notationsearch/math/Symbol;" .null := D326 (Or.inr (own_w hw 119 rfl)) (ty := (.object "com/example/notation_search/notationsearch/math/Symbol")) (by decide)
  have sz326 : n0 ≤ h326.size := Nat.le_trans sz312 E326.1
  clear sz312
  have kp326 := kp312.ext E326
  have kz_sc := Nat.le_trans kp312.1 (Nat.le_of_eq g326.symm)
  clear kp312
  refine own_st (st326) ?_
  clear st326 X325 e325 E326 D326 g326
  show OFin p e below s _ _ _ (T326.setTop (mkF m 25 #[.val (.ref a), .val (.ref r), .val (.ref g)] [(.ref sc), (.ref b)]))
  refine own_st (fun _ kS => XS.dup X326.here hx rfl (hb hby own_d10_25) rfl rfl kS) ?_
  show OFin p e below s _ _ _ (T326.setTop (mkF m 26 #[.val (.ref a), .val (.ref r), .val (.ref g)] [(.ref sc), (.ref sc), (.ref b)]))
  refine own_st (fun _ kS => XS.aloadN X326.here hx rfl (hb hby own_d10_26) rfl rfl kS) ?_
  show OFin p e below s _ _ _ (T326.setTop (mkF m 27 #[.val (.ref a), .val (.ref r), .val (.ref g)] [(.ref r), (.ref sc), (.ref sc), (.ref b)]))
  refine own_st (fun _ kS => XS.aloadN X326.here hx rfl (hb hby own_d10_27) rfl rfl kS) ?_
  show OFin p e below s _ _ _ (T326.setTop (mkF m 28 #[.val (.ref a), .val (.ref r), .val (.ref g)] [(.ref g), (.ref r), (.ref sc), (.ref sc), (.ref b)]))
  refine own_st (fun _ kS => XS.aconstNull X326.here hx rfl (hb hby own_d10_28) kS) ?_
  show OFin p e below s _ _ _ (T326.setTop (mkF m 29 #[.val (.ref a), .val (.ref r), .val (.ref g)] [.null, (.ref g), (.ref r), (.ref sc), (.ref sc), (.ref b)]))
  obtain ⟨v341, T341, L341, X341, hQ341, st341⟩ := own_init X326 hx hZ (y := (⟨"com/example/notation_search/notationsearch/math/Row$Script", "<init>", "(Lcom/example/notation_search/notationsearch/math/Relation;Lcom/example/notation_search/notationsearch/math/Row;Lcom/example/notation_search/notationsearch/math/Symbol;)V"⟩ : MethodName)) (rm := ⟨2, 0, 0, 24⟩) (W := 2) (a := sc) (argsL := [(.ref r), (.ref g), .null]) (rest := [(.ref sc), (.ref b)]) rfl hown (own_w hw 105 rfl) (own_w hw 106 rfl) (own_w hw 104 rfl) (own_w hw 107 rfl) (rmSc l Z a0 hw sc r g h326 n0 A326 f338 f339 f340 g_sc) e326 (g := (mkF m 29 #[.val (.ref a), .val (.ref r), .val (.ref g)] [.null, (.ref g), (.ref r), (.ref sc), (.ref sc), (.ref b)])) rfl (by rw [hml]; rfl) (lenOf own_pd11 rfl) rfl (by show 2 * 0 + _ ≤ _; exact Nat.le_of_eq rfl) (hb hby own_d10_29) (by decide) (by decide) (by decide) (by decide)
  obtain ⟨rfl, N341, K341, B341_0⟩ := hQ341
  have fr341 := Fr.app fr312 N341
  clear fr312 N341
  have kp341 := kp326.trans K341 (allS (Or.inr kz_sc) all0)
  clear kp326
  have od341 := od326.keep K341 (allS g_sc all0)
  clear od326
  have f342 := f327.keep K341
  clear f327
  have f343 := f328.keep K341 (ninS ne_a_sc nin0)
  clear f328
  have f344 := f329.keep K341 (ninS ne_a_sc nin0)
  clear f329
  have f345 := f330.keep K341 (ninS ne_a_sc nin0)
  clear f330
  have f346 := f331.keep K341 (ninS ne_a_sc nin0)
  clear f331
  have f347 := f332.keep K341 (ninS ne_a_sc nin0)
  clear f332
  have f348 := f333.keep K341 (ninS ne_a_sc nin0)
  clear f333
  have f349 := f334.keep K341
  clear f334
  have f350 := f335.keep K341 (ninS ne_b_sc nin0)
  clear f335
  have f351 := f336.keep K341 (ninS ne_b_sc nin0)
  clear f336
  have f352 := f337.keep K341 (ninS ne_b_sc nin0)
  clear f337
  have f353 := A326.keep K341
  clear f338
  clear f339
  clear f340
  have sz341 : n0 ≤ T341.heap.size := Nat.le_trans sz326 K341.1
  clear sz326
  clear K341
  obtain ⟨u357, u358, u359, u360⟩ := B341_0
  refine own_st (st341) ?_
  clear st341 X326 e326
  show OFin p e below s _ _ _ (T341.setTop (mkF m 32 #[.val (.ref a), .val (.ref r), .val (.ref g)] [(.ref sc), (.ref b)]))
  obtain ⟨v361, T361, L361, X361, hQ361, st361⟩ := own_face X341 hx hZ (y := (⟨"java/util/List", "add", "(Ljava/lang/Object;)Z"⟩ : MethodName)) (z := (⟨"java/util/ArrayList", "add", "(Ljava/lang/Object;)Z"⟩ : MethodName)) (rm := ⟨4, 1, 10, 56⟩) (W := 0) (a := b) (argsL := [(.ref sc)]) (rest := []) hown (own_w hw 120 rfl) (own_w hw 121 rfl) (mvT hZ (own_w hw 122 rfl)) (own_w hw 123 rfl) (own_w hw 124 rfl) (own_w hw 125 rfl) (own_w hw 126 rfl) (own_w hw 127 rfl) (own_w hw 80 rfl) (own_w hw 128 rfl) (rmA0 l Z a0 hw b sc T341.heap n0 sz341 dc f349 f350 f351 f352 g_b u357 od341 S_dc A_dc) rfl f349 (g := (mkF m 32 #[.val (.ref a), .val (.ref r), .val (.ref g)] [(.ref sc), (.ref b)])) rfl (by rw [hml]; rfl) (lenOf own_pd12 rfl) rfl (by show 2 * 0 + _ ≤ _; exact Nat.le_of_eq rfl) (hb hby own_d10_32) (by decide) (by decide) (by decide) (by decide)
  obtain ⟨rfl, N361, K361, ar, ge_ar, BB361⟩ := hQ361
  have ne_a_ar : a ≠ ar := Nat.ne_of_lt (Nat.lt_of_lt_of_le f342.lt ge_ar)
  have ne_b_ar : b ≠ ar := Nat.ne_of_lt (Nat.lt_of_lt_of_le f349.lt ge_ar)
  have ne_sc_ar : sc ≠ ar := Nat.ne_of_lt (Nat.lt_of_lt_of_le u357.lt ge_ar)
  have g_ar : n0 ≤ ar := Nat.le_trans sz341 ge_ar
  have kz_ar := Nat.le_trans kp341.1 ge_ar
  have fr361 := Fr.app fr341 N361
  have kp361 := kp341.trans K361 (allS (Or.inr kz_b) all0)
  have od361 := od341.keep K361 (allS g_b all0)
  clear od341
  have f362 := f342.keep K361
  clear f342
  have f363 := f343.keep K361 (ninS ne_a_b nin0)
  clear f343
  have f364 := f344.keep K361 (ninS ne_a_b nin0)
  clear f344
  have f365 := f345.keep K361 (ninS ne_a_b nin0)
  clear f345
  have f366 := f346.keep K361 (ninS ne_a_b nin0)
  clear f346
  have f367 := f347.keep K361 (ninS ne_a_b nin0)
  clear f347
  have f368 := f348.keep K361 (ninS ne_a_b nin0)
  clear f348
  have f369 := f349.keep K361
  clear f349
  clear f350
  clear f351
  clear f352
  have f373 := u357.keep K361
  clear u357
  have f374 := u358.keep K361 (ninS (Ne.symm ne_b_sc) nin0)
  clear u358
  have f375 := u359.keep K361 (ninS (Ne.symm ne_b_sc) nin0)
  clear u359
  have f376 := u360.keep K361 (ninS (Ne.symm ne_b_sc) nin0)
  clear u360
  have sz361 : n0 ≤ T361.heap.size := Nat.le_trans sz341 K361.1
  clear sz341
  refine own_st (st361) ?_
  clear st361 X341
  show OFin p e below s _ _ _ (T361.setTop (mkF m 37 #[.val (.ref a), .val (.ref r), .val (.ref g)] [(.int (1 : Int32))]))
  refine own_st (fun _ kS => XS.pop X361.here hx rfl (hb hby own_d10_37) rfl rfl kS) ?_
  show OFin p e below s _ _ _ (T361.setTop (mkF m 38 #[.val (.ref a), .val (.ref r), .val (.ref g)] []))
  exact own_retV X361 hx hret hlk (hb hby own_d10_38) (by decide) (by decide) (by show _ ∧ _ ∧ Keep h0 T361.heap _ ∧ _; exact ⟨rfl, fr361, kp361, b, kz_b, ar, kz_ar, sc, kz_sc, ne_b_ar, ne_b_sc, (Ne.symm ne_sc_ar), ⟨f362, f363, f364, f365, f366, f367, f368⟩, BB361, ⟨f373, f374, f375, f376⟩⟩)
set_option maxRecDepth 65536 in
set_option maxHeartbeats 40000000 in
theorem rmHn (l : Launch) (Z : State) (a0 : Array Value) (hw : ∀ d ∈ tables_1, d.before a0 Z = true) (a : Addr) (r : Addr) (g : Addr) (h0 : Heap) (n0 : Nat) (Z0 : n0 ≤ h0.size) (cn b ar : Addr) (n n2 : Int32) (f : Nat → Value) (j : Nat) (c1 : ¬ n < 0) (hj : n.toNatClampNeg = j) (hi : j < 10) (hn : ¬ n = (10 : Int32)) (hn2 : n + (1 : Int32) = n2) (B_a : BR Z h0 a cn (.ref b)) (B_b : BL Z h0 b ar n n f) (ne_a_b : a ≠ b) (ne_a_ar : a ≠ ar) (ne_b_ar : b ≠ ar) (g_b : n0 ≤ b) (g_ar : n0 ≤ ar) :
    OMet l Z (⟨"com/example/notation_search/notationsearch/math/Row", "hold", "(Lcom/example/notation_search/notationsearch/math/Relation;Lcom/example/notation_search/notationsearch/math/Row;)V"⟩ : MethodName) prog_33_method_7_code 3 none (⟨3, 1, 3, 41⟩ : Room) #[(.ref a), (.ref r), (.ref g)] h0 (fun v h L => v = none ∧ Fr n0 L ∧ Keep h0 h [b, ar] ∧ ∃ sc, h0.size ≤ sc ∧ BL Z h b ar n2 n2 (fun i => if i = j then .ref sc else f i) ∧ BS Z h sc r g) := by
  refine own_enter own_pn10 ?_
  intro p e s m below meth c T0 X0 hC e0
  obtain ⟨hx, hZ, hby, hml, hown, hret, hlk, hnm⟩ := hC
  have hown : s.vm.findClass "com/example/notation_search/notationsearch/math/Row" = some m.cls := hown
  refine own_at (own_ef10_RRR m a r g) ?_
  show OFin p e below s _ _ _ (T0.setTop (mkF m 0 #[.val (.ref a), .val (.ref r), .val (.ref g)] []))
  have N0 := Fr.nil n0
  have kp0 := Keep.refl h0 [b, ar]
  obtain ⟨u377, u378, u379, u380, u381, u382, u383⟩ := B_a
  obtain ⟨u384, u385, u386, u387, u388⟩ := B_b
  refine own_st (fun _ kS => XS.aloadN X0.here hx rfl (hb hby own_d10_0) rfl rfl kS) ?_
  show OFin p e below s _ _ _ (T0.setTop (mkF m 1 #[.val (.ref a), .val (.ref r), .val (.ref g)] [(.ref a)]))
  obtain ⟨T389, X389, e389, st389⟩ := getF X0 hx hZ hown (host := "") (Or.inl (own_w hw 34 rfl)) Via.refl e0 u383 (g := (mkF m 1 #[.val (.ref a), .val (.ref r), .val (.ref g)] [(.ref a)])) rfl rfl (hb hby own_d10_1)
  refine own_st (st389) ?_
  clear st389 X0 e0
  show OFin p e below s _ _ _ (T389.setTop (mkF m 4 #[.val (.ref a), .val (.ref r), .val (.ref g)] [(.ref b)]))
  refine own_st (fun _ kS => XS.ifnonnullYes X389.here hx rfl (pc0 := 4) (pc' := 18) rfl (hb hby own_d10_4) rfl (by decide) (by decide) kS) ?_
  show OFin p e below s _ _ _ (T389.setTop (mkF m 18 #[.val (.ref a), .val (.ref r), .val (.ref g)] []))
  refine own_st (fun _ kS => XS.aloadN X389.here hx rfl (hb hby own_d10_18) rfl rfl kS) ?_
  show OFin p e below s _ _ _ (T389.setTop (mkF m 19 #[.val (.ref a), .val (.ref r), .val (.ref g)] [(.ref a)]))
  obtain ⟨T390, X390, e390, st390⟩ := getF X389 hx hZ hown (host := "") (Or.inl (own_w hw 34 rfl)) Via.refl e389 u383 (g := (mkF m 19 #[.val (.ref a), .val (.ref r), .val (.ref g)] [(.ref a)])) rfl rfl (hb hby own_d10_19)
  refine own_st (st390) ?_
  clear st390 X389 e389
  show OFin p e below s _ _ _ (T390.setTop (mkF m 22 #[.val (.ref a), .val (.ref r), .val (.ref g)] [(.ref b)]))
  obtain ⟨T391, h391, X391, e391, E391, A391, D391, -, st391⟩ := newO X390 hx hZ hown (own_w hw 102 rfl) (own_w hw 103 rfl) (own_w hw 104 rfl) e390 (g := (mkF m 22 #[.val (.ref a), .val (.ref r), .val (.ref g)] [(.ref b)])) rfl (hb hby own_d10_22) (by decide) (by decide)
  obtain ⟨sc, g391⟩ : ∃ z, z = h0.size := ⟨_, rfl⟩
  rw [← g391] at A391 D391 st391
  have ne_a_sc : a ≠ sc := Nat.ne_of_lt (Nat.lt_of_lt_of_le u377.lt (Nat.le_of_eq g391.symm))
  have ne_ar_sc : ar ≠ sc := Nat.ne_of_lt (Nat.lt_of_lt_of_le u388.lt (Nat.le_of_eq g391.symm))
  have ne_b_sc : b ≠ sc := Nat.ne_of_lt (Nat.lt_of_lt_of_le u384.lt (Nat.le_of_eq g391.symm))
  have g_sc : n0 ≤ sc := Nat.le_trans Z0 (Nat.le_of_eq g391.symm)
  have f392 := u377.ext E391
  clear u377
  have f393 := u378.ext E391
  clear u378
  have f394 := u379.ext E391
  clear u379
  have f395 := u380.ext E391
  clear u380
  have f396 := u381.ext E391
  clear u381
  have f397 := u382.ext E391
  clear u382
  have f398 := u383.ext E391
  clear u383
  have f399 := u384.ext E391
  clear u384
  have f400 := u385.ext E391
  clear u385
  have f401 := u386.ext E391
  clear u386
  have f402 := u387.ext E391
  clear u387
  have f403 := u388.ext E391
  clear u388
  have f404 : Fld Z h391 sc "com/example/notation_search/notationsearch/math/Row$Script" "relation" "Lcom/example/notation_search/notationsearch/math/Relation;" .null := D391 (Or.inr (own_w hw 115 rfl)) (ty := (.object "com/example/notation_search/notationsearch/math/Relation")) (by decide)
  have f405 : Fld Z h391 sc "com/example/notation_search/notationsearch/math/Row$Script" "region" "Lcom/example/notation_search/notationsearch/math/Row;" .null := D391 (Or.inr (own_w hw 117 rfl)) (ty := (.object "com/example/notation_search/notationsearch/math/Row")) (by decide)
  have f406 : Fld Z h391 sc "com/example/notation_search/notationsearch/math/Row$Script" "before" "Lcom/example/notation_search/notationsearch/math/Symbol;" .null := D391 (Or.inr (own_w hw 119 rfl)) (ty := (.object "com/example/notation_search/notationsearch/math/Symbol")) (by decide)
  have sz391 : n0 ≤ h391.size := Nat.le_trans Z0 E391.1
  have kp391 := kp0.ext E391
  have kz_sc := Nat.le_trans kp0.1 (Nat.le_of_eq g391.symm)
  clear kp0
  refine own_st (st391) ?_
  clear st391 X390 e390 E391 D391 g391
  show OFin p e below s _ _ _ (T391.setTop (mkF m 25 #[.val (.ref a), .val (.ref r), .val (.ref g)] [(.ref sc), (.ref b)]))
  refine own_st (fun _ kS => XS.dup X391.here hx rfl (hb hby own_d10_25) rfl rfl kS) ?_
  show OFin p e below s _ _ _ (T391.setTop (mkF m 26 #[.val (.ref a), .val (.ref r), .val (.ref g)] [(.ref sc), (.ref sc), (.ref b)]))
  refine own_st (fun _ kS => XS.aloadN X391.here hx rfl (hb hby own_d10_26) rfl rfl kS) ?_
  show OFin p e below s _ _ _ (T391.setTop (mkF m 27 #[.val (.ref a), .val (.ref r), .val (.ref g)] [(.ref r), (.ref sc), (.ref sc), (.ref b)]))
  refine own_st (fun _ kS => XS.aloadN X391.here hx rfl (hb hby own_d10_27) rfl rfl kS) ?_
  show OFin p e below s _ _ _ (T391.setTop (mkF m 28 #[.val (.ref a), .val (.ref r), .val (.ref g)] [(.ref g), (.ref r), (.ref sc), (.ref sc), (.ref b)]))
  refine own_st (fun _ kS => XS.aconstNull X391.here hx rfl (hb hby own_d10_28) kS) ?_
  show OFin p e below s _ _ _ (T391.setTop (mkF m 29 #[.val (.ref a), .val (.ref r), .val (.ref g)] [.null, (.ref g), (.ref r), (.ref sc), (.ref sc), (.ref b)]))
  obtain ⟨v407, T407, L407, X407, hQ407, st407⟩ := own_init X391 hx hZ (y := (⟨"com/example/notation_search/notationsearch/math/Row$Script", "<init>", "(Lcom/example/notation_search/notationsearch/math/Relation;Lcom/example/notation_search/notationsearch/math/Row;Lcom/example/notation_search/notationsearch/math/Symbol;)V"⟩ : MethodName)) (rm := ⟨2, 0, 0, 24⟩) (W := 2) (a := sc) (argsL := [(.ref r), (.ref g), .null]) (rest := [(.ref sc), (.ref b)]) rfl hown (own_w hw 105 rfl) (own_w hw 106 rfl) (own_w hw 104 rfl) (own_w hw 107 rfl) (rmSc l Z a0 hw sc r g h391 n0 A391 f404 f405 f406 g_sc) e391 (g := (mkF m 29 #[.val (.ref a), .val (.ref r), .val (.ref g)] [.null, (.ref g), (.ref r), (.ref sc), (.ref sc), (.ref b)])) rfl (by rw [hml]; rfl) (lenOf own_pd11 rfl) rfl (by show 2 * 0 + _ ≤ _; exact Nat.le_of_eq rfl) (hb hby own_d10_29) (by decide) (by decide) (by decide) (by decide)
  obtain ⟨rfl, N407, K407, B407_0⟩ := hQ407
  have fr407 := Fr.app N0 N407
  clear N0 N407
  have kp407 := kp391.trans K407 (allS (Or.inr kz_sc) all0)
  clear kp391
  have f408 := f392.keep K407
  clear f392
  have f409 := f393.keep K407 (ninS ne_a_sc nin0)
  clear f393
  have f410 := f394.keep K407 (ninS ne_a_sc nin0)
  clear f394
  have f411 := f395.keep K407 (ninS ne_a_sc nin0)
  clear f395
  have f412 := f396.keep K407 (ninS ne_a_sc nin0)
  clear f396
  have f413 := f397.keep K407 (ninS ne_a_sc nin0)
  clear f397
  have f414 := f398.keep K407 (ninS ne_a_sc nin0)
  clear f398
  have f415 := f399.keep K407
  clear f399
  have f416 := f400.keep K407 (ninS ne_b_sc nin0)
  clear f400
  have f417 := f401.keep K407 (ninS ne_b_sc nin0)
  clear f401
  have f418 := f402.keep K407 (ninS ne_b_sc nin0)
  clear f402
  have f419 := f403.keep K407 (ninS ne_ar_sc nin0)
  clear f403
  have f420 := A391.keep K407
  clear f404
  clear f405
  clear f406
  have sz407 : n0 ≤ T407.heap.size := Nat.le_trans sz391 K407.1
  clear sz391
  clear K407
  obtain ⟨u424, u425, u426, u427⟩ := B407_0
  refine own_st (st407) ?_
  clear st407 X391 e391
  show OFin p e below s _ _ _ (T407.setTop (mkF m 32 #[.val (.ref a), .val (.ref r), .val (.ref g)] [(.ref sc), (.ref b)]))
  obtain ⟨v428, T428, L428, X428, hQ428, st428⟩ := own_face X407 hx hZ (y := (⟨"java/util/List", "add", "(Ljava/lang/Object;)Z"⟩ : MethodName)) (z := (⟨"java/util/ArrayList", "add", "(Ljava/lang/Object;)Z"⟩ : MethodName)) (rm := ⟨1, 0, 0, 15⟩) (W := 0) (a := b) (argsL := [(.ref sc)]) (rest := []) hown (own_w hw 120 rfl) (own_w hw 121 rfl) (mvT hZ (own_w hw 122 rfl)) (own_w hw 123 rfl) (own_w hw 124 rfl) (own_w hw 125 rfl) (own_w hw 126 rfl) (own_w hw 127 rfl) (own_w hw 80 rfl) (own_w hw 128 rfl) (rmAn l Z a0 hw b sc T407.heap n0 ar n n2 f j c1 hj hi hn hn2 ⟨f415, f416, f417, f418, f419⟩ ne_b_ar g_b g_ar u424) rfl f415 (g := (mkF m 32 #[.val (.ref a), .val (.ref r), .val (.ref g)] [(.ref sc), (.ref b)])) rfl (by rw [hml]; rfl) (lenOf own_pd12 rfl) rfl (by show 2 * 0 + _ ≤ _; exact Nat.le_of_eq rfl) (hb hby own_d10_32) (by decide) (by decide) (by decide) (by decide)
  obtain ⟨rfl, N428, K428, B428_0⟩ := hQ428
  have fr428 := Fr.app fr407 N428
  clear fr407 N428
  have kp428 := kp407.trans K428 (allS (Or.inl (List.mem_of_getElem? (i := 0) rfl)) (allS (Or.inl (List.mem_of_getElem? (i := 1) rfl)) all0))
  clear kp407
  have f429 := f408.keep K428
  clear f408
  have f430 := f409.keep K428 (ninS ne_a_b (ninS ne_a_ar nin0))
  clear f409
  have f431 := f410.keep K428 (ninS ne_a_b (ninS ne_a_ar nin0))
  clear f410
  have f432 := f411.keep K428 (ninS ne_a_b (ninS ne_a_ar nin0))
  clear f411
  have f433 := f412.keep K428 (ninS ne_a_b (ninS ne_a_ar nin0))
  clear f412
  have f434 := f413.keep K428 (ninS ne_a_b (ninS ne_a_ar nin0))
  clear f413
  have f435 := f414.keep K428 (ninS ne_a_b (ninS ne_a_ar nin0))
  clear f414
  have f436 := f415.keep K428
  clear f415
  clear f416
  clear f417
  clear f418
  clear f419
  have f441 := u424.keep K428
  clear u424
  have f442 := u425.keep K428 (ninS (Ne.symm ne_b_sc) (ninS (Ne.symm ne_ar_sc) nin0))
  clear u425
  have f443 := u426.keep K428 (ninS (Ne.symm ne_b_sc) (ninS (Ne.symm ne_ar_sc) nin0))
  clear u426
  have f444 := u427.keep K428 (ninS (Ne.symm ne_b_sc) (ninS (Ne.symm ne_ar_sc) nin0))
  clear u427
  have sz428 : n0 ≤ T428.heap.size := Nat.le_trans sz407 K428.1
  clear sz407
  clear K428
  obtain ⟨u445, u446, u447, u448, u449⟩ := B428_0
  refine own_st (st428) ?_
  clear st428 X407
  show OFin p e below s _ _ _ (T428.setTop (mkF m 37 #[.val (.ref a), .val (.ref r), .val (.ref g)] [(.int (1 : Int32))]))
  refine own_st (fun _ kS => XS.pop X428.here hx rfl (hb hby own_d10_37) rfl rfl kS) ?_
  show OFin p e below s _ _ _ (T428.setTop (mkF m 38 #[.val (.ref a), .val (.ref r), .val (.ref g)] []))
  exact own_retV X428 hx hret hlk (hb hby own_d10_38) (by decide) (by decide) (by show _ ∧ _ ∧ Keep h0 T428.heap _ ∧ _; exact ⟨rfl, fr428, kp428, sc, kz_sc, ⟨u445, u446, u447, u448, u449⟩, ⟨f441, f442, f443, f444⟩⟩)
set_option maxRecDepth 65536 in
set_option maxHeartbeats 40000000 in
theorem own_c0 {l : Launch} {Z : State} {a0 : Array Value} (hw : ∀ d ∈ tables_1, d.before a0 Z = true) {p : Program} {e : Env} {s : State} {m : MethodId} {args : Array Value} {below : List Frame} {meth : Method} {c : Code} (hC : OCtx Z p s m meth c "com/example/notation_search/notationsearch/math/RowReleasePinLaw" "law" code maxLocals ret) {T0 : State} {locs : List Loc} {cells slots : Nat} (X0 : Stand p l e room_1 s m args below meth c T0 locs cells slots) {h0 : Heap} (e0 : T0.heap = h0) (n0 : Nat) (Z0 : n0 ≤ h0.size) (p1 p2 p3 p4 p5 : Int32) (cn row r1 r2 ra rb rc : Addr) (el em dc : Addr) (S_el : Sta Z Z.heap "java/util/ImmutableCollections" "EMPTY_LIST" "Ljava/util/ImmutableCollections$ListN;" (.ref el)) (E_el : Exa Z Z.heap el "java/util/ImmutableCollections$ListN") (F_el : Fld Z Z.heap el "java/util/ImmutableCollections$ListN" "elements" "[Ljava/lang/Object;" (.ref em)) (A_em : OArr Z Z.heap em (.object "java/lang/Object") 0 (fun _ => .null)) (S_dc : Sta Z Z.heap "java/util/ArrayList" "DEFAULTCAPACITY_EMPTY_ELEMENTDATA" "[Ljava/lang/Object;" (.ref dc)) (A_dc : OArr Z Z.heap dc (.object "java/lang/Object") 0 (fun _ => .null)) (N0 : Fr n0 locs) (O : Old Z n0 h0) (g_row : n0 ≤ row) (B_r : BR Z h0 row cn .null) (hcs : cells = 4) (hss : slots = 20) :
    OFin p e below s room_1.cells room_1.slots (fun v h L => v = some (.int (1 : Int32)) ∧ Fr n0 L) (T0.setTop (mkF m 262 #[.val (.int p1), .val (.int p2), .val (.int p3), .val (.int p4), .val (.int p5), .val (.ref cn), .val (.ref row), .val (.ref r1), .val (.ref r2), .val (.int (0 : Int32)), .val (.ref ra), .val (.ref rb), .val (.ref rc), .val (.ref el), .val (.ref el), .unset] [])) := by
  have hC0 := hC
  obtain ⟨hx, hZ, hby, hml, hown, hret, hlk, hnm⟩ := hC
  subst hcs hss
  obtain ⟨u450, u451, u452, u453, u454, u455, u456⟩ := B_r
  refine own_st (fun _ kS => XS.iload X0.here hx rfl (hb hby at_262) rfl kS) ?_
  show OFin p e below s _ _ _ (T0.setTop (mkF m 264 #[.val (.int p1), .val (.int p2), .val (.int p3), .val (.int p4), .val (.int p5), .val (.ref cn), .val (.ref row), .val (.ref r1), .val (.ref r2), .val (.int (0 : Int32)), .val (.ref ra), .val (.ref rb), .val (.ref rc), .val (.ref el), .val (.ref el), .unset] [(.int p5)]))
  refine own_st (fun _ kS => XS.iconst X0.here hx rfl (hb hby at_264) kS) ?_
  show OFin p e below s _ _ _ (T0.setTop (mkF m 265 #[.val (.int p1), .val (.int p2), .val (.int p3), .val (.int p4), .val (.int p5), .val (.ref cn), .val (.ref row), .val (.ref r1), .val (.ref r2), .val (.int (0 : Int32)), .val (.ref ra), .val (.ref rb), .val (.ref rc), .val (.ref el), .val (.ref el), .unset] [(.int (2 : Int32)), (.int p5)]))
  refine own_st (fun _ kS => XS.iand X0.here hx rfl (hb hby at_265) rfl kS) ?_
  show OFin p e below s _ _ _ (T0.setTop (mkF m 266 #[.val (.int p1), .val (.int p2), .val (.int p3), .val (.int p4), .val (.int p5), .val (.ref cn), .val (.ref row), .val (.ref r1), .val (.ref r2), .val (.int (0 : Int32)), .val (.ref ra), .val (.ref rb), .val (.ref rc), .val (.ref el), .val (.ref el), .unset] [(.int (p5 &&& (2 : Int32)))]))
  by_cases c1 : (p5 &&& (2 : Int32)) = (0 : Int32)
  · refine own_st (fun _ kS => XS.ifYes X0.here hx rfl (pc0 := 266) (pc' := 331) rfl (hb hby at_266) rfl ((if0 _ _).trans (teq c1).1) (by decide) (by decide) kS) ?_
    show OFin p e below s _ _ _ (T0.setTop (mkF m 331 #[.val (.int p1), .val (.int p2), .val (.int p3), .val (.int p4), .val (.int p5), .val (.ref cn), .val (.ref row), .val (.ref r1), .val (.ref r2), .val (.int (0 : Int32)), .val (.ref ra), .val (.ref rb), .val (.ref rc), .val (.ref el), .val (.ref el), .unset] []))
    refine own_st (fun _ kS => XS.iconst X0.here hx rfl (hb hby at_331) kS) ?_
    show OFin p e below s _ _ _ (T0.setTop (mkF m 332 #[.val (.int p1), .val (.int p2), .val (.int p3), .val (.int p4), .val (.int p5), .val (.ref cn), .val (.ref row), .val (.ref r1), .val (.ref r2), .val (.int (0 : Int32)), .val (.ref ra), .val (.ref rb), .val (.ref rc), .val (.ref el), .val (.ref el), .unset] [(.int (1 : Int32))]))
    exact own_ret X0 hx (t := .boolean) hret hlk rfl (Or.inl ⟨rfl, by simp, _, rfl⟩) (hb hby at_332) (by decide) (by decide) ⟨rfl, N0⟩
  · refine own_st (fun _ kS => XS.ifNo X0.here hx rfl (hb hby at_266) rfl ((if0 _ _).trans (feq c1).1) kS) ?_
    show OFin p e below s _ _ _ (T0.setTop (mkF m 269 #[.val (.int p1), .val (.int p2), .val (.int p3), .val (.int p4), .val (.int p5), .val (.ref cn), .val (.ref row), .val (.ref r1), .val (.ref r2), .val (.int (0 : Int32)), .val (.ref ra), .val (.ref rb), .val (.ref rc), .val (.ref el), .val (.ref el), .unset] []))
    refine own_st (fun _ kS => XS.aload X0.here hx rfl (hb hby at_269) rfl rfl kS) ?_
    show OFin p e below s _ _ _ (T0.setTop (mkF m 271 #[.val (.int p1), .val (.int p2), .val (.int p3), .val (.int p4), .val (.int p5), .val (.ref cn), .val (.ref row), .val (.ref r1), .val (.ref r2), .val (.int (0 : Int32)), .val (.ref ra), .val (.ref rb), .val (.ref rc), .val (.ref el), .val (.ref el), .unset] [(.ref row)]))
    refine own_st (fun _ kS => XS.aload X0.here hx rfl (hb hby at_271) rfl rfl kS) ?_
    show OFin p e below s _ _ _ (T0.setTop (mkF m 273 #[.val (.int p1), .val (.int p2), .val (.int p3), .val (.int p4), .val (.int p5), .val (.ref cn), .val (.ref row), .val (.ref r1), .val (.ref r2), .val (.int (0 : Int32)), .val (.ref ra), .val (.ref rb), .val (.ref rc), .val (.ref el), .val (.ref el), .unset] [(.ref rc), (.ref row)]))
    refine own_st (fun _ kS => XS.aload X0.here hx rfl (hb hby at_273) rfl rfl kS) ?_
    show OFin p e below s _ _ _ (T0.setTop (mkF m 275 #[.val (.int p1), .val (.int p2), .val (.int p3), .val (.int p4), .val (.int p5), .val (.ref cn), .val (.ref row), .val (.ref r1), .val (.ref r2), .val (.int (0 : Int32)), .val (.ref ra), .val (.ref rb), .val (.ref rc), .val (.ref el), .val (.ref el), .unset] [(.ref r1), (.ref rc), (.ref row)]))
    obtain ⟨v457, T457, L457, X457, hQ457, st457⟩ := own_virtual X0 hx hZ (y := (⟨"com/example/notation_search/notationsearch/math/Row", "hold", "(Lcom/example/notation_search/notationsearch/math/Relation;Lcom/example/notation_search/notationsearch/math/Row;)V"⟩ : MethodName)) (z := (⟨"com/example/notation_search/notationsearch/math/Row", "hold", "(Lcom/example/notation_search/notationsearch/math/Relation;Lcom/example/notation_search/notationsearch/math/Row;)V"⟩ : MethodName)) (rm := ⟨5, 3, 16, 69⟩) (W := 0) (a := row) (argsL := [(.ref rc), (.ref r1)]) (rest := []) hown (own_w hw 73 rfl) (own_w hw 74 rfl) (notFace_of_selects (args := #[]) (mvT hZ (own_w hw 76 rfl))) (own_w hw 76 rfl) (own_w hw 75 rfl) (own_w hw 11 rfl) (own_w hw 77 rfl) (rmH0 l Z a0 hw row rc r1 h0 n0 Z0 cn dc ⟨u450, u451, u452, u453, u454, u455, u456⟩ g_row O S_dc A_dc) e0 u450 (g := (mkF m 275 #[.val (.int p1), .val (.int p2), .val (.int p3), .val (.int p4), .val (.int p5), .val (.ref cn), .val (.ref row), .val (.ref r1), .val (.ref r2), .val (.int (0 : Int32)), .val (.ref ra), .val (.ref rb), .val (.ref rc), .val (.ref el), .val (.ref el), .unset] [(.ref r1), (.ref rc), (.ref row)])) rfl (by rw [hml]; rfl) (lenOf own_pd13 rfl) rfl (by show 2 * 0 + _ ≤ _; exact Nat.le_of_eq rfl) (hb hby at_275) (by decide) (by decide) (by decide) (by decide)
    obtain ⟨rfl, N457, K457, b2, ge_b2, ar2, ge_ar2, s2, ge_s2, ne_b2_ar2, ne_b2_s2, ne_ar2_s2, B457_0, B457_1, B457_2⟩ := hQ457
    have ne_row_b2 : row ≠ b2 := Nat.ne_of_lt (Nat.lt_of_lt_of_le u450.lt ge_b2)
    have g_b2 : n0 ≤ b2 := Nat.le_trans Z0 ge_b2
    have ne_row_ar2 : row ≠ ar2 := Nat.ne_of_lt (Nat.lt_of_lt_of_le u450.lt ge_ar2)
    have g_ar2 : n0 ≤ ar2 := Nat.le_trans Z0 ge_ar2
    have ne_row_s2 : row ≠ s2 := Nat.ne_of_lt (Nat.lt_of_lt_of_le u450.lt ge_s2)
    have g_s2 : n0 ≤ s2 := Nat.le_trans Z0 ge_s2
    have fr457 := Fr.app N0 N457
    clear N0 N457
    have od457 := O.keep K457 (allS g_row all0)
    have f458 := u450.keep K457
    clear u450
    clear u451
    clear u452
    clear u453
    clear u454
    clear u455
    clear u456
    have sz457 : n0 ≤ T457.heap.size := Nat.le_trans Z0 K457.1
    clear K457
    obtain ⟨u465, u466, u467, u468, u469, u470, u471⟩ := B457_0
    obtain ⟨u472, u473, u474, u475, u476⟩ := B457_1
    obtain ⟨u477, u478, u479, u480⟩ := B457_2
    refine own_st (st457) ?_
    clear st457 X0 e0
    show OFin p e below s _ _ _ (T457.setTop (mkF m 278 #[.val (.int p1), .val (.int p2), .val (.int p3), .val (.int p4), .val (.int p5), .val (.ref cn), .val (.ref row), .val (.ref r1), .val (.ref r2), .val (.int (0 : Int32)), .val (.ref ra), .val (.ref rb), .val (.ref rc), .val (.ref el), .val (.ref el), .unset] []))
    refine own_st (fun _ kS => XS.aload X457.here hx rfl (hb hby at_278) rfl rfl kS) ?_
    show OFin p e below s _ _ _ (T457.setTop (mkF m 280 #[.val (.int p1), .val (.int p2), .val (.int p3), .val (.int p4), .val (.int p5), .val (.ref cn), .val (.ref row), .val (.ref r1), .val (.ref r2), .val (.int (0 : Int32)), .val (.ref ra), .val (.ref rb), .val (.ref rc), .val (.ref el), .val (.ref el), .unset] [(.ref row)]))
    obtain ⟨v481, T481, L481, X481, hQ481, st481⟩ := own_virtual X457 hx hZ (y := (⟨"com/example/notation_search/notationsearch/math/Row", "release", "()Ljava/util/List;"⟩ : MethodName)) (z := (⟨"com/example/notation_search/notationsearch/math/Row", "release", "()Ljava/util/List;"⟩ : MethodName)) (rm := ⟨0, 0, 0, 0⟩) (W := 0) (a := row) (argsL := []) (rest := []) hown (own_w hw 29 rfl) (own_w hw 30 rfl) (notFace_of_selects (args := #[]) (mvT hZ (own_w hw 32 rfl))) (own_w hw 32 rfl) (own_w hw 31 rfl) (own_w hw 11 rfl) (own_w hw 33 rfl) (rmRW l Z a0 hw row T457.heap n0 cn b2 ⟨u465, u466, u467, u468, u469, u470, u471⟩ g_row) rfl u465 (g := (mkF m 280 #[.val (.int p1), .val (.int p2), .val (.int p3), .val (.int p4), .val (.int p5), .val (.ref cn), .val (.ref row), .val (.ref r1), .val (.ref r2), .val (.int (0 : Int32)), .val (.ref ra), .val (.ref rb), .val (.ref rc), .val (.ref el), .val (.ref el), .unset] [(.ref row)])) rfl (by rw [hml]; rfl) (lenOf own_pd1 rfl) rfl (by show 2 * 0 + _ ≤ _; exact Nat.le_of_eq rfl) (hb hby at_280) (by decide) (by decide) (by decide) (by decide)
    obtain ⟨rfl, N481, K481, B481_0⟩ := hQ481
    have fr481 := Fr.app fr457 N481
    clear fr457 N481
    have od481 := od457.keep K481 (allS g_row all0)
    clear od457
    have f482 := u465.keep K481
    clear u465
    clear u466
    clear u467
    clear u468
    clear u469
    clear u470
    clear u471
    have f489 := u472.keep K481
    clear u472
    have f490 := u473.keep K481 (ninS (Ne.symm ne_row_b2) nin0)
    clear u473
    have f491 := u474.keep K481 (ninS (Ne.symm ne_row_b2) nin0)
    clear u474
    have f492 := u475.keep K481 (ninS (Ne.symm ne_row_b2) nin0)
    clear u475
    have f493 := u476.keep K481 (ninS (Ne.symm ne_row_ar2) nin0)
    clear u476
    have f494 := u477.keep K481
    clear u477
    have f495 := u478.keep K481 (ninS (Ne.symm ne_row_s2) nin0)
    clear u478
    have f496 := u479.keep K481 (ninS (Ne.symm ne_row_s2) nin0)
    clear u479
    have f497 := u480.keep K481 (ninS (Ne.symm ne_row_s2) nin0)
    clear u480
    have sz481 : n0 ≤ T481.heap.size := Nat.le_trans sz457 K481.1
    clear sz457
    clear K481
    obtain ⟨u498, u499, u500, u501, u502, u503, u504⟩ := B481_0
    refine own_st (st481) ?_
    clear st481 X457
    show OFin p e below s _ _ _ (T481.setTop (mkF m 283 #[.val (.int p1), .val (.int p2), .val (.int p3), .val (.int p4), .val (.int p5), .val (.ref cn), .val (.ref row), .val (.ref r1), .val (.ref r2), .val (.int (0 : Int32)), .val (.ref ra), .val (.ref rb), .val (.ref rc), .val (.ref el), .val (.ref el), .unset] [(.ref b2)]))
    refine own_st (fun _ kS => XS.astore X481.here hx rfl (hb hby at_283) rfl rfl (l' := #[.val (.int p1), .val (.int p2), .val (.int p3), .val (.int p4), .val (.int p5), .val (.ref cn), .val (.ref row), .val (.ref r1), .val (.ref r2), .val (.int (0 : Int32)), .val (.ref ra), .val (.ref rb), .val (.ref rc), .val (.ref el), .val (.ref el), .val (.ref b2)]) rfl kS) ?_
    show OFin p e below s _ _ _ (T481.setTop (mkF m 285 #[.val (.int p1), .val (.int p2), .val (.int p3), .val (.int p4), .val (.int p5), .val (.ref cn), .val (.ref row), .val (.ref r1), .val (.ref r2), .val (.int (0 : Int32)), .val (.ref ra), .val (.ref rb), .val (.ref rc), .val (.ref el), .val (.ref el), .val (.ref b2)] []))
    refine own_st (fun _ kS => XS.aload X481.here hx rfl (hb hby at_285) rfl rfl kS) ?_
    show OFin p e below s _ _ _ (T481.setTop (mkF m 287 #[.val (.int p1), .val (.int p2), .val (.int p3), .val (.int p4), .val (.int p5), .val (.ref cn), .val (.ref row), .val (.ref r1), .val (.ref r2), .val (.int (0 : Int32)), .val (.ref ra), .val (.ref rb), .val (.ref rc), .val (.ref el), .val (.ref el), .val (.ref b2)] [(.ref b2)]))
    obtain ⟨v505, T505, L505, X505, hQ505, st505⟩ := own_face X481 hx hZ (y := (⟨"java/util/List", "size", "()I"⟩ : MethodName)) (z := (⟨"java/util/ArrayList", "size", "()I"⟩ : MethodName)) (rm := ⟨0, 0, 0, 0⟩) (W := 0) (a := b2) (argsL := []) (rest := []) hown (own_w hw 42 rfl) (own_w hw 43 rfl) (mvT hZ (own_w hw 44 rfl)) (own_w hw 164 rfl) (own_w hw 165 rfl) (own_w hw 166 rfl) (own_w hw 167 rfl) (own_w hw 127 rfl) (own_w hw 80 rfl) (own_w hw 168 rfl) (rmSz l Z a0 hw b2 T481.heap (1 : Int32) f492) rfl f489 (g := (mkF m 287 #[.val (.int p1), .val (.int p2), .val (.int p3), .val (.int p4), .val (.int p5), .val (.ref cn), .val (.ref row), .val (.ref r1), .val (.ref r2), .val (.int (0 : Int32)), .val (.ref ra), .val (.ref rb), .val (.ref rc), .val (.ref el), .val (.ref el), .val (.ref b2)] [(.ref b2)])) rfl (by rw [hml]; rfl) (lenOf own_pd14 rfl) rfl (by show 2 * 0 + _ ≤ _; exact Nat.le_of_eq rfl) (hb hby at_287) (by decide) (by decide) (by decide) (by decide)
    obtain ⟨rfl, e505, rfl⟩ := hQ505
    rw [List.append_nil] at X505
    refine own_st (st505) ?_
    clear st505 X481
    show OFin p e below s _ _ _ (T505.setTop (mkF m 292 #[.val (.int p1), .val (.int p2), .val (.int p3), .val (.int p4), .val (.int p5), .val (.ref cn), .val (.ref row), .val (.ref r1), .val (.ref r2), .val (.int (0 : Int32)), .val (.ref ra), .val (.ref rb), .val (.ref rc), .val (.ref el), .val (.ref el), .val (.ref b2)] [(.int (1 : Int32))]))
    refine own_st (fun _ kS => XS.iconst X505.here hx rfl (hb hby at_292) kS) ?_
    show OFin p e below s _ _ _ (T505.setTop (mkF m 293 #[.val (.int p1), .val (.int p2), .val (.int p3), .val (.int p4), .val (.int p5), .val (.ref cn), .val (.ref row), .val (.ref r1), .val (.ref r2), .val (.int (0 : Int32)), .val (.ref ra), .val (.ref rb), .val (.ref rc), .val (.ref el), .val (.ref el), .val (.ref b2)] [(.int (1 : Int32)), (.int (1 : Int32))]))
    refine own_st (fun _ kS => XS.icmpNo X505.here hx rfl (hb hby at_293) rfl (teq rfl).2 kS) ?_
    show OFin p e below s _ _ _ (T505.setTop (mkF m 296 #[.val (.int p1), .val (.int p2), .val (.int p3), .val (.int p4), .val (.int p5), .val (.ref cn), .val (.ref row), .val (.ref r1), .val (.ref r2), .val (.int (0 : Int32)), .val (.ref ra), .val (.ref rb), .val (.ref rc), .val (.ref el), .val (.ref el), .val (.ref b2)] []))
    refine own_st (fun _ kS => XS.aload X505.here hx rfl (hb hby at_296) rfl rfl kS) ?_
    show OFin p e below s _ _ _ (T505.setTop (mkF m 298 #[.val (.int p1), .val (.int p2), .val (.int p3), .val (.int p4), .val (.int p5), .val (.ref cn), .val (.ref row), .val (.ref r1), .val (.ref r2), .val (.int (0 : Int32)), .val (.ref ra), .val (.ref rb), .val (.ref rc), .val (.ref el), .val (.ref el), .val (.ref b2)] [(.ref b2)]))
    refine own_st (fun _ kS => XS.iconst X505.here hx rfl (hb hby at_298) kS) ?_
    show OFin p e below s _ _ _ (T505.setTop (mkF m 299 #[.val (.int p1), .val (.int p2), .val (.int p3), .val (.int p4), .val (.int p5), .val (.ref cn), .val (.ref row), .val (.ref r1), .val (.ref r2), .val (.int (0 : Int32)), .val (.ref ra), .val (.ref rb), .val (.ref rc), .val (.ref el), .val (.ref el), .val (.ref b2)] [(.int (0 : Int32)), (.ref b2)]))
    obtain ⟨v506, T506, L506, X506, hQ506, st506⟩ := own_face X505 hx hZ (y := (⟨"java/util/List", "get", "(I)Ljava/lang/Object;"⟩ : MethodName)) (z := (⟨"java/util/ArrayList", "get", "(I)Ljava/lang/Object;"⟩ : MethodName)) (rm := ⟨2, 0, 0, 27⟩) (W := 0) (a := b2) (argsL := [(.int (0 : Int32))]) (rest := []) hown (own_w hw 169 rfl) (own_w hw 170 rfl) (mvT hZ (own_w hw 171 rfl)) (own_w hw 172 rfl) (own_w hw 173 rfl) (own_w hw 174 rfl) (own_w hw 175 rfl) (own_w hw 127 rfl) (own_w hw 80 rfl) (own_w hw 176 rfl) (rmGet l Z a0 hw b2 (0 : Int32) T481.heap ar2 s2 (1 : Int32) (1 : Int32) (fun i => if i = 0 then .ref s2 else (fun _ => .null) i) 0 ⟨f489, f490, f491, f492, f493⟩ (by decide) (by decide) rfl (by decide) rfl) e505 f489 (g := (mkF m 299 #[.val (.int p1), .val (.int p2), .val (.int p3), .val (.int p4), .val (.int p5), .val (.ref cn), .val (.ref row), .val (.ref r1), .val (.ref r2), .val (.int (0 : Int32)), .val (.ref ra), .val (.ref rb), .val (.ref rc), .val (.ref el), .val (.ref el), .val (.ref b2)] [(.int (0 : Int32)), (.ref b2)])) rfl (by rw [hml]; rfl) (lenOf own_pd7 rfl) rfl (by show 2 * 0 + _ ≤ _; exact Nat.le_of_eq rfl) (hb hby at_299) (by decide) (by decide) (by decide) (by decide)
    obtain ⟨rfl, e506, rfl⟩ := hQ506
    rw [List.append_nil] at X506
    refine own_st (st506) ?_
    clear st506 X505 e505
    show OFin p e below s _ _ _ (T506.setTop (mkF m 304 #[.val (.int p1), .val (.int p2), .val (.int p3), .val (.int p4), .val (.int p5), .val (.ref cn), .val (.ref row), .val (.ref r1), .val (.ref r2), .val (.int (0 : Int32)), .val (.ref ra), .val (.ref rb), .val (.ref rc), .val (.ref el), .val (.ref el), .val (.ref b2)] [(.ref s2)]))
    obtain ⟨T507, X507, e507, st507⟩ := castY X506 hx hZ hown (own_w hw 190 rfl) e506 (Ins.self f494) (g := (mkF m 304 #[.val (.int p1), .val (.int p2), .val (.int p3), .val (.int p4), .val (.int p5), .val (.ref cn), .val (.ref row), .val (.ref r1), .val (.ref r2), .val (.int (0 : Int32)), .val (.ref ra), .val (.ref rb), .val (.ref rc), .val (.ref el), .val (.ref el), .val (.ref b2)] [(.ref s2)])) rfl rfl (hb hby at_304)
    refine own_st (st507) ?_
    clear st507 X506 e506
    show OFin p e below s _ _ _ (T507.setTop (mkF m 307 #[.val (.int p1), .val (.int p2), .val (.int p3), .val (.int p4), .val (.int p5), .val (.ref cn), .val (.ref row), .val (.ref r1), .val (.ref r2), .val (.int (0 : Int32)), .val (.ref ra), .val (.ref rb), .val (.ref rc), .val (.ref el), .val (.ref el), .val (.ref b2)] [(.ref s2)]))
    refine own_st (fun _ kS => XS.aload X507.here hx rfl (hb hby at_307) rfl rfl kS) ?_
    show OFin p e below s _ _ _ (T507.setTop (mkF m 309 #[.val (.int p1), .val (.int p2), .val (.int p3), .val (.int p4), .val (.int p5), .val (.ref cn), .val (.ref row), .val (.ref r1), .val (.ref r2), .val (.int (0 : Int32)), .val (.ref ra), .val (.ref rb), .val (.ref rc), .val (.ref el), .val (.ref el), .val (.ref b2)] [(.ref rc), (.ref s2)]))
    refine own_st (fun _ kS => XS.aload X507.here hx rfl (hb hby at_309) rfl rfl kS) ?_
    show OFin p e below s _ _ _ (T507.setTop (mkF m 311 #[.val (.int p1), .val (.int p2), .val (.int p3), .val (.int p4), .val (.int p5), .val (.ref cn), .val (.ref row), .val (.ref r1), .val (.ref r2), .val (.int (0 : Int32)), .val (.ref ra), .val (.ref rb), .val (.ref rc), .val (.ref el), .val (.ref el), .val (.ref b2)] [(.ref r1), (.ref rc), (.ref s2)]))
    obtain ⟨v508, T508, L508, X508, hQ508, st508⟩ := own_static X507 hx hZ (y := (⟨"com/example/notation_search/notationsearch/math/RowReleasePinLaw", "same", "(Lcom/example/notation_search/notationsearch/math/Row$Script;Lcom/example/notation_search/notationsearch/math/Relation;Lcom/example/notation_search/notationsearch/math/Row;)Z"⟩ : MethodName)) (rm := ⟨1, 0, 0, 12⟩) (W := 0) (argsL := [(.ref s2), (.ref rc), (.ref r1)]) (rest := []) hown (own_w hw 192 rfl) (own_w hw 193 rfl) (own_w hw 20 rfl) (own_w hw 194 rfl) (rmSame l Z a0 hw s2 rc r1 T481.heap ⟨f494, f495, f496, f497⟩) e507 (g := (mkF m 311 #[.val (.int p1), .val (.int p2), .val (.int p3), .val (.int p4), .val (.int p5), .val (.ref cn), .val (.ref row), .val (.ref r1), .val (.ref r2), .val (.int (0 : Int32)), .val (.ref ra), .val (.ref rb), .val (.ref rc), .val (.ref el), .val (.ref el), .val (.ref b2)] [(.ref r1), (.ref rc), (.ref s2)])) rfl (by rw [hml]; rfl) (lenOf own_pd15 rfl) rfl (by show 2 * 0 + _ ≤ _; exact Nat.le_of_eq rfl) (hb hby at_311) (by decide) (by decide) (by decide) (by decide)
    obtain ⟨rfl, e508, rfl⟩ := hQ508
    rw [List.append_nil] at X508
    refine own_st (st508) ?_
    clear st508 X507 e507
    show OFin p e below s _ _ _ (T508.setTop (mkF m 314 #[.val (.int p1), .val (.int p2), .val (.int p3), .val (.int p4), .val (.int p5), .val (.ref cn), .val (.ref row), .val (.ref r1), .val (.ref r2), .val (.int (0 : Int32)), .val (.ref ra), .val (.ref rb), .val (.ref rc), .val (.ref el), .val (.ref el), .val (.ref b2)] [(.int (1 : Int32))]))
    refine own_st (fun _ kS => XS.ifNo X508.here hx rfl (hb hby at_314) rfl ((if0 _ _).trans (feq (by decide)).1) kS) ?_
    show OFin p e below s _ _ _ (T508.setTop (mkF m 317 #[.val (.int p1), .val (.int p2), .val (.int p3), .val (.int p4), .val (.int p5), .val (.ref cn), .val (.ref row), .val (.ref r1), .val (.ref r2), .val (.int (0 : Int32)), .val (.ref ra), .val (.ref rb), .val (.ref rc), .val (.ref el), .val (.ref el), .val (.ref b2)] []))
    refine own_st (fun _ kS => XS.aload X508.here hx rfl (hb hby at_317) rfl rfl kS) ?_
    show OFin p e below s _ _ _ (T508.setTop (mkF m 319 #[.val (.int p1), .val (.int p2), .val (.int p3), .val (.int p4), .val (.int p5), .val (.ref cn), .val (.ref row), .val (.ref r1), .val (.ref r2), .val (.int (0 : Int32)), .val (.ref ra), .val (.ref rb), .val (.ref rc), .val (.ref el), .val (.ref el), .val (.ref b2)] [(.ref el)]))
    obtain ⟨v509, T509, L509, X509, hQ509, st509⟩ := own_face X508 hx hZ (y := (⟨"java/util/List", "size", "()I"⟩ : MethodName)) (z := (⟨"java/util/ImmutableCollections$ListN", "size", "()I"⟩ : MethodName)) (rm := ⟨0, 0, 0, 0⟩) (W := 0) (a := el) (argsL := []) (rest := []) hown (own_w hw 42 rfl) (own_w hw 43 rfl) (mvT hZ (own_w hw 44 rfl)) (own_w hw 45 rfl) (own_w hw 46 rfl) (own_w hw 47 rfl) (own_w hw 48 rfl) (own_w hw 49 rfl) (own_w hw 50 rfl) (own_w hw 51 rfl) (rmLS l Z a0 hw el T481.heap em (F_el.ext od481.2) (A_em.ext od481.2)) e508 (E_el.ext od481.2) (g := (mkF m 319 #[.val (.int p1), .val (.int p2), .val (.int p3), .val (.int p4), .val (.int p5), .val (.ref cn), .val (.ref row), .val (.ref r1), .val (.ref r2), .val (.int (0 : Int32)), .val (.ref ra), .val (.ref rb), .val (.ref rc), .val (.ref el), .val (.ref el), .val (.ref b2)] [(.ref el)])) rfl (by rw [hml]; rfl) (lenOf own_pd14 rfl) rfl (by show 2 * 0 + _ ≤ _; exact Nat.le_of_eq rfl) (hb hby at_319) (by decide) (by decide) (by decide) (by decide)
    obtain ⟨rfl, e509, rfl⟩ := hQ509
    rw [List.append_nil] at X509
    refine own_st (st509) ?_
    clear st509 X508 e508
    show OFin p e below s _ _ _ (T509.setTop (mkF m 324 #[.val (.int p1), .val (.int p2), .val (.int p3), .val (.int p4), .val (.int p5), .val (.ref cn), .val (.ref row), .val (.ref r1), .val (.ref r2), .val (.int (0 : Int32)), .val (.ref ra), .val (.ref rb), .val (.ref rc), .val (.ref el), .val (.ref el), .val (.ref b2)] [(.int (0 : Int32))]))
    refine own_st (fun _ kS => XS.iload X509.here hx rfl (hb hby at_324) rfl kS) ?_
    show OFin p e below s _ _ _ (T509.setTop (mkF m 326 #[.val (.int p1), .val (.int p2), .val (.int p3), .val (.int p4), .val (.int p5), .val (.ref cn), .val (.ref row), .val (.ref r1), .val (.ref r2), .val (.int (0 : Int32)), .val (.ref ra), .val (.ref rb), .val (.ref rc), .val (.ref el), .val (.ref el), .val (.ref b2)] [(.int (0 : Int32)), (.int (0 : Int32))]))
    refine own_st (fun _ kS => XS.icmpYes X509.here hx rfl (pc0 := 326) (pc' := 331) rfl (hb hby at_326) rfl (teq rfl).1 (by decide) (by decide) kS) ?_
    show OFin p e below s _ _ _ (T509.setTop (mkF m 331 #[.val (.int p1), .val (.int p2), .val (.int p3), .val (.int p4), .val (.int p5), .val (.ref cn), .val (.ref row), .val (.ref r1), .val (.ref r2), .val (.int (0 : Int32)), .val (.ref ra), .val (.ref rb), .val (.ref rc), .val (.ref el), .val (.ref el), .val (.ref b2)] []))
    refine own_st (fun _ kS => XS.iconst X509.here hx rfl (hb hby at_331) kS) ?_
    show OFin p e below s _ _ _ (T509.setTop (mkF m 332 #[.val (.int p1), .val (.int p2), .val (.int p3), .val (.int p4), .val (.int p5), .val (.ref cn), .val (.ref row), .val (.ref r1), .val (.ref r2), .val (.int (0 : Int32)), .val (.ref ra), .val (.ref rb), .val (.ref rc), .val (.ref el), .val (.ref el), .val (.ref b2)] [(.int (1 : Int32))]))
    exact own_ret X509 hx (t := .boolean) hret hlk rfl (Or.inl ⟨rfl, by simp, _, rfl⟩) (hb hby at_332) (by decide) (by decide) ⟨rfl, fr481⟩
set_option maxRecDepth 65536 in
set_option maxHeartbeats 40000000 in
theorem own_b0 {l : Launch} {Z : State} {a0 : Array Value} (hw : ∀ d ∈ tables_1, d.before a0 Z = true) {p : Program} {e : Env} {s : State} {m : MethodId} {args : Array Value} {below : List Frame} {meth : Method} {c : Code} (hC : OCtx Z p s m meth c "com/example/notation_search/notationsearch/math/RowReleasePinLaw" "law" code maxLocals ret) {T0 : State} {locs : List Loc} {cells slots : Nat} (X0 : Stand p l e room_1 s m args below meth c T0 locs cells slots) {h0 : Heap} (e0 : T0.heap = h0) (n0 : Nat) (Z0 : n0 ≤ h0.size) (p1 p2 p3 p4 p5 : Int32) (cn row r1 r2 ra rb rc : Addr) (el em dc : Addr) (S_el : Sta Z Z.heap "java/util/ImmutableCollections" "EMPTY_LIST" "Ljava/util/ImmutableCollections$ListN;" (.ref el)) (E_el : Exa Z Z.heap el "java/util/ImmutableCollections$ListN") (F_el : Fld Z Z.heap el "java/util/ImmutableCollections$ListN" "elements" "[Ljava/lang/Object;" (.ref em)) (A_em : OArr Z Z.heap em (.object "java/lang/Object") 0 (fun _ => .null)) (S_dc : Sta Z Z.heap "java/util/ArrayList" "DEFAULTCAPACITY_EMPTY_ELEMENTDATA" "[Ljava/lang/Object;" (.ref dc)) (A_dc : OArr Z Z.heap dc (.object "java/lang/Object") 0 (fun _ => .null)) (N0 : Fr n0 locs) (O : Old Z n0 h0) (g_row : n0 ≤ row) (B_r : BR Z h0 row cn .null) (hcs : cells = 4) (hss : slots = 20) :
    OFin p e below s room_1.cells room_1.slots (fun v h L => v = some (.int (1 : Int32)) ∧ Fr n0 L) (T0.setTop (mkF m 94 #[.val (.int p1), .val (.int p2), .val (.int p3), .val (.int p4), .val (.int p5), .val (.ref cn), .val (.ref row), .val (.ref r1), .val (.ref r2), .val (.int (0 : Int32)), .val (.ref ra), .val (.ref rb), .val (.ref rc), .unset, .unset, .unset] [])) := by
  have hC0 := hC
  obtain ⟨hx, hZ, hby, hml, hown, hret, hlk, hnm⟩ := hC
  subst hcs hss
  obtain ⟨u510, u511, u512, u513, u514, u515, u516⟩ := B_r
  refine own_st (fun _ kS => XS.iload X0.here hx rfl (hb hby at_94) rfl kS) ?_
  show OFin p e below s _ _ _ (T0.setTop (mkF m 96 #[.val (.int p1), .val (.int p2), .val (.int p3), .val (.int p4), .val (.int p5), .val (.ref cn), .val (.ref row), .val (.ref r1), .val (.ref r2), .val (.int (0 : Int32)), .val (.ref ra), .val (.ref rb), .val (.ref rc), .unset, .unset, .unset] [(.int (0 : Int32))]))
  refine own_st (fun _ kS => XS.iconst X0.here hx rfl (hb hby at_96) kS) ?_
  show OFin p e below s _ _ _ (T0.setTop (mkF m 97 #[.val (.int p1), .val (.int p2), .val (.int p3), .val (.int p4), .val (.int p5), .val (.ref cn), .val (.ref row), .val (.ref r1), .val (.ref r2), .val (.int (0 : Int32)), .val (.ref ra), .val (.ref rb), .val (.ref rc), .unset, .unset, .unset] [(.int (2 : Int32)), (.int (0 : Int32))]))
  refine own_st (fun _ kS => XS.icmpYes X0.here hx rfl (pc0 := 97) (pc' := 109) rfl (hb hby at_97) rfl (tlt (by decide)).1 (by decide) (by decide) kS) ?_
  show OFin p e below s _ _ _ (T0.setTop (mkF m 109 #[.val (.int p1), .val (.int p2), .val (.int p3), .val (.int p4), .val (.int p5), .val (.ref cn), .val (.ref row), .val (.ref r1), .val (.ref r2), .val (.int (0 : Int32)), .val (.ref ra), .val (.ref rb), .val (.ref rc), .unset, .unset, .unset] []))
  refine own_st (fun _ kS => XS.iload X0.here hx rfl (hb hby at_109) rfl kS) ?_
  show OFin p e below s _ _ _ (T0.setTop (mkF m 111 #[.val (.int p1), .val (.int p2), .val (.int p3), .val (.int p4), .val (.int p5), .val (.ref cn), .val (.ref row), .val (.ref r1), .val (.ref r2), .val (.int (0 : Int32)), .val (.ref ra), .val (.ref rb), .val (.ref rc), .unset, .unset, .unset] [(.int (0 : Int32))]))
  refine own_st (fun _ kS => XS.iconst X0.here hx rfl (hb hby at_111) kS) ?_
  show OFin p e below s _ _ _ (T0.setTop (mkF m 112 #[.val (.int p1), .val (.int p2), .val (.int p3), .val (.int p4), .val (.int p5), .val (.ref cn), .val (.ref row), .val (.ref r1), .val (.ref r2), .val (.int (0 : Int32)), .val (.ref ra), .val (.ref rb), .val (.ref rc), .unset, .unset, .unset] [(.int (3 : Int32)), (.int (0 : Int32))]))
  refine own_st (fun _ kS => XS.icmpYes X0.here hx rfl (pc0 := 112) (pc' := 124) rfl (hb hby at_112) rfl (tlt (by decide)).1 (by decide) (by decide) kS) ?_
  show OFin p e below s _ _ _ (T0.setTop (mkF m 124 #[.val (.int p1), .val (.int p2), .val (.int p3), .val (.int p4), .val (.int p5), .val (.ref cn), .val (.ref row), .val (.ref r1), .val (.ref r2), .val (.int (0 : Int32)), .val (.ref ra), .val (.ref rb), .val (.ref rc), .unset, .unset, .unset] []))
  refine own_st (fun _ kS => XS.aload X0.here hx rfl (hb hby at_124) rfl rfl kS) ?_
  show OFin p e below s _ _ _ (T0.setTop (mkF m 126 #[.val (.int p1), .val (.int p2), .val (.int p3), .val (.int p4), .val (.int p5), .val (.ref cn), .val (.ref row), .val (.ref r1), .val (.ref r2), .val (.int (0 : Int32)), .val (.ref ra), .val (.ref rb), .val (.ref rc), .unset, .unset, .unset] [(.ref row)]))
  obtain ⟨v517, T517, L517, X517, hQ517, st517⟩ := own_virtual X0 hx hZ (y := (⟨"com/example/notation_search/notationsearch/math/Row", "release", "()Ljava/util/List;"⟩ : MethodName)) (z := (⟨"com/example/notation_search/notationsearch/math/Row", "release", "()Ljava/util/List;"⟩ : MethodName)) (rm := ⟨1, 0, 0, 11⟩) (W := 0) (a := row) (argsL := []) (rest := []) hown (own_w hw 29 rfl) (own_w hw 30 rfl) (notFace_of_selects (args := #[]) (mvT hZ (own_w hw 32 rfl))) (own_w hw 32 rfl) (own_w hw 31 rfl) (own_w hw 11 rfl) (own_w hw 33 rfl) (rmRN l Z a0 hw row h0 n0 cn el ⟨u510, u511, u512, u513, u514, u515, u516⟩ g_row S_el O) e0 u510 (g := (mkF m 126 #[.val (.int p1), .val (.int p2), .val (.int p3), .val (.int p4), .val (.int p5), .val (.ref cn), .val (.ref row), .val (.ref r1), .val (.ref r2), .val (.int (0 : Int32)), .val (.ref ra), .val (.ref rb), .val (.ref rc), .unset, .unset, .unset] [(.ref row)])) rfl (by rw [hml]; rfl) (lenOf own_pd1 rfl) rfl (by show 2 * 0 + _ ≤ _; exact Nat.le_of_eq rfl) (hb hby at_126) (by decide) (by decide) (by decide) (by decide)
  obtain ⟨rfl, N517, K517, B517_0⟩ := hQ517
  have fr517 := Fr.app N0 N517
  clear N0 N517
  have od517 := O.keep K517 (allS g_row all0)
  have f518 := u510.keep K517
  clear u510
  clear u511
  clear u512
  clear u513
  clear u514
  clear u515
  clear u516
  have sz517 : n0 ≤ T517.heap.size := Nat.le_trans Z0 K517.1
  clear K517
  obtain ⟨u525, u526, u527, u528, u529, u530, u531⟩ := B517_0
  refine own_st (st517) ?_
  clear st517 X0 e0
  show OFin p e below s _ _ _ (T517.setTop (mkF m 129 #[.val (.int p1), .val (.int p2), .val (.int p3), .val (.int p4), .val (.int p5), .val (.ref cn), .val (.ref row), .val (.ref r1), .val (.ref r2), .val (.int (0 : Int32)), .val (.ref ra), .val (.ref rb), .val (.ref rc), .unset, .unset, .unset] [(.ref el)]))
  refine own_st (fun _ kS => XS.astore X517.here hx rfl (hb hby at_129) rfl rfl (l' := #[.val (.int p1), .val (.int p2), .val (.int p3), .val (.int p4), .val (.int p5), .val (.ref cn), .val (.ref row), .val (.ref r1), .val (.ref r2), .val (.int (0 : Int32)), .val (.ref ra), .val (.ref rb), .val (.ref rc), .val (.ref el), .unset, .unset]) rfl kS) ?_
  show OFin p e below s _ _ _ (T517.setTop (mkF m 131 #[.val (.int p1), .val (.int p2), .val (.int p3), .val (.int p4), .val (.int p5), .val (.ref cn), .val (.ref row), .val (.ref r1), .val (.ref r2), .val (.int (0 : Int32)), .val (.ref ra), .val (.ref rb), .val (.ref rc), .val (.ref el), .unset, .unset] []))
  refine own_st (fun _ kS => XS.aload X517.here hx rfl (hb hby at_131) rfl rfl kS) ?_
  show OFin p e below s _ _ _ (T517.setTop (mkF m 133 #[.val (.int p1), .val (.int p2), .val (.int p3), .val (.int p4), .val (.int p5), .val (.ref cn), .val (.ref row), .val (.ref r1), .val (.ref r2), .val (.int (0 : Int32)), .val (.ref ra), .val (.ref rb), .val (.ref rc), .val (.ref el), .unset, .unset] [(.ref row)]))
  obtain ⟨v532, T532, L532, X532, hQ532, st532⟩ := own_virtual X517 hx hZ (y := (⟨"com/example/notation_search/notationsearch/math/Row", "release", "()Ljava/util/List;"⟩ : MethodName)) (z := (⟨"com/example/notation_search/notationsearch/math/Row", "release", "()Ljava/util/List;"⟩ : MethodName)) (rm := ⟨1, 0, 0, 11⟩) (W := 0) (a := row) (argsL := []) (rest := []) hown (own_w hw 29 rfl) (own_w hw 30 rfl) (notFace_of_selects (args := #[]) (mvT hZ (own_w hw 32 rfl))) (own_w hw 32 rfl) (own_w hw 31 rfl) (own_w hw 11 rfl) (own_w hw 33 rfl) (rmRN l Z a0 hw row T517.heap n0 cn el ⟨u525, u526, u527, u528, u529, u530, u531⟩ g_row S_el od517) rfl u525 (g := (mkF m 133 #[.val (.int p1), .val (.int p2), .val (.int p3), .val (.int p4), .val (.int p5), .val (.ref cn), .val (.ref row), .val (.ref r1), .val (.ref r2), .val (.int (0 : Int32)), .val (.ref ra), .val (.ref rb), .val (.ref rc), .val (.ref el), .unset, .unset] [(.ref row)])) rfl (by rw [hml]; rfl) (lenOf own_pd1 rfl) rfl (by show 2 * 0 + _ ≤ _; exact Nat.le_of_eq rfl) (hb hby at_133) (by decide) (by decide) (by decide) (by decide)
  obtain ⟨rfl, N532, K532, B532_0⟩ := hQ532
  have fr532 := Fr.app fr517 N532
  clear fr517 N532
  have od532 := od517.keep K532 (allS g_row all0)
  clear od517
  have f533 := u525.keep K532
  clear u525
  clear u526
  clear u527
  clear u528
  clear u529
  clear u530
  clear u531
  have sz532 : n0 ≤ T532.heap.size := Nat.le_trans sz517 K532.1
  clear sz517
  clear K532
  obtain ⟨u540, u541, u542, u543, u544, u545, u546⟩ := B532_0
  refine own_st (st532) ?_
  clear st532 X517
  show OFin p e below s _ _ _ (T532.setTop (mkF m 136 #[.val (.int p1), .val (.int p2), .val (.int p3), .val (.int p4), .val (.int p5), .val (.ref cn), .val (.ref row), .val (.ref r1), .val (.ref r2), .val (.int (0 : Int32)), .val (.ref ra), .val (.ref rb), .val (.ref rc), .val (.ref el), .unset, .unset] [(.ref el)]))
  refine own_st (fun _ kS => XS.astore X532.here hx rfl (hb hby at_136) rfl rfl (l' := #[.val (.int p1), .val (.int p2), .val (.int p3), .val (.int p4), .val (.int p5), .val (.ref cn), .val (.ref row), .val (.ref r1), .val (.ref r2), .val (.int (0 : Int32)), .val (.ref ra), .val (.ref rb), .val (.ref rc), .val (.ref el), .val (.ref el), .unset]) rfl kS) ?_
  show OFin p e below s _ _ _ (T532.setTop (mkF m 138 #[.val (.int p1), .val (.int p2), .val (.int p3), .val (.int p4), .val (.int p5), .val (.ref cn), .val (.ref row), .val (.ref r1), .val (.ref r2), .val (.int (0 : Int32)), .val (.ref ra), .val (.ref rb), .val (.ref rc), .val (.ref el), .val (.ref el), .unset] []))
  refine own_st (fun _ kS => XS.aload X532.here hx rfl (hb hby at_138) rfl rfl kS) ?_
  show OFin p e below s _ _ _ (T532.setTop (mkF m 140 #[.val (.int p1), .val (.int p2), .val (.int p3), .val (.int p4), .val (.int p5), .val (.ref cn), .val (.ref row), .val (.ref r1), .val (.ref r2), .val (.int (0 : Int32)), .val (.ref ra), .val (.ref rb), .val (.ref rc), .val (.ref el), .val (.ref el), .unset] [(.ref el)]))
  obtain ⟨v547, T547, L547, X547, hQ547, st547⟩ := own_face X532 hx hZ (y := (⟨"java/util/List", "size", "()I"⟩ : MethodName)) (z := (⟨"java/util/ImmutableCollections$ListN", "size", "()I"⟩ : MethodName)) (rm := ⟨0, 0, 0, 0⟩) (W := 0) (a := el) (argsL := []) (rest := []) hown (own_w hw 42 rfl) (own_w hw 43 rfl) (mvT hZ (own_w hw 44 rfl)) (own_w hw 45 rfl) (own_w hw 46 rfl) (own_w hw 47 rfl) (own_w hw 48 rfl) (own_w hw 49 rfl) (own_w hw 50 rfl) (own_w hw 51 rfl) (rmLS l Z a0 hw el T532.heap em (F_el.ext od532.2) (A_em.ext od532.2)) rfl (E_el.ext od532.2) (g := (mkF m 140 #[.val (.int p1), .val (.int p2), .val (.int p3), .val (.int p4), .val (.int p5), .val (.ref cn), .val (.ref row), .val (.ref r1), .val (.ref r2), .val (.int (0 : Int32)), .val (.ref ra), .val (.ref rb), .val (.ref rc), .val (.ref el), .val (.ref el), .unset] [(.ref el)])) rfl (by rw [hml]; rfl) (lenOf own_pd14 rfl) rfl (by show 2 * 0 + _ ≤ _; exact Nat.le_of_eq rfl) (hb hby at_140) (by decide) (by decide) (by decide) (by decide)
  obtain ⟨rfl, e547, rfl⟩ := hQ547
  rw [List.append_nil] at X547
  refine own_st (st547) ?_
  clear st547 X532
  show OFin p e below s _ _ _ (T547.setTop (mkF m 145 #[.val (.int p1), .val (.int p2), .val (.int p3), .val (.int p4), .val (.int p5), .val (.ref cn), .val (.ref row), .val (.ref r1), .val (.ref r2), .val (.int (0 : Int32)), .val (.ref ra), .val (.ref rb), .val (.ref rc), .val (.ref el), .val (.ref el), .unset] [(.int (0 : Int32))]))
  refine own_st (fun _ kS => XS.iload X547.here hx rfl (hb hby at_145) rfl kS) ?_
  show OFin p e below s _ _ _ (T547.setTop (mkF m 147 #[.val (.int p1), .val (.int p2), .val (.int p3), .val (.int p4), .val (.int p5), .val (.ref cn), .val (.ref row), .val (.ref r1), .val (.ref r2), .val (.int (0 : Int32)), .val (.ref ra), .val (.ref rb), .val (.ref rc), .val (.ref el), .val (.ref el), .unset] [(.int (0 : Int32)), (.int (0 : Int32))]))
  refine own_st (fun _ kS => XS.icmpNo X547.here hx rfl (hb hby at_147) rfl (teq rfl).2 kS) ?_
  show OFin p e below s _ _ _ (T547.setTop (mkF m 150 #[.val (.int p1), .val (.int p2), .val (.int p3), .val (.int p4), .val (.int p5), .val (.ref cn), .val (.ref row), .val (.ref r1), .val (.ref r2), .val (.int (0 : Int32)), .val (.ref ra), .val (.ref rb), .val (.ref rc), .val (.ref el), .val (.ref el), .unset] []))
  refine own_st (fun _ kS => XS.aload X547.here hx rfl (hb hby at_150) rfl rfl kS) ?_
  show OFin p e below s _ _ _ (T547.setTop (mkF m 152 #[.val (.int p1), .val (.int p2), .val (.int p3), .val (.int p4), .val (.int p5), .val (.ref cn), .val (.ref row), .val (.ref r1), .val (.ref r2), .val (.int (0 : Int32)), .val (.ref ra), .val (.ref rb), .val (.ref rc), .val (.ref el), .val (.ref el), .unset] [(.ref el)]))
  obtain ⟨v548, T548, L548, X548, hQ548, st548⟩ := own_face X547 hx hZ (y := (⟨"java/util/List", "isEmpty", "()Z"⟩ : MethodName)) (z := (⟨"java/util/ImmutableCollections$ListN", "isEmpty", "()Z"⟩ : MethodName)) (rm := ⟨0, 0, 0, 0⟩) (W := 0) (a := el) (argsL := []) (rest := []) hown (own_w hw 54 rfl) (own_w hw 55 rfl) (mvT hZ (own_w hw 56 rfl)) (own_w hw 57 rfl) (own_w hw 58 rfl) (own_w hw 59 rfl) (own_w hw 60 rfl) (own_w hw 49 rfl) (own_w hw 50 rfl) (own_w hw 61 rfl) (rmLE l Z a0 hw el T532.heap em (F_el.ext od532.2) (A_em.ext od532.2)) e547 (E_el.ext od532.2) (g := (mkF m 152 #[.val (.int p1), .val (.int p2), .val (.int p3), .val (.int p4), .val (.int p5), .val (.ref cn), .val (.ref row), .val (.ref r1), .val (.ref r2), .val (.int (0 : Int32)), .val (.ref ra), .val (.ref rb), .val (.ref rc), .val (.ref el), .val (.ref el), .unset] [(.ref el)])) rfl (by rw [hml]; rfl) (lenOf own_pd16 rfl) rfl (by show 2 * 0 + _ ≤ _; exact Nat.le_of_eq rfl) (hb hby at_152) (by decide) (by decide) (by decide) (by decide)
  obtain ⟨rfl, e548, rfl⟩ := hQ548
  rw [List.append_nil] at X548
  refine own_st (st548) ?_
  clear st548 X547 e547
  show OFin p e below s _ _ _ (T548.setTop (mkF m 157 #[.val (.int p1), .val (.int p2), .val (.int p3), .val (.int p4), .val (.int p5), .val (.ref cn), .val (.ref row), .val (.ref r1), .val (.ref r2), .val (.int (0 : Int32)), .val (.ref ra), .val (.ref rb), .val (.ref rc), .val (.ref el), .val (.ref el), .unset] [(.int (1 : Int32))]))
  refine own_st (fun _ kS => XS.ifNo X548.here hx rfl (hb hby at_157) rfl ((if0 _ _).trans (feq (by decide)).1) kS) ?_
  show OFin p e below s _ _ _ (T548.setTop (mkF m 160 #[.val (.int p1), .val (.int p2), .val (.int p3), .val (.int p4), .val (.int p5), .val (.ref cn), .val (.ref row), .val (.ref r1), .val (.ref r2), .val (.int (0 : Int32)), .val (.ref ra), .val (.ref rb), .val (.ref rc), .val (.ref el), .val (.ref el), .unset] []))
  refine own_st (fun _ kS => XS.aload X548.here hx rfl (hb hby at_160) rfl rfl kS) ?_
  show OFin p e below s _ _ _ (T548.setTop (mkF m 162 #[.val (.int p1), .val (.int p2), .val (.int p3), .val (.int p4), .val (.int p5), .val (.ref cn), .val (.ref row), .val (.ref r1), .val (.ref r2), .val (.int (0 : Int32)), .val (.ref ra), .val (.ref rb), .val (.ref rc), .val (.ref el), .val (.ref el), .unset] [(.ref row)]))
  obtain ⟨v549, T549, L549, X549, hQ549, st549⟩ := own_virtual X548 hx hZ (y := (⟨"com/example/notation_search/notationsearch/math/Row", "followed", "()Ljava/util/List;"⟩ : MethodName)) (z := (⟨"com/example/notation_search/notationsearch/math/Row", "followed", "()Ljava/util/List;"⟩ : MethodName)) (rm := ⟨1, 0, 0, 11⟩) (W := 0) (a := row) (argsL := []) (rest := []) hown (own_w hw 62 rfl) (own_w hw 63 rfl) (notFace_of_selects (args := #[]) (mvT hZ (own_w hw 65 rfl))) (own_w hw 65 rfl) (own_w hw 64 rfl) (own_w hw 11 rfl) (own_w hw 66 rfl) (rmFo l Z a0 hw row T532.heap n0 cn el ⟨u540, u541, u542, u543, u544, u545, u546⟩ S_el od532) e548 u540 (g := (mkF m 162 #[.val (.int p1), .val (.int p2), .val (.int p3), .val (.int p4), .val (.int p5), .val (.ref cn), .val (.ref row), .val (.ref r1), .val (.ref r2), .val (.int (0 : Int32)), .val (.ref ra), .val (.ref rb), .val (.ref rc), .val (.ref el), .val (.ref el), .unset] [(.ref row)])) rfl (by rw [hml]; rfl) (lenOf own_pd1 rfl) rfl (by show 2 * 0 + _ ≤ _; exact Nat.le_of_eq rfl) (hb hby at_162) (by decide) (by decide) (by decide) (by decide)
  obtain ⟨rfl, e549, rfl⟩ := hQ549
  rw [List.append_nil] at X549
  refine own_st (st549) ?_
  clear st549 X548 e548
  show OFin p e below s _ _ _ (T549.setTop (mkF m 165 #[.val (.int p1), .val (.int p2), .val (.int p3), .val (.int p4), .val (.int p5), .val (.ref cn), .val (.ref row), .val (.ref r1), .val (.ref r2), .val (.int (0 : Int32)), .val (.ref ra), .val (.ref rb), .val (.ref rc), .val (.ref el), .val (.ref el), .unset] [(.ref el)]))
  obtain ⟨v550, T550, L550, X550, hQ550, st550⟩ := own_face X549 hx hZ (y := (⟨"java/util/List", "isEmpty", "()Z"⟩ : MethodName)) (z := (⟨"java/util/ImmutableCollections$ListN", "isEmpty", "()Z"⟩ : MethodName)) (rm := ⟨0, 0, 0, 0⟩) (W := 0) (a := el) (argsL := []) (rest := []) hown (own_w hw 54 rfl) (own_w hw 55 rfl) (mvT hZ (own_w hw 56 rfl)) (own_w hw 57 rfl) (own_w hw 58 rfl) (own_w hw 59 rfl) (own_w hw 60 rfl) (own_w hw 49 rfl) (own_w hw 50 rfl) (own_w hw 61 rfl) (rmLE l Z a0 hw el T532.heap em (F_el.ext od532.2) (A_em.ext od532.2)) e549 (E_el.ext od532.2) (g := (mkF m 165 #[.val (.int p1), .val (.int p2), .val (.int p3), .val (.int p4), .val (.int p5), .val (.ref cn), .val (.ref row), .val (.ref r1), .val (.ref r2), .val (.int (0 : Int32)), .val (.ref ra), .val (.ref rb), .val (.ref rc), .val (.ref el), .val (.ref el), .unset] [(.ref el)])) rfl (by rw [hml]; rfl) (lenOf own_pd16 rfl) rfl (by show 2 * 0 + _ ≤ _; exact Nat.le_of_eq rfl) (hb hby at_165) (by decide) (by decide) (by decide) (by decide)
  obtain ⟨rfl, e550, rfl⟩ := hQ550
  rw [List.append_nil] at X550
  refine own_st (st550) ?_
  clear st550 X549 e549
  show OFin p e below s _ _ _ (T550.setTop (mkF m 170 #[.val (.int p1), .val (.int p2), .val (.int p3), .val (.int p4), .val (.int p5), .val (.ref cn), .val (.ref row), .val (.ref r1), .val (.ref r2), .val (.int (0 : Int32)), .val (.ref ra), .val (.ref rb), .val (.ref rc), .val (.ref el), .val (.ref el), .unset] [(.int (1 : Int32))]))
  refine own_st (fun _ kS => XS.ifYes X550.here hx rfl (pc0 := 170) (pc' := 175) rfl (hb hby at_170) rfl ((if0 _ _).trans (feq (by decide)).2) (by decide) (by decide) kS) ?_
  show OFin p e below s _ _ _ (T550.setTop (mkF m 175 #[.val (.int p1), .val (.int p2), .val (.int p3), .val (.int p4), .val (.int p5), .val (.ref cn), .val (.ref row), .val (.ref r1), .val (.ref r2), .val (.int (0 : Int32)), .val (.ref ra), .val (.ref rb), .val (.ref rc), .val (.ref el), .val (.ref el), .unset] []))
  refine own_st (fun _ kS => XS.iload X550.here hx rfl (hb hby at_175) rfl kS) ?_
  show OFin p e below s _ _ _ (T550.setTop (mkF m 177 #[.val (.int p1), .val (.int p2), .val (.int p3), .val (.int p4), .val (.int p5), .val (.ref cn), .val (.ref row), .val (.ref r1), .val (.ref r2), .val (.int (0 : Int32)), .val (.ref ra), .val (.ref rb), .val (.ref rc), .val (.ref el), .val (.ref el), .unset] [(.int (0 : Int32))]))
  refine own_st (fun _ kS => XS.iconst X550.here hx rfl (hb hby at_177) kS) ?_
  show OFin p e below s _ _ _ (T550.setTop (mkF m 178 #[.val (.int p1), .val (.int p2), .val (.int p3), .val (.int p4), .val (.int p5), .val (.ref cn), .val (.ref row), .val (.ref r1), .val (.ref r2), .val (.int (0 : Int32)), .val (.ref ra), .val (.ref rb), .val (.ref rc), .val (.ref el), .val (.ref el), .unset] [(.int (1 : Int32)), (.int (0 : Int32))]))
  refine own_st (fun _ kS => XS.icmpYes X550.here hx rfl (pc0 := 178) (pc' := 204) rfl (hb hby at_178) rfl (tlt (by decide)).1 (by decide) (by decide) kS) ?_
  show OFin p e below s _ _ _ (T550.setTop (mkF m 204 #[.val (.int p1), .val (.int p2), .val (.int p3), .val (.int p4), .val (.int p5), .val (.ref cn), .val (.ref row), .val (.ref r1), .val (.ref r2), .val (.int (0 : Int32)), .val (.ref ra), .val (.ref rb), .val (.ref rc), .val (.ref el), .val (.ref el), .unset] []))
  refine own_st (fun _ kS => XS.iload X550.here hx rfl (hb hby at_204) rfl kS) ?_
  show OFin p e below s _ _ _ (T550.setTop (mkF m 206 #[.val (.int p1), .val (.int p2), .val (.int p3), .val (.int p4), .val (.int p5), .val (.ref cn), .val (.ref row), .val (.ref r1), .val (.ref r2), .val (.int (0 : Int32)), .val (.ref ra), .val (.ref rb), .val (.ref rc), .val (.ref el), .val (.ref el), .unset] [(.int (0 : Int32))]))
  refine own_st (fun _ kS => XS.iconst X550.here hx rfl (hb hby at_206) kS) ?_
  show OFin p e below s _ _ _ (T550.setTop (mkF m 207 #[.val (.int p1), .val (.int p2), .val (.int p3), .val (.int p4), .val (.int p5), .val (.ref cn), .val (.ref row), .val (.ref r1), .val (.ref r2), .val (.int (0 : Int32)), .val (.ref ra), .val (.ref rb), .val (.ref rc), .val (.ref el), .val (.ref el), .unset] [(.int (2 : Int32)), (.int (0 : Int32))]))
  refine own_st (fun _ kS => XS.icmpYes X550.here hx rfl (pc0 := 207) (pc' := 233) rfl (hb hby at_207) rfl (tlt (by decide)).1 (by decide) (by decide) kS) ?_
  show OFin p e below s _ _ _ (T550.setTop (mkF m 233 #[.val (.int p1), .val (.int p2), .val (.int p3), .val (.int p4), .val (.int p5), .val (.ref cn), .val (.ref row), .val (.ref r1), .val (.ref r2), .val (.int (0 : Int32)), .val (.ref ra), .val (.ref rb), .val (.ref rc), .val (.ref el), .val (.ref el), .unset] []))
  refine own_st (fun _ kS => XS.iload X550.here hx rfl (hb hby at_233) rfl kS) ?_
  show OFin p e below s _ _ _ (T550.setTop (mkF m 235 #[.val (.int p1), .val (.int p2), .val (.int p3), .val (.int p4), .val (.int p5), .val (.ref cn), .val (.ref row), .val (.ref r1), .val (.ref r2), .val (.int (0 : Int32)), .val (.ref ra), .val (.ref rb), .val (.ref rc), .val (.ref el), .val (.ref el), .unset] [(.int (0 : Int32))]))
  refine own_st (fun _ kS => XS.iconst X550.here hx rfl (hb hby at_235) kS) ?_
  show OFin p e below s _ _ _ (T550.setTop (mkF m 236 #[.val (.int p1), .val (.int p2), .val (.int p3), .val (.int p4), .val (.int p5), .val (.ref cn), .val (.ref row), .val (.ref r1), .val (.ref r2), .val (.int (0 : Int32)), .val (.ref ra), .val (.ref rb), .val (.ref rc), .val (.ref el), .val (.ref el), .unset] [(.int (3 : Int32)), (.int (0 : Int32))]))
  refine own_st (fun _ kS => XS.icmpYes X550.here hx rfl (pc0 := 236) (pc' := 262) rfl (hb hby at_236) rfl (tlt (by decide)).1 (by decide) (by decide) kS) ?_
  show OFin p e below s _ _ _ (T550.setTop (mkF m 262 #[.val (.int p1), .val (.int p2), .val (.int p3), .val (.int p4), .val (.int p5), .val (.ref cn), .val (.ref row), .val (.ref r1), .val (.ref r2), .val (.int (0 : Int32)), .val (.ref ra), .val (.ref rb), .val (.ref rc), .val (.ref el), .val (.ref el), .unset] []))
  exact own_c0 hw hC0 X550 e550 n0 sz532 p1 p2 p3 p4 p5 cn row r1 r2 ra rb rc el em dc S_el E_el F_el A_em S_dc A_dc fr532 od532 g_row ⟨u540, u541, u542, u543, u544, u545, u546⟩  rfl rfl
set_option maxRecDepth 65536 in
set_option maxHeartbeats 40000000 in
theorem own_a0 {l : Launch} {Z : State} {a0 : Array Value} (hw : ∀ d ∈ tables_1, d.before a0 Z = true) {p : Program} {e : Env} {s : State} {m : MethodId} {args : Array Value} {below : List Frame} {meth : Method} {c : Code} (hC : OCtx Z p s m meth c "com/example/notation_search/notationsearch/math/RowReleasePinLaw" "law" code maxLocals ret) {T0 : State} {locs : List Loc} {cells slots : Nat} (X0 : Stand p l e room_1 s m args below meth c T0 locs cells slots) {h0 : Heap} (e0 : T0.heap = h0) (n0 : Nat) (Z0 : n0 ≤ h0.size) (p1 p2 p3 p4 p5 : Int32) (cn row r1 r2 ra rb rc : Addr) (el em dc : Addr) (S_el : Sta Z Z.heap "java/util/ImmutableCollections" "EMPTY_LIST" "Ljava/util/ImmutableCollections$ListN;" (.ref el)) (E_el : Exa Z Z.heap el "java/util/ImmutableCollections$ListN") (F_el : Fld Z Z.heap el "java/util/ImmutableCollections$ListN" "elements" "[Ljava/lang/Object;" (.ref em)) (A_em : OArr Z Z.heap em (.object "java/lang/Object") 0 (fun _ => .null)) (S_dc : Sta Z Z.heap "java/util/ArrayList" "DEFAULTCAPACITY_EMPTY_ELEMENTDATA" "[Ljava/lang/Object;" (.ref dc)) (A_dc : OArr Z Z.heap dc (.object "java/lang/Object") 0 (fun _ => .null)) (N0 : Fr n0 locs) (O : Old Z n0 h0) (g_row : n0 ≤ row) (B_r : BR Z h0 row cn .null) (F_2 : Fld Z h0 r2 "com/example/notation_search/notationsearch/math/Row" "first" "Lcom/example/notation_search/notationsearch/math/Symbol;" .null) (ne_row_r2 : row ≠ r2) (hcs : cells = 4) (hss : slots = 20) :
    OFin p e below s room_1.cells room_1.slots (fun v h L => v = some (.int (1 : Int32)) ∧ Fr n0 L) (T0.setTop (mkF m 65 #[.val (.int p1), .val (.int p2), .val (.int p3), .val (.int p4), .val (.int p5), .val (.ref cn), .val (.ref row), .val (.ref r1), .val (.ref r2), .val (.int (0 : Int32)), .val (.ref ra), .val (.ref rb), .val (.ref rc), .unset, .unset, .unset] [])) := by
  have hC0 := hC
  obtain ⟨hx, hZ, hby, hml, hown, hret, hlk, hnm⟩ := hC
  subst hcs hss
  obtain ⟨u551, u552, u553, u554, u555, u556, u557⟩ := B_r
  refine own_st (fun _ kS => XS.iload X0.here hx rfl (hb hby at_65) rfl kS) ?_
  show OFin p e below s _ _ _ (T0.setTop (mkF m 67 #[.val (.int p1), .val (.int p2), .val (.int p3), .val (.int p4), .val (.int p5), .val (.ref cn), .val (.ref row), .val (.ref r1), .val (.ref r2), .val (.int (0 : Int32)), .val (.ref ra), .val (.ref rb), .val (.ref rc), .unset, .unset, .unset] [(.int (0 : Int32))]))
  refine own_st (fun _ kS => XS.iconst X0.here hx rfl (hb hby at_67) kS) ?_
  show OFin p e below s _ _ _ (T0.setTop (mkF m 68 #[.val (.int p1), .val (.int p2), .val (.int p3), .val (.int p4), .val (.int p5), .val (.ref cn), .val (.ref row), .val (.ref r1), .val (.ref r2), .val (.int (0 : Int32)), .val (.ref ra), .val (.ref rb), .val (.ref rc), .unset, .unset, .unset] [(.int (1 : Int32)), (.int (0 : Int32))]))
  refine own_st (fun _ kS => XS.icmpYes X0.here hx rfl (pc0 := 68) (pc' := 80) rfl (hb hby at_68) rfl (tlt (by decide)).1 (by decide) (by decide) kS) ?_
  show OFin p e below s _ _ _ (T0.setTop (mkF m 80 #[.val (.int p1), .val (.int p2), .val (.int p3), .val (.int p4), .val (.int p5), .val (.ref cn), .val (.ref row), .val (.ref r1), .val (.ref r2), .val (.int (0 : Int32)), .val (.ref ra), .val (.ref rb), .val (.ref rc), .unset, .unset, .unset] []))
  refine own_st (fun _ kS => XS.iload X0.here hx rfl (hb hby at_80) rfl kS) ?_
  show OFin p e below s _ _ _ (T0.setTop (mkF m 82 #[.val (.int p1), .val (.int p2), .val (.int p3), .val (.int p4), .val (.int p5), .val (.ref cn), .val (.ref row), .val (.ref r1), .val (.ref r2), .val (.int (0 : Int32)), .val (.ref ra), .val (.ref rb), .val (.ref rc), .unset, .unset, .unset] [(.int p5)]))
  refine own_st (fun _ kS => XS.iconst X0.here hx rfl (hb hby at_82) kS) ?_
  show OFin p e below s _ _ _ (T0.setTop (mkF m 83 #[.val (.int p1), .val (.int p2), .val (.int p3), .val (.int p4), .val (.int p5), .val (.ref cn), .val (.ref row), .val (.ref r1), .val (.ref r2), .val (.int (0 : Int32)), .val (.ref ra), .val (.ref rb), .val (.ref rc), .unset, .unset, .unset] [(.int (1 : Int32)), (.int p5)]))
  refine own_st (fun _ kS => XS.iand X0.here hx rfl (hb hby at_83) rfl kS) ?_
  show OFin p e below s _ _ _ (T0.setTop (mkF m 84 #[.val (.int p1), .val (.int p2), .val (.int p3), .val (.int p4), .val (.int p5), .val (.ref cn), .val (.ref row), .val (.ref r1), .val (.ref r2), .val (.int (0 : Int32)), .val (.ref ra), .val (.ref rb), .val (.ref rc), .unset, .unset, .unset] [(.int (p5 &&& (1 : Int32)))]))
  by_cases c1 : (p5 &&& (1 : Int32)) = (0 : Int32)
  · refine own_st (fun _ kS => XS.ifYes X0.here hx rfl (pc0 := 84) (pc' := 94) rfl (hb hby at_84) rfl ((if0 _ _).trans (teq c1).1) (by decide) (by decide) kS) ?_
    show OFin p e below s _ _ _ (T0.setTop (mkF m 94 #[.val (.int p1), .val (.int p2), .val (.int p3), .val (.int p4), .val (.int p5), .val (.ref cn), .val (.ref row), .val (.ref r1), .val (.ref r2), .val (.int (0 : Int32)), .val (.ref ra), .val (.ref rb), .val (.ref rc), .unset, .unset, .unset] []))
    exact own_b0 hw hC0 X0 e0 n0 Z0 p1 p2 p3 p4 p5 cn row r1 r2 ra rb rc el em dc S_el E_el F_el A_em S_dc A_dc N0 O g_row ⟨u551, u552, u553, u554, u555, u556, u557⟩ rfl rfl
  · refine own_st (fun _ kS => XS.ifNo X0.here hx rfl (hb hby at_84) rfl ((if0 _ _).trans (feq c1).1) kS) ?_
    show OFin p e below s _ _ _ (T0.setTop (mkF m 87 #[.val (.int p1), .val (.int p2), .val (.int p3), .val (.int p4), .val (.int p5), .val (.ref cn), .val (.ref row), .val (.ref r1), .val (.ref r2), .val (.int (0 : Int32)), .val (.ref ra), .val (.ref rb), .val (.ref rc), .unset, .unset, .unset] []))
    refine own_st (fun _ kS => XS.aload X0.here hx rfl (hb hby at_87) rfl rfl kS) ?_
    show OFin p e below s _ _ _ (T0.setTop (mkF m 89 #[.val (.int p1), .val (.int p2), .val (.int p3), .val (.int p4), .val (.int p5), .val (.ref cn), .val (.ref row), .val (.ref r1), .val (.ref r2), .val (.int (0 : Int32)), .val (.ref ra), .val (.ref rb), .val (.ref rc), .unset, .unset, .unset] [(.ref row)]))
    refine own_st (fun _ kS => XS.aload X0.here hx rfl (hb hby at_89) rfl rfl kS) ?_
    show OFin p e below s _ _ _ (T0.setTop (mkF m 91 #[.val (.int p1), .val (.int p2), .val (.int p3), .val (.int p4), .val (.int p5), .val (.ref cn), .val (.ref row), .val (.ref r1), .val (.ref r2), .val (.int (0 : Int32)), .val (.ref ra), .val (.ref rb), .val (.ref rc), .unset, .unset, .unset] [(.ref r2), (.ref row)]))
    obtain ⟨v558, T558, L558, X558, hQ558, st558⟩ := own_virtual X0 hx hZ (y := (⟨"com/example/notation_search/notationsearch/math/Row", "append", "(Lcom/example/notation_search/notationsearch/math/Row;)V"⟩ : MethodName)) (z := (⟨"com/example/notation_search/notationsearch/math/Row", "append", "(Lcom/example/notation_search/notationsearch/math/Row;)V"⟩ : MethodName)) (rm := ⟨0, 0, 0, 0⟩) (W := 0) (a := row) (argsL := [(.ref r2)]) (rest := []) hown (own_w hw 155 rfl) (own_w hw 156 rfl) (notFace_of_selects (args := #[]) (mvT hZ (own_w hw 158 rfl))) (own_w hw 158 rfl) (own_w hw 157 rfl) (own_w hw 11 rfl) (own_w hw 159 rfl) (rmAp l Z a0 hw row r2 h0 n0 cn _ ⟨u551, u552, u553, u554, u555, u556, u557⟩ g_row F_2) e0 u551 (g := (mkF m 91 #[.val (.int p1), .val (.int p2), .val (.int p3), .val (.int p4), .val (.int p5), .val (.ref cn), .val (.ref row), .val (.ref r1), .val (.ref r2), .val (.int (0 : Int32)), .val (.ref ra), .val (.ref rb), .val (.ref rc), .unset, .unset, .unset] [(.ref r2), (.ref row)])) rfl (by rw [hml]; rfl) (lenOf own_pd17 rfl) rfl (by show 2 * 0 + _ ≤ _; exact Nat.le_of_eq rfl) (hb hby at_91) (by decide) (by decide) (by decide) (by decide)
    obtain ⟨rfl, N558, K558, B558_0⟩ := hQ558
    have fr558 := Fr.app N0 N558
    clear N0 N558
    have od558 := O.keep K558 (allS g_row all0)
    have f559 := u551.keep K558
    clear u551
    clear u552
    clear u553
    clear u554
    clear u555
    clear u556
    clear u557
    have f566 := F_2.keep K558 (ninS (Ne.symm ne_row_r2) nin0)
    have sz558 : n0 ≤ T558.heap.size := Nat.le_trans Z0 K558.1
    clear K558
    obtain ⟨u567, u568, u569, u570, u571, u572, u573⟩ := B558_0
    refine own_st (st558) ?_
    clear st558 X0 e0
    show OFin p e below s _ _ _ (T558.setTop (mkF m 94 #[.val (.int p1), .val (.int p2), .val (.int p3), .val (.int p4), .val (.int p5), .val (.ref cn), .val (.ref row), .val (.ref r1), .val (.ref r2), .val (.int (0 : Int32)), .val (.ref ra), .val (.ref rb), .val (.ref rc), .unset, .unset, .unset] []))
    exact own_b0 hw hC0 X558 rfl n0 sz558 p1 p2 p3 p4 p5 cn row r1 r2 ra rb rc el em dc S_el E_el F_el A_em S_dc A_dc fr558 od558 g_row ⟨u567, u568, u569, u570, u571, u572, u573⟩ rfl rfl
set_option maxRecDepth 65536 in
set_option maxHeartbeats 40000000 in
theorem own_c1 {l : Launch} {Z : State} {a0 : Array Value} (hw : ∀ d ∈ tables_1, d.before a0 Z = true) {p : Program} {e : Env} {s : State} {m : MethodId} {args : Array Value} {below : List Frame} {meth : Method} {c : Code} (hC : OCtx Z p s m meth c "com/example/notation_search/notationsearch/math/RowReleasePinLaw" "law" code maxLocals ret) {T0 : State} {locs : List Loc} {cells slots : Nat} (X0 : Stand p l e room_1 s m args below meth c T0 locs cells slots) {h0 : Heap} (e0 : T0.heap = h0) (n0 : Nat) (Z0 : n0 ≤ h0.size) (p1 p2 p3 p4 p5 : Int32) (cn row r1 r2 ra rb rc : Addr) (el em dc : Addr) (S_el : Sta Z Z.heap "java/util/ImmutableCollections" "EMPTY_LIST" "Ljava/util/ImmutableCollections$ListN;" (.ref el)) (E_el : Exa Z Z.heap el "java/util/ImmutableCollections$ListN") (F_el : Fld Z Z.heap el "java/util/ImmutableCollections$ListN" "elements" "[Ljava/lang/Object;" (.ref em)) (A_em : OArr Z Z.heap em (.object "java/lang/Object") 0 (fun _ => .null)) (S_dc : Sta Z Z.heap "java/util/ArrayList" "DEFAULTCAPACITY_EMPTY_ELEMENTDATA" "[Ljava/lang/Object;" (.ref dc)) (A_dc : OArr Z Z.heap dc (.object "java/lang/Object") 0 (fun _ => .null)) (N0 : Fr n0 locs) (O : Old Z n0 h0) (g_row : n0 ≤ row) (B_r : BR Z h0 row cn .null) (b : Addr) (E_b : Exa Z h0 b "java/util/ArrayList") (F_s : Fld Z h0 b "java/util/ArrayList" "size" "I" (.int (1 : Int32))) (ne_row_b : row ≠ b) (hcs : cells = 7) (hss : slots = 36) :
    OFin p e below s room_1.cells room_1.slots (fun v h L => v = some (.int (1 : Int32)) ∧ Fr n0 L) (T0.setTop (mkF m 262 #[.val (.int p1), .val (.int p2), .val (.int p3), .val (.int p4), .val (.int p5), .val (.ref cn), .val (.ref row), .val (.ref r1), .val (.ref r2), .val (.int (1 : Int32)), .val (.ref ra), .val (.ref rb), .val (.ref rc), .val (.ref b), .val (.ref el), .unset] [])) := by
  have hC0 := hC
  obtain ⟨hx, hZ, hby, hml, hown, hret, hlk, hnm⟩ := hC
  subst hcs hss
  obtain ⟨u574, u575, u576, u577, u578, u579, u580⟩ := B_r
  refine own_st (fun _ kS => XS.iload X0.here hx rfl (hb hby at_262) rfl kS) ?_
  show OFin p e below s _ _ _ (T0.setTop (mkF m 264 #[.val (.int p1), .val (.int p2), .val (.int p3), .val (.int p4), .val (.int p5), .val (.ref cn), .val (.ref row), .val (.ref r1), .val (.ref r2), .val (.int (1 : Int32)), .val (.ref ra), .val (.ref rb), .val (.ref rc), .val (.ref b), .val (.ref el), .unset] [(.int p5)]))
  refine own_st (fun _ kS => XS.iconst X0.here hx rfl (hb hby at_264) kS) ?_
  show OFin p e below s _ _ _ (T0.setTop (mkF m 265 #[.val (.int p1), .val (.int p2), .val (.int p3), .val (.int p4), .val (.int p5), .val (.ref cn), .val (.ref row), .val (.ref r1), .val (.ref r2), .val (.int (1 : Int32)), .val (.ref ra), .val (.ref rb), .val (.ref rc), .val (.ref b), .val (.ref el), .unset] [(.int (2 : Int32)), (.int p5)]))
  refine own_st (fun _ kS => XS.iand X0.here hx rfl (hb hby at_265) rfl kS) ?_
  show OFin p e below s _ _ _ (T0.setTop (mkF m 266 #[.val (.int p1), .val (.int p2), .val (.int p3), .val (.int p4), .val (.int p5), .val (.ref cn), .val (.ref row), .val (.ref r1), .val (.ref r2), .val (.int (1 : Int32)), .val (.ref ra), .val (.ref rb), .val (.ref rc), .val (.ref b), .val (.ref el), .unset] [(.int (p5 &&& (2 : Int32)))]))
  by_cases c1 : (p5 &&& (2 : Int32)) = (0 : Int32)
  · refine own_st (fun _ kS => XS.ifYes X0.here hx rfl (pc0 := 266) (pc' := 331) rfl (hb hby at_266) rfl ((if0 _ _).trans (teq c1).1) (by decide) (by decide) kS) ?_
    show OFin p e below s _ _ _ (T0.setTop (mkF m 331 #[.val (.int p1), .val (.int p2), .val (.int p3), .val (.int p4), .val (.int p5), .val (.ref cn), .val (.ref row), .val (.ref r1), .val (.ref r2), .val (.int (1 : Int32)), .val (.ref ra), .val (.ref rb), .val (.ref rc), .val (.ref b), .val (.ref el), .unset] []))
    refine own_st (fun _ kS => XS.iconst X0.here hx rfl (hb hby at_331) kS) ?_
    show OFin p e below s _ _ _ (T0.setTop (mkF m 332 #[.val (.int p1), .val (.int p2), .val (.int p3), .val (.int p4), .val (.int p5), .val (.ref cn), .val (.ref row), .val (.ref r1), .val (.ref r2), .val (.int (1 : Int32)), .val (.ref ra), .val (.ref rb), .val (.ref rc), .val (.ref b), .val (.ref el), .unset] [(.int (1 : Int32))]))
    exact own_ret X0 hx (t := .boolean) hret hlk rfl (Or.inl ⟨rfl, by simp, _, rfl⟩) (hb hby at_332) (by decide) (by decide) ⟨rfl, N0⟩
  · refine own_st (fun _ kS => XS.ifNo X0.here hx rfl (hb hby at_266) rfl ((if0 _ _).trans (feq c1).1) kS) ?_
    show OFin p e below s _ _ _ (T0.setTop (mkF m 269 #[.val (.int p1), .val (.int p2), .val (.int p3), .val (.int p4), .val (.int p5), .val (.ref cn), .val (.ref row), .val (.ref r1), .val (.ref r2), .val (.int (1 : Int32)), .val (.ref ra), .val (.ref rb), .val (.ref rc), .val (.ref b), .val (.ref el), .unset] []))
    refine own_st (fun _ kS => XS.aload X0.here hx rfl (hb hby at_269) rfl rfl kS) ?_
    show OFin p e below s _ _ _ (T0.setTop (mkF m 271 #[.val (.int p1), .val (.int p2), .val (.int p3), .val (.int p4), .val (.int p5), .val (.ref cn), .val (.ref row), .val (.ref r1), .val (.ref r2), .val (.int (1 : Int32)), .val (.ref ra), .val (.ref rb), .val (.ref rc), .val (.ref b), .val (.ref el), .unset] [(.ref row)]))
    refine own_st (fun _ kS => XS.aload X0.here hx rfl (hb hby at_271) rfl rfl kS) ?_
    show OFin p e below s _ _ _ (T0.setTop (mkF m 273 #[.val (.int p1), .val (.int p2), .val (.int p3), .val (.int p4), .val (.int p5), .val (.ref cn), .val (.ref row), .val (.ref r1), .val (.ref r2), .val (.int (1 : Int32)), .val (.ref ra), .val (.ref rb), .val (.ref rc), .val (.ref b), .val (.ref el), .unset] [(.ref rc), (.ref row)]))
    refine own_st (fun _ kS => XS.aload X0.here hx rfl (hb hby at_273) rfl rfl kS) ?_
    show OFin p e below s _ _ _ (T0.setTop (mkF m 275 #[.val (.int p1), .val (.int p2), .val (.int p3), .val (.int p4), .val (.int p5), .val (.ref cn), .val (.ref row), .val (.ref r1), .val (.ref r2), .val (.int (1 : Int32)), .val (.ref ra), .val (.ref rb), .val (.ref rc), .val (.ref b), .val (.ref el), .unset] [(.ref r1), (.ref rc), (.ref row)]))
    obtain ⟨v581, T581, L581, X581, hQ581, st581⟩ := own_virtual X0 hx hZ (y := (⟨"com/example/notation_search/notationsearch/math/Row", "hold", "(Lcom/example/notation_search/notationsearch/math/Relation;Lcom/example/notation_search/notationsearch/math/Row;)V"⟩ : MethodName)) (z := (⟨"com/example/notation_search/notationsearch/math/Row", "hold", "(Lcom/example/notation_search/notationsearch/math/Relation;Lcom/example/notation_search/notationsearch/math/Row;)V"⟩ : MethodName)) (rm := ⟨5, 3, 16, 69⟩) (W := 0) (a := row) (argsL := [(.ref rc), (.ref r1)]) (rest := []) hown (own_w hw 73 rfl) (own_w hw 74 rfl) (notFace_of_selects (args := #[]) (mvT hZ (own_w hw 76 rfl))) (own_w hw 76 rfl) (own_w hw 75 rfl) (own_w hw 11 rfl) (own_w hw 77 rfl) (rmH0 l Z a0 hw row rc r1 h0 n0 Z0 cn dc ⟨u574, u575, u576, u577, u578, u579, u580⟩ g_row O S_dc A_dc) e0 u574 (g := (mkF m 275 #[.val (.int p1), .val (.int p2), .val (.int p3), .val (.int p4), .val (.int p5), .val (.ref cn), .val (.ref row), .val (.ref r1), .val (.ref r2), .val (.int (1 : Int32)), .val (.ref ra), .val (.ref rb), .val (.ref rc), .val (.ref b), .val (.ref el), .unset] [(.ref r1), (.ref rc), (.ref row)])) rfl (by rw [hml]; rfl) (lenOf own_pd13 rfl) rfl (by show 2 * 0 + _ ≤ _; exact Nat.le_of_eq rfl) (hb hby at_275) (by decide) (by decide) (by decide) (by decide)
    obtain ⟨rfl, N581, K581, b2, ge_b2, ar2, ge_ar2, s2, ge_s2, ne_b2_ar2, ne_b2_s2, ne_ar2_s2, B581_0, B581_1, B581_2⟩ := hQ581
    have ne_b_b2 : b ≠ b2 := Nat.ne_of_lt (Nat.lt_of_lt_of_le E_b.lt ge_b2)
    have ne_row_b2 : row ≠ b2 := Nat.ne_of_lt (Nat.lt_of_lt_of_le u574.lt ge_b2)
    have g_b2 : n0 ≤ b2 := Nat.le_trans Z0 ge_b2
    have ne_b_ar2 : b ≠ ar2 := Nat.ne_of_lt (Nat.lt_of_lt_of_le E_b.lt ge_ar2)
    have ne_row_ar2 : row ≠ ar2 := Nat.ne_of_lt (Nat.lt_of_lt_of_le u574.lt ge_ar2)
    have g_ar2 : n0 ≤ ar2 := Nat.le_trans Z0 ge_ar2
    have ne_b_s2 : b ≠ s2 := Nat.ne_of_lt (Nat.lt_of_lt_of_le E_b.lt ge_s2)
    have ne_row_s2 : row ≠ s2 := Nat.ne_of_lt (Nat.lt_of_lt_of_le u574.lt ge_s2)
    have g_s2 : n0 ≤ s2 := Nat.le_trans Z0 ge_s2
    have fr581 := Fr.app N0 N581
    clear N0 N581
    have od581 := O.keep K581 (allS g_row all0)
    have f582 := u574.keep K581
    clear u574
    clear u575
    clear u576
    clear u577
    clear u578
    clear u579
    clear u580
    have f589 := E_b.keep K581
    have f590 := F_s.keep K581 (ninS (Ne.symm ne_row_b) nin0)
    have sz581 : n0 ≤ T581.heap.size := Nat.le_trans Z0 K581.1
    clear K581
    obtain ⟨u591, u592, u593, u594, u595, u596, u597⟩ := B581_0
    obtain ⟨u598, u599, u600, u601, u602⟩ := B581_1
    obtain ⟨u603, u604, u605, u606⟩ := B581_2
    refine own_st (st581) ?_
    clear st581 X0 e0
    show OFin p e below s _ _ _ (T581.setTop (mkF m 278 #[.val (.int p1), .val (.int p2), .val (.int p3), .val (.int p4), .val (.int p5), .val (.ref cn), .val (.ref row), .val (.ref r1), .val (.ref r2), .val (.int (1 : Int32)), .val (.ref ra), .val (.ref rb), .val (.ref rc), .val (.ref b), .val (.ref el), .unset] []))
    refine own_st (fun _ kS => XS.aload X581.here hx rfl (hb hby at_278) rfl rfl kS) ?_
    show OFin p e below s _ _ _ (T581.setTop (mkF m 280 #[.val (.int p1), .val (.int p2), .val (.int p3), .val (.int p4), .val (.int p5), .val (.ref cn), .val (.ref row), .val (.ref r1), .val (.ref r2), .val (.int (1 : Int32)), .val (.ref ra), .val (.ref rb), .val (.ref rc), .val (.ref b), .val (.ref el), .unset] [(.ref row)]))
    obtain ⟨v607, T607, L607, X607, hQ607, st607⟩ := own_virtual X581 hx hZ (y := (⟨"com/example/notation_search/notationsearch/math/Row", "release", "()Ljava/util/List;"⟩ : MethodName)) (z := (⟨"com/example/notation_search/notationsearch/math/Row", "release", "()Ljava/util/List;"⟩ : MethodName)) (rm := ⟨0, 0, 0, 0⟩) (W := 0) (a := row) (argsL := []) (rest := []) hown (own_w hw 29 rfl) (own_w hw 30 rfl) (notFace_of_selects (args := #[]) (mvT hZ (own_w hw 32 rfl))) (own_w hw 32 rfl) (own_w hw 31 rfl) (own_w hw 11 rfl) (own_w hw 33 rfl) (rmRW l Z a0 hw row T581.heap n0 cn b2 ⟨u591, u592, u593, u594, u595, u596, u597⟩ g_row) rfl u591 (g := (mkF m 280 #[.val (.int p1), .val (.int p2), .val (.int p3), .val (.int p4), .val (.int p5), .val (.ref cn), .val (.ref row), .val (.ref r1), .val (.ref r2), .val (.int (1 : Int32)), .val (.ref ra), .val (.ref rb), .val (.ref rc), .val (.ref b), .val (.ref el), .unset] [(.ref row)])) rfl (by rw [hml]; rfl) (lenOf own_pd1 rfl) rfl (by show 2 * 0 + _ ≤ _; exact Nat.le_of_eq rfl) (hb hby at_280) (by decide) (by decide) (by decide) (by decide)
    obtain ⟨rfl, N607, K607, B607_0⟩ := hQ607
    have fr607 := Fr.app fr581 N607
    clear fr581 N607
    have od607 := od581.keep K607 (allS g_row all0)
    clear od581
    have f608 := u591.keep K607
    clear u591
    have f609 := f589.keep K607
    clear f589
    have f610 := f590.keep K607 (ninS (Ne.symm ne_row_b) nin0)
    clear f590
    clear u592
    clear u593
    clear u594
    clear u595
    clear u596
    clear u597
    have f617 := u598.keep K607
    clear u598
    have f618 := u599.keep K607 (ninS (Ne.symm ne_row_b2) nin0)
    clear u599
    have f619 := u600.keep K607 (ninS (Ne.symm ne_row_b2) nin0)
    clear u600
    have f620 := u601.keep K607 (ninS (Ne.symm ne_row_b2) nin0)
    clear u601
    have f621 := u602.keep K607 (ninS (Ne.symm ne_row_ar2) nin0)
    clear u602
    have f622 := u603.keep K607
    clear u603
    have f623 := u604.keep K607 (ninS (Ne.symm ne_row_s2) nin0)
    clear u604
    have f624 := u605.keep K607 (ninS (Ne.symm ne_row_s2) nin0)
    clear u605
    have f625 := u606.keep K607 (ninS (Ne.symm ne_row_s2) nin0)
    clear u606
    have sz607 : n0 ≤ T607.heap.size := Nat.le_trans sz581 K607.1
    clear sz581
    clear K607
    obtain ⟨u626, u627, u628, u629, u630, u631, u632⟩ := B607_0
    refine own_st (st607) ?_
    clear st607 X581
    show OFin p e below s _ _ _ (T607.setTop (mkF m 283 #[.val (.int p1), .val (.int p2), .val (.int p3), .val (.int p4), .val (.int p5), .val (.ref cn), .val (.ref row), .val (.ref r1), .val (.ref r2), .val (.int (1 : Int32)), .val (.ref ra), .val (.ref rb), .val (.ref rc), .val (.ref b), .val (.ref el), .unset] [(.ref b2)]))
    refine own_st (fun _ kS => XS.astore X607.here hx rfl (hb hby at_283) rfl rfl (l' := #[.val (.int p1), .val (.int p2), .val (.int p3), .val (.int p4), .val (.int p5), .val (.ref cn), .val (.ref row), .val (.ref r1), .val (.ref r2), .val (.int (1 : Int32)), .val (.ref ra), .val (.ref rb), .val (.ref rc), .val (.ref b), .val (.ref el), .val (.ref b2)]) rfl kS) ?_
    show OFin p e below s _ _ _ (T607.setTop (mkF m 285 #[.val (.int p1), .val (.int p2), .val (.int p3), .val (.int p4), .val (.int p5), .val (.ref cn), .val (.ref row), .val (.ref r1), .val (.ref r2), .val (.int (1 : Int32)), .val (.ref ra), .val (.ref rb), .val (.ref rc), .val (.ref b), .val (.ref el), .val (.ref b2)] []))
    refine own_st (fun _ kS => XS.aload X607.here hx rfl (hb hby at_285) rfl rfl kS) ?_
    show OFin p e below s _ _ _ (T607.setTop (mkF m 287 #[.val (.int p1), .val (.int p2), .val (.int p3), .val (.int p4), .val (.int p5), .val (.ref cn), .val (.ref row), .val (.ref r1), .val (.ref r2), .val (.int (1 : Int32)), .val (.ref ra), .val (.ref rb), .val (.ref rc), .val (.ref b), .val (.ref el), .val (.ref b2)] [(.ref b2)]))
    obtain ⟨v633, T633, L633, X633, hQ633, st633⟩ := own_face X607 hx hZ (y := (⟨"java/util/List", "size", "()I"⟩ : MethodName)) (z := (⟨"java/util/ArrayList", "size", "()I"⟩ : MethodName)) (rm := ⟨0, 0, 0, 0⟩) (W := 0) (a := b2) (argsL := []) (rest := []) hown (own_w hw 42 rfl) (own_w hw 43 rfl) (mvT hZ (own_w hw 44 rfl)) (own_w hw 164 rfl) (own_w hw 165 rfl) (own_w hw 166 rfl) (own_w hw 167 rfl) (own_w hw 127 rfl) (own_w hw 80 rfl) (own_w hw 168 rfl) (rmSz l Z a0 hw b2 T607.heap (1 : Int32) f620) rfl f617 (g := (mkF m 287 #[.val (.int p1), .val (.int p2), .val (.int p3), .val (.int p4), .val (.int p5), .val (.ref cn), .val (.ref row), .val (.ref r1), .val (.ref r2), .val (.int (1 : Int32)), .val (.ref ra), .val (.ref rb), .val (.ref rc), .val (.ref b), .val (.ref el), .val (.ref b2)] [(.ref b2)])) rfl (by rw [hml]; rfl) (lenOf own_pd14 rfl) rfl (by show 2 * 0 + _ ≤ _; exact Nat.le_of_eq rfl) (hb hby at_287) (by decide) (by decide) (by decide) (by decide)
    obtain ⟨rfl, e633, rfl⟩ := hQ633
    rw [List.append_nil] at X633
    refine own_st (st633) ?_
    clear st633 X607
    show OFin p e below s _ _ _ (T633.setTop (mkF m 292 #[.val (.int p1), .val (.int p2), .val (.int p3), .val (.int p4), .val (.int p5), .val (.ref cn), .val (.ref row), .val (.ref r1), .val (.ref r2), .val (.int (1 : Int32)), .val (.ref ra), .val (.ref rb), .val (.ref rc), .val (.ref b), .val (.ref el), .val (.ref b2)] [(.int (1 : Int32))]))
    refine own_st (fun _ kS => XS.iconst X633.here hx rfl (hb hby at_292) kS) ?_
    show OFin p e below s _ _ _ (T633.setTop (mkF m 293 #[.val (.int p1), .val (.int p2), .val (.int p3), .val (.int p4), .val (.int p5), .val (.ref cn), .val (.ref row), .val (.ref r1), .val (.ref r2), .val (.int (1 : Int32)), .val (.ref ra), .val (.ref rb), .val (.ref rc), .val (.ref b), .val (.ref el), .val (.ref b2)] [(.int (1 : Int32)), (.int (1 : Int32))]))
    refine own_st (fun _ kS => XS.icmpNo X633.here hx rfl (hb hby at_293) rfl (teq rfl).2 kS) ?_
    show OFin p e below s _ _ _ (T633.setTop (mkF m 296 #[.val (.int p1), .val (.int p2), .val (.int p3), .val (.int p4), .val (.int p5), .val (.ref cn), .val (.ref row), .val (.ref r1), .val (.ref r2), .val (.int (1 : Int32)), .val (.ref ra), .val (.ref rb), .val (.ref rc), .val (.ref b), .val (.ref el), .val (.ref b2)] []))
    refine own_st (fun _ kS => XS.aload X633.here hx rfl (hb hby at_296) rfl rfl kS) ?_
    show OFin p e below s _ _ _ (T633.setTop (mkF m 298 #[.val (.int p1), .val (.int p2), .val (.int p3), .val (.int p4), .val (.int p5), .val (.ref cn), .val (.ref row), .val (.ref r1), .val (.ref r2), .val (.int (1 : Int32)), .val (.ref ra), .val (.ref rb), .val (.ref rc), .val (.ref b), .val (.ref el), .val (.ref b2)] [(.ref b2)]))
    refine own_st (fun _ kS => XS.iconst X633.here hx rfl (hb hby at_298) kS) ?_
    show OFin p e below s _ _ _ (T633.setTop (mkF m 299 #[.val (.int p1), .val (.int p2), .val (.int p3), .val (.int p4), .val (.int p5), .val (.ref cn), .val (.ref row), .val (.ref r1), .val (.ref r2), .val (.int (1 : Int32)), .val (.ref ra), .val (.ref rb), .val (.ref rc), .val (.ref b), .val (.ref el), .val (.ref b2)] [(.int (0 : Int32)), (.ref b2)]))
    obtain ⟨v634, T634, L634, X634, hQ634, st634⟩ := own_face X633 hx hZ (y := (⟨"java/util/List", "get", "(I)Ljava/lang/Object;"⟩ : MethodName)) (z := (⟨"java/util/ArrayList", "get", "(I)Ljava/lang/Object;"⟩ : MethodName)) (rm := ⟨2, 0, 0, 27⟩) (W := 0) (a := b2) (argsL := [(.int (0 : Int32))]) (rest := []) hown (own_w hw 169 rfl) (own_w hw 170 rfl) (mvT hZ (own_w hw 171 rfl)) (own_w hw 172 rfl) (own_w hw 173 rfl) (own_w hw 174 rfl) (own_w hw 175 rfl) (own_w hw 127 rfl) (own_w hw 80 rfl) (own_w hw 176 rfl) (rmGet l Z a0 hw b2 (0 : Int32) T607.heap ar2 s2 (1 : Int32) (1 : Int32) (fun i => if i = 0 then .ref s2 else (fun _ => .null) i) 0 ⟨f617, f618, f619, f620, f621⟩ (by decide) (by decide) rfl (by decide) rfl) e633 f617 (g := (mkF m 299 #[.val (.int p1), .val (.int p2), .val (.int p3), .val (.int p4), .val (.int p5), .val (.ref cn), .val (.ref row), .val (.ref r1), .val (.ref r2), .val (.int (1 : Int32)), .val (.ref ra), .val (.ref rb), .val (.ref rc), .val (.ref b), .val (.ref el), .val (.ref b2)] [(.int (0 : Int32)), (.ref b2)])) rfl (by rw [hml]; rfl) (lenOf own_pd7 rfl) rfl (by show 2 * 0 + _ ≤ _; exact Nat.le_of_eq rfl) (hb hby at_299) (by decide) (by decide) (by decide) (by decide)
    obtain ⟨rfl, e634, rfl⟩ := hQ634
    rw [List.append_nil] at X634
    refine own_st (st634) ?_
    clear st634 X633 e633
    show OFin p e below s _ _ _ (T634.setTop (mkF m 304 #[.val (.int p1), .val (.int p2), .val (.int p3), .val (.int p4), .val (.int p5), .val (.ref cn), .val (.ref row), .val (.ref r1), .val (.ref r2), .val (.int (1 : Int32)), .val (.ref ra), .val (.ref rb), .val (.ref rc), .val (.ref b), .val (.ref el), .val (.ref b2)] [(.ref s2)]))
    obtain ⟨T635, X635, e635, st635⟩ := castY X634 hx hZ hown (own_w hw 190 rfl) e634 (Ins.self f622) (g := (mkF m 304 #[.val (.int p1), .val (.int p2), .val (.int p3), .val (.int p4), .val (.int p5), .val (.ref cn), .val (.ref row), .val (.ref r1), .val (.ref r2), .val (.int (1 : Int32)), .val (.ref ra), .val (.ref rb), .val (.ref rc), .val (.ref b), .val (.ref el), .val (.ref b2)] [(.ref s2)])) rfl rfl (hb hby at_304)
    refine own_st (st635) ?_
    clear st635 X634 e634
    show OFin p e below s _ _ _ (T635.setTop (mkF m 307 #[.val (.int p1), .val (.int p2), .val (.int p3), .val (.int p4), .val (.int p5), .val (.ref cn), .val (.ref row), .val (.ref r1), .val (.ref r2), .val (.int (1 : Int32)), .val (.ref ra), .val (.ref rb), .val (.ref rc), .val (.ref b), .val (.ref el), .val (.ref b2)] [(.ref s2)]))
    refine own_st (fun _ kS => XS.aload X635.here hx rfl (hb hby at_307) rfl rfl kS) ?_
    show OFin p e below s _ _ _ (T635.setTop (mkF m 309 #[.val (.int p1), .val (.int p2), .val (.int p3), .val (.int p4), .val (.int p5), .val (.ref cn), .val (.ref row), .val (.ref r1), .val (.ref r2), .val (.int (1 : Int32)), .val (.ref ra), .val (.ref rb), .val (.ref rc), .val (.ref b), .val (.ref el), .val (.ref b2)] [(.ref rc), (.ref s2)]))
    refine own_st (fun _ kS => XS.aload X635.here hx rfl (hb hby at_309) rfl rfl kS) ?_
    show OFin p e below s _ _ _ (T635.setTop (mkF m 311 #[.val (.int p1), .val (.int p2), .val (.int p3), .val (.int p4), .val (.int p5), .val (.ref cn), .val (.ref row), .val (.ref r1), .val (.ref r2), .val (.int (1 : Int32)), .val (.ref ra), .val (.ref rb), .val (.ref rc), .val (.ref b), .val (.ref el), .val (.ref b2)] [(.ref r1), (.ref rc), (.ref s2)]))
    obtain ⟨v636, T636, L636, X636, hQ636, st636⟩ := own_static X635 hx hZ (y := (⟨"com/example/notation_search/notationsearch/math/RowReleasePinLaw", "same", "(Lcom/example/notation_search/notationsearch/math/Row$Script;Lcom/example/notation_search/notationsearch/math/Relation;Lcom/example/notation_search/notationsearch/math/Row;)Z"⟩ : MethodName)) (rm := ⟨1, 0, 0, 12⟩) (W := 0) (argsL := [(.ref s2), (.ref rc), (.ref r1)]) (rest := []) hown (own_w hw 192 rfl) (own_w hw 193 rfl) (own_w hw 20 rfl) (own_w hw 194 rfl) (rmSame l Z a0 hw s2 rc r1 T607.heap ⟨f622, f623, f624, f625⟩) e635 (g := (mkF m 311 #[.val (.int p1), .val (.int p2), .val (.int p3), .val (.int p4), .val (.int p5), .val (.ref cn), .val (.ref row), .val (.ref r1), .val (.ref r2), .val (.int (1 : Int32)), .val (.ref ra), .val (.ref rb), .val (.ref rc), .val (.ref b), .val (.ref el), .val (.ref b2)] [(.ref r1), (.ref rc), (.ref s2)])) rfl (by rw [hml]; rfl) (lenOf own_pd15 rfl) rfl (by show 2 * 0 + _ ≤ _; exact Nat.le_of_eq rfl) (hb hby at_311) (by decide) (by decide) (by decide) (by decide)
    obtain ⟨rfl, e636, rfl⟩ := hQ636
    rw [List.append_nil] at X636
    refine own_st (st636) ?_
    clear st636 X635 e635
    show OFin p e below s _ _ _ (T636.setTop (mkF m 314 #[.val (.int p1), .val (.int p2), .val (.int p3), .val (.int p4), .val (.int p5), .val (.ref cn), .val (.ref row), .val (.ref r1), .val (.ref r2), .val (.int (1 : Int32)), .val (.ref ra), .val (.ref rb), .val (.ref rc), .val (.ref b), .val (.ref el), .val (.ref b2)] [(.int (1 : Int32))]))
    refine own_st (fun _ kS => XS.ifNo X636.here hx rfl (hb hby at_314) rfl ((if0 _ _).trans (feq (by decide)).1) kS) ?_
    show OFin p e below s _ _ _ (T636.setTop (mkF m 317 #[.val (.int p1), .val (.int p2), .val (.int p3), .val (.int p4), .val (.int p5), .val (.ref cn), .val (.ref row), .val (.ref r1), .val (.ref r2), .val (.int (1 : Int32)), .val (.ref ra), .val (.ref rb), .val (.ref rc), .val (.ref b), .val (.ref el), .val (.ref b2)] []))
    refine own_st (fun _ kS => XS.aload X636.here hx rfl (hb hby at_317) rfl rfl kS) ?_
    show OFin p e below s _ _ _ (T636.setTop (mkF m 319 #[.val (.int p1), .val (.int p2), .val (.int p3), .val (.int p4), .val (.int p5), .val (.ref cn), .val (.ref row), .val (.ref r1), .val (.ref r2), .val (.int (1 : Int32)), .val (.ref ra), .val (.ref rb), .val (.ref rc), .val (.ref b), .val (.ref el), .val (.ref b2)] [(.ref b)]))
    obtain ⟨v637, T637, L637, X637, hQ637, st637⟩ := own_face X636 hx hZ (y := (⟨"java/util/List", "size", "()I"⟩ : MethodName)) (z := (⟨"java/util/ArrayList", "size", "()I"⟩ : MethodName)) (rm := ⟨0, 0, 0, 0⟩) (W := 0) (a := b) (argsL := []) (rest := []) hown (own_w hw 42 rfl) (own_w hw 43 rfl) (mvT hZ (own_w hw 44 rfl)) (own_w hw 164 rfl) (own_w hw 165 rfl) (own_w hw 166 rfl) (own_w hw 167 rfl) (own_w hw 127 rfl) (own_w hw 80 rfl) (own_w hw 168 rfl) (rmSz l Z a0 hw b T607.heap (1 : Int32) f610) e636 f609 (g := (mkF m 319 #[.val (.int p1), .val (.int p2), .val (.int p3), .val (.int p4), .val (.int p5), .val (.ref cn), .val (.ref row), .val (.ref r1), .val (.ref r2), .val (.int (1 : Int32)), .val (.ref ra), .val (.ref rb), .val (.ref rc), .val (.ref b), .val (.ref el), .val (.ref b2)] [(.ref b)])) rfl (by rw [hml]; rfl) (lenOf own_pd14 rfl) rfl (by show 2 * 0 + _ ≤ _; exact Nat.le_of_eq rfl) (hb hby at_319) (by decide) (by decide) (by decide) (by decide)
    obtain ⟨rfl, e637, rfl⟩ := hQ637
    rw [List.append_nil] at X637
    refine own_st (st637) ?_
    clear st637 X636 e636
    show OFin p e below s _ _ _ (T637.setTop (mkF m 324 #[.val (.int p1), .val (.int p2), .val (.int p3), .val (.int p4), .val (.int p5), .val (.ref cn), .val (.ref row), .val (.ref r1), .val (.ref r2), .val (.int (1 : Int32)), .val (.ref ra), .val (.ref rb), .val (.ref rc), .val (.ref b), .val (.ref el), .val (.ref b2)] [(.int (1 : Int32))]))
    refine own_st (fun _ kS => XS.iload X637.here hx rfl (hb hby at_324) rfl kS) ?_
    show OFin p e below s _ _ _ (T637.setTop (mkF m 326 #[.val (.int p1), .val (.int p2), .val (.int p3), .val (.int p4), .val (.int p5), .val (.ref cn), .val (.ref row), .val (.ref r1), .val (.ref r2), .val (.int (1 : Int32)), .val (.ref ra), .val (.ref rb), .val (.ref rc), .val (.ref b), .val (.ref el), .val (.ref b2)] [(.int (1 : Int32)), (.int (1 : Int32))]))
    refine own_st (fun _ kS => XS.icmpYes X637.here hx rfl (pc0 := 326) (pc' := 331) rfl (hb hby at_326) rfl (teq rfl).1 (by decide) (by decide) kS) ?_
    show OFin p e below s _ _ _ (T637.setTop (mkF m 331 #[.val (.int p1), .val (.int p2), .val (.int p3), .val (.int p4), .val (.int p5), .val (.ref cn), .val (.ref row), .val (.ref r1), .val (.ref r2), .val (.int (1 : Int32)), .val (.ref ra), .val (.ref rb), .val (.ref rc), .val (.ref b), .val (.ref el), .val (.ref b2)] []))
    refine own_st (fun _ kS => XS.iconst X637.here hx rfl (hb hby at_331) kS) ?_
    show OFin p e below s _ _ _ (T637.setTop (mkF m 332 #[.val (.int p1), .val (.int p2), .val (.int p3), .val (.int p4), .val (.int p5), .val (.ref cn), .val (.ref row), .val (.ref r1), .val (.ref r2), .val (.int (1 : Int32)), .val (.ref ra), .val (.ref rb), .val (.ref rc), .val (.ref b), .val (.ref el), .val (.ref b2)] [(.int (1 : Int32))]))
    exact own_ret X637 hx (t := .boolean) hret hlk rfl (Or.inl ⟨rfl, by simp, _, rfl⟩) (hb hby at_332) (by decide) (by decide) ⟨rfl, fr607⟩
set_option maxRecDepth 65536 in
set_option maxHeartbeats 40000000 in
theorem own_b1 {l : Launch} {Z : State} {a0 : Array Value} (hw : ∀ d ∈ tables_1, d.before a0 Z = true) {p : Program} {e : Env} {s : State} {m : MethodId} {args : Array Value} {below : List Frame} {meth : Method} {c : Code} (hC : OCtx Z p s m meth c "com/example/notation_search/notationsearch/math/RowReleasePinLaw" "law" code maxLocals ret) {T0 : State} {locs : List Loc} {cells slots : Nat} (X0 : Stand p l e room_1 s m args below meth c T0 locs cells slots) {h0 : Heap} (e0 : T0.heap = h0) (n0 : Nat) (Z0 : n0 ≤ h0.size) (p1 p2 p3 p4 p5 : Int32) (cn row r1 r2 ra rb rc : Addr) (el em dc : Addr) (S_el : Sta Z Z.heap "java/util/ImmutableCollections" "EMPTY_LIST" "Ljava/util/ImmutableCollections$ListN;" (.ref el)) (E_el : Exa Z Z.heap el "java/util/ImmutableCollections$ListN") (F_el : Fld Z Z.heap el "java/util/ImmutableCollections$ListN" "elements" "[Ljava/lang/Object;" (.ref em)) (A_em : OArr Z Z.heap em (.object "java/lang/Object") 0 (fun _ => .null)) (S_dc : Sta Z Z.heap "java/util/ArrayList" "DEFAULTCAPACITY_EMPTY_ELEMENTDATA" "[Ljava/lang/Object;" (.ref dc)) (A_dc : OArr Z Z.heap dc (.object "java/lang/Object") 0 (fun _ => .null)) (N0 : Fr n0 locs) (O : Old Z n0 h0) (g_row : n0 ≤ row) (b ar s1 : Addr) (B_r : BR Z h0 row cn (.ref b)) (B_b : BL Z h0 b ar (1 : Int32) (1 : Int32) (fun i => if i = 0 then .ref s1 else (fun _ => .null) i)) (B_s : BS Z h0 s1 ra r1) (ne_row_b : row ≠ b) (ne_row_ar : row ≠ ar) (ne_row_s1 : row ≠ s1) (ne_b_ar : b ≠ ar) (ne_b_s1 : b ≠ s1) (ne_ar_s1 : ar ≠ s1) (g_b : n0 ≤ b) (g_ar : n0 ≤ ar) (hcs : cells = 7) (hss : slots = 36) :
    OFin p e below s room_1.cells room_1.slots (fun v h L => v = some (.int (1 : Int32)) ∧ Fr n0 L) (T0.setTop (mkF m 94 #[.val (.int p1), .val (.int p2), .val (.int p3), .val (.int p4), .val (.int p5), .val (.ref cn), .val (.ref row), .val (.ref r1), .val (.ref r2), .val (.int (1 : Int32)), .val (.ref ra), .val (.ref rb), .val (.ref rc), .unset, .unset, .unset] [])) := by
  have hC0 := hC
  obtain ⟨hx, hZ, hby, hml, hown, hret, hlk, hnm⟩ := hC
  subst hcs hss
  obtain ⟨u638, u639, u640, u641, u642, u643, u644⟩ := B_r
  obtain ⟨u645, u646, u647, u648, u649⟩ := B_b
  obtain ⟨u650, u651, u652, u653⟩ := B_s
  refine own_st (fun _ kS => XS.iload X0.here hx rfl (hb hby at_94) rfl kS) ?_
  show OFin p e below s _ _ _ (T0.setTop (mkF m 96 #[.val (.int p1), .val (.int p2), .val (.int p3), .val (.int p4), .val (.int p5), .val (.ref cn), .val (.ref row), .val (.ref r1), .val (.ref r2), .val (.int (1 : Int32)), .val (.ref ra), .val (.ref rb), .val (.ref rc), .unset, .unset, .unset] [(.int (1 : Int32))]))
  refine own_st (fun _ kS => XS.iconst X0.here hx rfl (hb hby at_96) kS) ?_
  show OFin p e below s _ _ _ (T0.setTop (mkF m 97 #[.val (.int p1), .val (.int p2), .val (.int p3), .val (.int p4), .val (.int p5), .val (.ref cn), .val (.ref row), .val (.ref r1), .val (.ref r2), .val (.int (1 : Int32)), .val (.ref ra), .val (.ref rb), .val (.ref rc), .unset, .unset, .unset] [(.int (2 : Int32)), (.int (1 : Int32))]))
  refine own_st (fun _ kS => XS.icmpYes X0.here hx rfl (pc0 := 97) (pc' := 109) rfl (hb hby at_97) rfl (tlt (by decide)).1 (by decide) (by decide) kS) ?_
  show OFin p e below s _ _ _ (T0.setTop (mkF m 109 #[.val (.int p1), .val (.int p2), .val (.int p3), .val (.int p4), .val (.int p5), .val (.ref cn), .val (.ref row), .val (.ref r1), .val (.ref r2), .val (.int (1 : Int32)), .val (.ref ra), .val (.ref rb), .val (.ref rc), .unset, .unset, .unset] []))
  refine own_st (fun _ kS => XS.iload X0.here hx rfl (hb hby at_109) rfl kS) ?_
  show OFin p e below s _ _ _ (T0.setTop (mkF m 111 #[.val (.int p1), .val (.int p2), .val (.int p3), .val (.int p4), .val (.int p5), .val (.ref cn), .val (.ref row), .val (.ref r1), .val (.ref r2), .val (.int (1 : Int32)), .val (.ref ra), .val (.ref rb), .val (.ref rc), .unset, .unset, .unset] [(.int (1 : Int32))]))
  refine own_st (fun _ kS => XS.iconst X0.here hx rfl (hb hby at_111) kS) ?_
  show OFin p e below s _ _ _ (T0.setTop (mkF m 112 #[.val (.int p1), .val (.int p2), .val (.int p3), .val (.int p4), .val (.int p5), .val (.ref cn), .val (.ref row), .val (.ref r1), .val (.ref r2), .val (.int (1 : Int32)), .val (.ref ra), .val (.ref rb), .val (.ref rc), .unset, .unset, .unset] [(.int (3 : Int32)), (.int (1 : Int32))]))
  refine own_st (fun _ kS => XS.icmpYes X0.here hx rfl (pc0 := 112) (pc' := 124) rfl (hb hby at_112) rfl (tlt (by decide)).1 (by decide) (by decide) kS) ?_
  show OFin p e below s _ _ _ (T0.setTop (mkF m 124 #[.val (.int p1), .val (.int p2), .val (.int p3), .val (.int p4), .val (.int p5), .val (.ref cn), .val (.ref row), .val (.ref r1), .val (.ref r2), .val (.int (1 : Int32)), .val (.ref ra), .val (.ref rb), .val (.ref rc), .unset, .unset, .unset] []))
  refine own_st (fun _ kS => XS.aload X0.here hx rfl (hb hby at_124) rfl rfl kS) ?_
  show OFin p e below s _ _ _ (T0.setTop (mkF m 126 #[.val (.int p1), .val (.int p2), .val (.int p3), .val (.int p4), .val (.int p5), .val (.ref cn), .val (.ref row), .val (.ref r1), .val (.ref r2), .val (.int (1 : Int32)), .val (.ref ra), .val (.ref rb), .val (.ref rc), .unset, .unset, .unset] [(.ref row)]))
  obtain ⟨v654, T654, L654, X654, hQ654, st654⟩ := own_virtual X0 hx hZ (y := (⟨"com/example/notation_search/notationsearch/math/Row", "release", "()Ljava/util/List;"⟩ : MethodName)) (z := (⟨"com/example/notation_search/notationsearch/math/Row", "release", "()Ljava/util/List;"⟩ : MethodName)) (rm := ⟨0, 0, 0, 0⟩) (W := 0) (a := row) (argsL := []) (rest := []) hown (own_w hw 29 rfl) (own_w hw 30 rfl) (notFace_of_selects (args := #[]) (mvT hZ (own_w hw 32 rfl))) (own_w hw 32 rfl) (own_w hw 31 rfl) (own_w hw 11 rfl) (own_w hw 33 rfl) (rmRW l Z a0 hw row h0 n0 cn b ⟨u638, u639, u640, u641, u642, u643, u644⟩ g_row) e0 u638 (g := (mkF m 126 #[.val (.int p1), .val (.int p2), .val (.int p3), .val (.int p4), .val (.int p5), .val (.ref cn), .val (.ref row), .val (.ref r1), .val (.ref r2), .val (.int (1 : Int32)), .val (.ref ra), .val (.ref rb), .val (.ref rc), .unset, .unset, .unset] [(.ref row)])) rfl (by rw [hml]; rfl) (lenOf own_pd1 rfl) rfl (by show 2 * 0 + _ ≤ _; exact Nat.le_of_eq rfl) (hb hby at_126) (by decide) (by decide) (by decide) (by decide)
  obtain ⟨rfl, N654, K654, B654_0⟩ := hQ654
  have fr654 := Fr.app N0 N654
  clear N0 N654
  have od654 := O.keep K654 (allS g_row all0)
  have f655 := u638.keep K654
  clear u638
  clear u639
  clear u640
  clear u641
  clear u642
  clear u643
  clear u644
  have f662 := u645.keep K654
  clear u645
  have f663 := u646.keep K654 (ninS (Ne.symm ne_row_b) nin0)
  clear u646
  have f664 := u647.keep K654 (ninS (Ne.symm ne_row_b) nin0)
  clear u647
  have f665 := u648.keep K654 (ninS (Ne.symm ne_row_b) nin0)
  clear u648
  have f666 := u649.keep K654 (ninS (Ne.symm ne_row_ar) nin0)
  clear u649
  have f667 := u650.keep K654
  clear u650
  have f668 := u651.keep K654 (ninS (Ne.symm ne_row_s1) nin0)
  clear u651
  have f669 := u652.keep K654 (ninS (Ne.symm ne_row_s1) nin0)
  clear u652
  have f670 := u653.keep K654 (ninS (Ne.symm ne_row_s1) nin0)
  clear u653
  have sz654 : n0 ≤ T654.heap.size := Nat.le_trans Z0 K654.1
  clear K654
  obtain ⟨u671, u672, u673, u674, u675, u676, u677⟩ := B654_0
  refine own_st (st654) ?_
  clear st654 X0 e0
  show OFin p e below s _ _ _ (T654.setTop (mkF m 129 #[.val (.int p1), .val (.int p2), .val (.int p3), .val (.int p4), .val (.int p5), .val (.ref cn), .val (.ref row), .val (.ref r1), .val (.ref r2), .val (.int (1 : Int32)), .val (.ref ra), .val (.ref rb), .val (.ref rc), .unset, .unset, .unset] [(.ref b)]))
  refine own_st (fun _ kS => XS.astore X654.here hx rfl (hb hby at_129) rfl rfl (l' := #[.val (.int p1), .val (.int p2), .val (.int p3), .val (.int p4), .val (.int p5), .val (.ref cn), .val (.ref row), .val (.ref r1), .val (.ref r2), .val (.int (1 : Int32)), .val (.ref ra), .val (.ref rb), .val (.ref rc), .val (.ref b), .unset, .unset]) rfl kS) ?_
  show OFin p e below s _ _ _ (T654.setTop (mkF m 131 #[.val (.int p1), .val (.int p2), .val (.int p3), .val (.int p4), .val (.int p5), .val (.ref cn), .val (.ref row), .val (.ref r1), .val (.ref r2), .val (.int (1 : Int32)), .val (.ref ra), .val (.ref rb), .val (.ref rc), .val (.ref b), .unset, .unset] []))
  refine own_st (fun _ kS => XS.aload X654.here hx rfl (hb hby at_131) rfl rfl kS) ?_
  show OFin p e below s _ _ _ (T654.setTop (mkF m 133 #[.val (.int p1), .val (.int p2), .val (.int p3), .val (.int p4), .val (.int p5), .val (.ref cn), .val (.ref row), .val (.ref r1), .val (.ref r2), .val (.int (1 : Int32)), .val (.ref ra), .val (.ref rb), .val (.ref rc), .val (.ref b), .unset, .unset] [(.ref row)]))
  obtain ⟨v678, T678, L678, X678, hQ678, st678⟩ := own_virtual X654 hx hZ (y := (⟨"com/example/notation_search/notationsearch/math/Row", "release", "()Ljava/util/List;"⟩ : MethodName)) (z := (⟨"com/example/notation_search/notationsearch/math/Row", "release", "()Ljava/util/List;"⟩ : MethodName)) (rm := ⟨1, 0, 0, 11⟩) (W := 0) (a := row) (argsL := []) (rest := []) hown (own_w hw 29 rfl) (own_w hw 30 rfl) (notFace_of_selects (args := #[]) (mvT hZ (own_w hw 32 rfl))) (own_w hw 32 rfl) (own_w hw 31 rfl) (own_w hw 11 rfl) (own_w hw 33 rfl) (rmRN l Z a0 hw row T654.heap n0 cn el ⟨u671, u672, u673, u674, u675, u676, u677⟩ g_row S_el od654) rfl u671 (g := (mkF m 133 #[.val (.int p1), .val (.int p2), .val (.int p3), .val (.int p4), .val (.int p5), .val (.ref cn), .val (.ref row), .val (.ref r1), .val (.ref r2), .val (.int (1 : Int32)), .val (.ref ra), .val (.ref rb), .val (.ref rc), .val (.ref b), .unset, .unset] [(.ref row)])) rfl (by rw [hml]; rfl) (lenOf own_pd1 rfl) rfl (by show 2 * 0 + _ ≤ _; exact Nat.le_of_eq rfl) (hb hby at_133) (by decide) (by decide) (by decide) (by decide)
  obtain ⟨rfl, N678, K678, B678_0⟩ := hQ678
  have fr678 := Fr.app fr654 N678
  clear fr654 N678
  have od678 := od654.keep K678 (allS g_row all0)
  clear od654
  have f679 := u671.keep K678
  clear u671
  have f680 := f662.keep K678
  clear f662
  have f681 := f663.keep K678 (ninS (Ne.symm ne_row_b) nin0)
  clear f663
  have f682 := f664.keep K678 (ninS (Ne.symm ne_row_b) nin0)
  clear f664
  have f683 := f665.keep K678 (ninS (Ne.symm ne_row_b) nin0)
  clear f665
  have f684 := f666.keep K678 (ninS (Ne.symm ne_row_ar) nin0)
  clear f666
  have f685 := f667.keep K678
  clear f667
  have f686 := f668.keep K678 (ninS (Ne.symm ne_row_s1) nin0)
  clear f668
  have f687 := f669.keep K678 (ninS (Ne.symm ne_row_s1) nin0)
  clear f669
  have f688 := f670.keep K678 (ninS (Ne.symm ne_row_s1) nin0)
  clear f670
  clear u672
  clear u673
  clear u674
  clear u675
  clear u676
  clear u677
  have sz678 : n0 ≤ T678.heap.size := Nat.le_trans sz654 K678.1
  clear sz654
  clear K678
  obtain ⟨u695, u696, u697, u698, u699, u700, u701⟩ := B678_0
  refine own_st (st678) ?_
  clear st678 X654
  show OFin p e below s _ _ _ (T678.setTop (mkF m 136 #[.val (.int p1), .val (.int p2), .val (.int p3), .val (.int p4), .val (.int p5), .val (.ref cn), .val (.ref row), .val (.ref r1), .val (.ref r2), .val (.int (1 : Int32)), .val (.ref ra), .val (.ref rb), .val (.ref rc), .val (.ref b), .unset, .unset] [(.ref el)]))
  refine own_st (fun _ kS => XS.astore X678.here hx rfl (hb hby at_136) rfl rfl (l' := #[.val (.int p1), .val (.int p2), .val (.int p3), .val (.int p4), .val (.int p5), .val (.ref cn), .val (.ref row), .val (.ref r1), .val (.ref r2), .val (.int (1 : Int32)), .val (.ref ra), .val (.ref rb), .val (.ref rc), .val (.ref b), .val (.ref el), .unset]) rfl kS) ?_
  show OFin p e below s _ _ _ (T678.setTop (mkF m 138 #[.val (.int p1), .val (.int p2), .val (.int p3), .val (.int p4), .val (.int p5), .val (.ref cn), .val (.ref row), .val (.ref r1), .val (.ref r2), .val (.int (1 : Int32)), .val (.ref ra), .val (.ref rb), .val (.ref rc), .val (.ref b), .val (.ref el), .unset] []))
  refine own_st (fun _ kS => XS.aload X678.here hx rfl (hb hby at_138) rfl rfl kS) ?_
  show OFin p e below s _ _ _ (T678.setTop (mkF m 140 #[.val (.int p1), .val (.int p2), .val (.int p3), .val (.int p4), .val (.int p5), .val (.ref cn), .val (.ref row), .val (.ref r1), .val (.ref r2), .val (.int (1 : Int32)), .val (.ref ra), .val (.ref rb), .val (.ref rc), .val (.ref b), .val (.ref el), .unset] [(.ref b)]))
  obtain ⟨v702, T702, L702, X702, hQ702, st702⟩ := own_face X678 hx hZ (y := (⟨"java/util/List", "size", "()I"⟩ : MethodName)) (z := (⟨"java/util/ArrayList", "size", "()I"⟩ : MethodName)) (rm := ⟨0, 0, 0, 0⟩) (W := 0) (a := b) (argsL := []) (rest := []) hown (own_w hw 42 rfl) (own_w hw 43 rfl) (mvT hZ (own_w hw 44 rfl)) (own_w hw 164 rfl) (own_w hw 165 rfl) (own_w hw 166 rfl) (own_w hw 167 rfl) (own_w hw 127 rfl) (own_w hw 80 rfl) (own_w hw 168 rfl) (rmSz l Z a0 hw b T678.heap (1 : Int32) f683) rfl f680 (g := (mkF m 140 #[.val (.int p1), .val (.int p2), .val (.int p3), .val (.int p4), .val (.int p5), .val (.ref cn), .val (.ref row), .val (.ref r1), .val (.ref r2), .val (.int (1 : Int32)), .val (.ref ra), .val (.ref rb), .val (.ref rc), .val (.ref b), .val (.ref el), .unset] [(.ref b)])) rfl (by rw [hml]; rfl) (lenOf own_pd14 rfl) rfl (by show 2 * 0 + _ ≤ _; exact Nat.le_of_eq rfl) (hb hby at_140) (by decide) (by decide) (by decide) (by decide)
  obtain ⟨rfl, e702, rfl⟩ := hQ702
  rw [List.append_nil] at X702
  refine own_st (st702) ?_
  clear st702 X678
  show OFin p e below s _ _ _ (T702.setTop (mkF m 145 #[.val (.int p1), .val (.int p2), .val (.int p3), .val (.int p4), .val (.int p5), .val (.ref cn), .val (.ref row), .val (.ref r1), .val (.ref r2), .val (.int (1 : Int32)), .val (.ref ra), .val (.ref rb), .val (.ref rc), .val (.ref b), .val (.ref el), .unset] [(.int (1 : Int32))]))
  refine own_st (fun _ kS => XS.iload X702.here hx rfl (hb hby at_145) rfl kS) ?_
  show OFin p e below s _ _ _ (T702.setTop (mkF m 147 #[.val (.int p1), .val (.int p2), .val (.int p3), .val (.int p4), .val (.int p5), .val (.ref cn), .val (.ref row), .val (.ref r1), .val (.ref r2), .val (.int (1 : Int32)), .val (.ref ra), .val (.ref rb), .val (.ref rc), .val (.ref b), .val (.ref el), .unset] [(.int (1 : Int32)), (.int (1 : Int32))]))
  refine own_st (fun _ kS => XS.icmpNo X702.here hx rfl (hb hby at_147) rfl (teq rfl).2 kS) ?_
  show OFin p e below s _ _ _ (T702.setTop (mkF m 150 #[.val (.int p1), .val (.int p2), .val (.int p3), .val (.int p4), .val (.int p5), .val (.ref cn), .val (.ref row), .val (.ref r1), .val (.ref r2), .val (.int (1 : Int32)), .val (.ref ra), .val (.ref rb), .val (.ref rc), .val (.ref b), .val (.ref el), .unset] []))
  refine own_st (fun _ kS => XS.aload X702.here hx rfl (hb hby at_150) rfl rfl kS) ?_
  show OFin p e below s _ _ _ (T702.setTop (mkF m 152 #[.val (.int p1), .val (.int p2), .val (.int p3), .val (.int p4), .val (.int p5), .val (.ref cn), .val (.ref row), .val (.ref r1), .val (.ref r2), .val (.int (1 : Int32)), .val (.ref ra), .val (.ref rb), .val (.ref rc), .val (.ref b), .val (.ref el), .unset] [(.ref el)]))
  obtain ⟨v703, T703, L703, X703, hQ703, st703⟩ := own_face X702 hx hZ (y := (⟨"java/util/List", "isEmpty", "()Z"⟩ : MethodName)) (z := (⟨"java/util/ImmutableCollections$ListN", "isEmpty", "()Z"⟩ : MethodName)) (rm := ⟨0, 0, 0, 0⟩) (W := 0) (a := el) (argsL := []) (rest := []) hown (own_w hw 54 rfl) (own_w hw 55 rfl) (mvT hZ (own_w hw 56 rfl)) (own_w hw 57 rfl) (own_w hw 58 rfl) (own_w hw 59 rfl) (own_w hw 60 rfl) (own_w hw 49 rfl) (own_w hw 50 rfl) (own_w hw 61 rfl) (rmLE l Z a0 hw el T678.heap em (F_el.ext od678.2) (A_em.ext od678.2)) e702 (E_el.ext od678.2) (g := (mkF m 152 #[.val (.int p1), .val (.int p2), .val (.int p3), .val (.int p4), .val (.int p5), .val (.ref cn), .val (.ref row), .val (.ref r1), .val (.ref r2), .val (.int (1 : Int32)), .val (.ref ra), .val (.ref rb), .val (.ref rc), .val (.ref b), .val (.ref el), .unset] [(.ref el)])) rfl (by rw [hml]; rfl) (lenOf own_pd16 rfl) rfl (by show 2 * 0 + _ ≤ _; exact Nat.le_of_eq rfl) (hb hby at_152) (by decide) (by decide) (by decide) (by decide)
  obtain ⟨rfl, e703, rfl⟩ := hQ703
  rw [List.append_nil] at X703
  refine own_st (st703) ?_
  clear st703 X702 e702
  show OFin p e below s _ _ _ (T703.setTop (mkF m 157 #[.val (.int p1), .val (.int p2), .val (.int p3), .val (.int p4), .val (.int p5), .val (.ref cn), .val (.ref row), .val (.ref r1), .val (.ref r2), .val (.int (1 : Int32)), .val (.ref ra), .val (.ref rb), .val (.ref rc), .val (.ref b), .val (.ref el), .unset] [(.int (1 : Int32))]))
  refine own_st (fun _ kS => XS.ifNo X703.here hx rfl (hb hby at_157) rfl ((if0 _ _).trans (feq (by decide)).1) kS) ?_
  show OFin p e below s _ _ _ (T703.setTop (mkF m 160 #[.val (.int p1), .val (.int p2), .val (.int p3), .val (.int p4), .val (.int p5), .val (.ref cn), .val (.ref row), .val (.ref r1), .val (.ref r2), .val (.int (1 : Int32)), .val (.ref ra), .val (.ref rb), .val (.ref rc), .val (.ref b), .val (.ref el), .unset] []))
  refine own_st (fun _ kS => XS.aload X703.here hx rfl (hb hby at_160) rfl rfl kS) ?_
  show OFin p e below s _ _ _ (T703.setTop (mkF m 162 #[.val (.int p1), .val (.int p2), .val (.int p3), .val (.int p4), .val (.int p5), .val (.ref cn), .val (.ref row), .val (.ref r1), .val (.ref r2), .val (.int (1 : Int32)), .val (.ref ra), .val (.ref rb), .val (.ref rc), .val (.ref b), .val (.ref el), .unset] [(.ref row)]))
  obtain ⟨v704, T704, L704, X704, hQ704, st704⟩ := own_virtual X703 hx hZ (y := (⟨"com/example/notation_search/notationsearch/math/Row", "followed", "()Ljava/util/List;"⟩ : MethodName)) (z := (⟨"com/example/notation_search/notationsearch/math/Row", "followed", "()Ljava/util/List;"⟩ : MethodName)) (rm := ⟨1, 0, 0, 11⟩) (W := 0) (a := row) (argsL := []) (rest := []) hown (own_w hw 62 rfl) (own_w hw 63 rfl) (notFace_of_selects (args := #[]) (mvT hZ (own_w hw 65 rfl))) (own_w hw 65 rfl) (own_w hw 64 rfl) (own_w hw 11 rfl) (own_w hw 66 rfl) (rmFo l Z a0 hw row T678.heap n0 cn el ⟨u695, u696, u697, u698, u699, u700, u701⟩ S_el od678) e703 u695 (g := (mkF m 162 #[.val (.int p1), .val (.int p2), .val (.int p3), .val (.int p4), .val (.int p5), .val (.ref cn), .val (.ref row), .val (.ref r1), .val (.ref r2), .val (.int (1 : Int32)), .val (.ref ra), .val (.ref rb), .val (.ref rc), .val (.ref b), .val (.ref el), .unset] [(.ref row)])) rfl (by rw [hml]; rfl) (lenOf own_pd1 rfl) rfl (by show 2 * 0 + _ ≤ _; exact Nat.le_of_eq rfl) (hb hby at_162) (by decide) (by decide) (by decide) (by decide)
  obtain ⟨rfl, e704, rfl⟩ := hQ704
  rw [List.append_nil] at X704
  refine own_st (st704) ?_
  clear st704 X703 e703
  show OFin p e below s _ _ _ (T704.setTop (mkF m 165 #[.val (.int p1), .val (.int p2), .val (.int p3), .val (.int p4), .val (.int p5), .val (.ref cn), .val (.ref row), .val (.ref r1), .val (.ref r2), .val (.int (1 : Int32)), .val (.ref ra), .val (.ref rb), .val (.ref rc), .val (.ref b), .val (.ref el), .unset] [(.ref el)]))
  obtain ⟨v705, T705, L705, X705, hQ705, st705⟩ := own_face X704 hx hZ (y := (⟨"java/util/List", "isEmpty", "()Z"⟩ : MethodName)) (z := (⟨"java/util/ImmutableCollections$ListN", "isEmpty", "()Z"⟩ : MethodName)) (rm := ⟨0, 0, 0, 0⟩) (W := 0) (a := el) (argsL := []) (rest := []) hown (own_w hw 54 rfl) (own_w hw 55 rfl) (mvT hZ (own_w hw 56 rfl)) (own_w hw 57 rfl) (own_w hw 58 rfl) (own_w hw 59 rfl) (own_w hw 60 rfl) (own_w hw 49 rfl) (own_w hw 50 rfl) (own_w hw 61 rfl) (rmLE l Z a0 hw el T678.heap em (F_el.ext od678.2) (A_em.ext od678.2)) e704 (E_el.ext od678.2) (g := (mkF m 165 #[.val (.int p1), .val (.int p2), .val (.int p3), .val (.int p4), .val (.int p5), .val (.ref cn), .val (.ref row), .val (.ref r1), .val (.ref r2), .val (.int (1 : Int32)), .val (.ref ra), .val (.ref rb), .val (.ref rc), .val (.ref b), .val (.ref el), .unset] [(.ref el)])) rfl (by rw [hml]; rfl) (lenOf own_pd16 rfl) rfl (by show 2 * 0 + _ ≤ _; exact Nat.le_of_eq rfl) (hb hby at_165) (by decide) (by decide) (by decide) (by decide)
  obtain ⟨rfl, e705, rfl⟩ := hQ705
  rw [List.append_nil] at X705
  refine own_st (st705) ?_
  clear st705 X704 e704
  show OFin p e below s _ _ _ (T705.setTop (mkF m 170 #[.val (.int p1), .val (.int p2), .val (.int p3), .val (.int p4), .val (.int p5), .val (.ref cn), .val (.ref row), .val (.ref r1), .val (.ref r2), .val (.int (1 : Int32)), .val (.ref ra), .val (.ref rb), .val (.ref rc), .val (.ref b), .val (.ref el), .unset] [(.int (1 : Int32))]))
  refine own_st (fun _ kS => XS.ifYes X705.here hx rfl (pc0 := 170) (pc' := 175) rfl (hb hby at_170) rfl ((if0 _ _).trans (feq (by decide)).2) (by decide) (by decide) kS) ?_
  show OFin p e below s _ _ _ (T705.setTop (mkF m 175 #[.val (.int p1), .val (.int p2), .val (.int p3), .val (.int p4), .val (.int p5), .val (.ref cn), .val (.ref row), .val (.ref r1), .val (.ref r2), .val (.int (1 : Int32)), .val (.ref ra), .val (.ref rb), .val (.ref rc), .val (.ref b), .val (.ref el), .unset] []))
  refine own_st (fun _ kS => XS.iload X705.here hx rfl (hb hby at_175) rfl kS) ?_
  show OFin p e below s _ _ _ (T705.setTop (mkF m 177 #[.val (.int p1), .val (.int p2), .val (.int p3), .val (.int p4), .val (.int p5), .val (.ref cn), .val (.ref row), .val (.ref r1), .val (.ref r2), .val (.int (1 : Int32)), .val (.ref ra), .val (.ref rb), .val (.ref rc), .val (.ref b), .val (.ref el), .unset] [(.int (1 : Int32))]))
  refine own_st (fun _ kS => XS.iconst X705.here hx rfl (hb hby at_177) kS) ?_
  show OFin p e below s _ _ _ (T705.setTop (mkF m 178 #[.val (.int p1), .val (.int p2), .val (.int p3), .val (.int p4), .val (.int p5), .val (.ref cn), .val (.ref row), .val (.ref r1), .val (.ref r2), .val (.int (1 : Int32)), .val (.ref ra), .val (.ref rb), .val (.ref rc), .val (.ref b), .val (.ref el), .unset] [(.int (1 : Int32)), (.int (1 : Int32))]))
  refine own_st (fun _ kS => XS.icmpNo X705.here hx rfl (hb hby at_178) rfl (flt (by decide)).1 kS) ?_
  show OFin p e below s _ _ _ (T705.setTop (mkF m 181 #[.val (.int p1), .val (.int p2), .val (.int p3), .val (.int p4), .val (.int p5), .val (.ref cn), .val (.ref row), .val (.ref r1), .val (.ref r2), .val (.int (1 : Int32)), .val (.ref ra), .val (.ref rb), .val (.ref rc), .val (.ref b), .val (.ref el), .unset] []))
  refine own_st (fun _ kS => XS.aload X705.here hx rfl (hb hby at_181) rfl rfl kS) ?_
  show OFin p e below s _ _ _ (T705.setTop (mkF m 183 #[.val (.int p1), .val (.int p2), .val (.int p3), .val (.int p4), .val (.int p5), .val (.ref cn), .val (.ref row), .val (.ref r1), .val (.ref r2), .val (.int (1 : Int32)), .val (.ref ra), .val (.ref rb), .val (.ref rc), .val (.ref b), .val (.ref el), .unset] [(.ref b)]))
  refine own_st (fun _ kS => XS.iconst X705.here hx rfl (hb hby at_183) kS) ?_
  show OFin p e below s _ _ _ (T705.setTop (mkF m 184 #[.val (.int p1), .val (.int p2), .val (.int p3), .val (.int p4), .val (.int p5), .val (.ref cn), .val (.ref row), .val (.ref r1), .val (.ref r2), .val (.int (1 : Int32)), .val (.ref ra), .val (.ref rb), .val (.ref rc), .val (.ref b), .val (.ref el), .unset] [(.int (0 : Int32)), (.ref b)]))
  obtain ⟨v706, T706, L706, X706, hQ706, st706⟩ := own_face X705 hx hZ (y := (⟨"java/util/List", "get", "(I)Ljava/lang/Object;"⟩ : MethodName)) (z := (⟨"java/util/ArrayList", "get", "(I)Ljava/lang/Object;"⟩ : MethodName)) (rm := ⟨2, 0, 0, 27⟩) (W := 0) (a := b) (argsL := [(.int (0 : Int32))]) (rest := []) hown (own_w hw 169 rfl) (own_w hw 170 rfl) (mvT hZ (own_w hw 171 rfl)) (own_w hw 172 rfl) (own_w hw 173 rfl) (own_w hw 174 rfl) (own_w hw 175 rfl) (own_w hw 127 rfl) (own_w hw 80 rfl) (own_w hw 176 rfl) (rmGet l Z a0 hw b (0 : Int32) T678.heap ar s1 (1 : Int32) (1 : Int32) (fun i => if i = 0 then .ref s1 else (fun _ => .null) i) 0 ⟨f680, f681, f682, f683, f684⟩ (by decide) (by decide) rfl (by decide) rfl) e705 f680 (g := (mkF m 184 #[.val (.int p1), .val (.int p2), .val (.int p3), .val (.int p4), .val (.int p5), .val (.ref cn), .val (.ref row), .val (.ref r1), .val (.ref r2), .val (.int (1 : Int32)), .val (.ref ra), .val (.ref rb), .val (.ref rc), .val (.ref b), .val (.ref el), .unset] [(.int (0 : Int32)), (.ref b)])) rfl (by rw [hml]; rfl) (lenOf own_pd7 rfl) rfl (by show 2 * 0 + _ ≤ _; exact Nat.le_of_eq rfl) (hb hby at_184) (by decide) (by decide) (by decide) (by decide)
  obtain ⟨rfl, e706, rfl⟩ := hQ706
  rw [List.append_nil] at X706
  refine own_st (st706) ?_
  clear st706 X705 e705
  show OFin p e below s _ _ _ (T706.setTop (mkF m 189 #[.val (.int p1), .val (.int p2), .val (.int p3), .val (.int p4), .val (.int p5), .val (.ref cn), .val (.ref row), .val (.ref r1), .val (.ref r2), .val (.int (1 : Int32)), .val (.ref ra), .val (.ref rb), .val (.ref rc), .val (.ref b), .val (.ref el), .unset] [(.ref s1)]))
  obtain ⟨T707, X707, e707, st707⟩ := castY X706 hx hZ hown (own_w hw 190 rfl) e706 (Ins.self f685) (g := (mkF m 189 #[.val (.int p1), .val (.int p2), .val (.int p3), .val (.int p4), .val (.int p5), .val (.ref cn), .val (.ref row), .val (.ref r1), .val (.ref r2), .val (.int (1 : Int32)), .val (.ref ra), .val (.ref rb), .val (.ref rc), .val (.ref b), .val (.ref el), .unset] [(.ref s1)])) rfl rfl (hb hby at_189)
  refine own_st (st707) ?_
  clear st707 X706 e706
  show OFin p e below s _ _ _ (T707.setTop (mkF m 192 #[.val (.int p1), .val (.int p2), .val (.int p3), .val (.int p4), .val (.int p5), .val (.ref cn), .val (.ref row), .val (.ref r1), .val (.ref r2), .val (.int (1 : Int32)), .val (.ref ra), .val (.ref rb), .val (.ref rc), .val (.ref b), .val (.ref el), .unset] [(.ref s1)]))
  refine own_st (fun _ kS => XS.aload X707.here hx rfl (hb hby at_192) rfl rfl kS) ?_
  show OFin p e below s _ _ _ (T707.setTop (mkF m 194 #[.val (.int p1), .val (.int p2), .val (.int p3), .val (.int p4), .val (.int p5), .val (.ref cn), .val (.ref row), .val (.ref r1), .val (.ref r2), .val (.int (1 : Int32)), .val (.ref ra), .val (.ref rb), .val (.ref rc), .val (.ref b), .val (.ref el), .unset] [(.ref ra), (.ref s1)]))
  refine own_st (fun _ kS => XS.aload X707.here hx rfl (hb hby at_194) rfl rfl kS) ?_
  show OFin p e below s _ _ _ (T707.setTop (mkF m 196 #[.val (.int p1), .val (.int p2), .val (.int p3), .val (.int p4), .val (.int p5), .val (.ref cn), .val (.ref row), .val (.ref r1), .val (.ref r2), .val (.int (1 : Int32)), .val (.ref ra), .val (.ref rb), .val (.ref rc), .val (.ref b), .val (.ref el), .unset] [(.ref r1), (.ref ra), (.ref s1)]))
  obtain ⟨v708, T708, L708, X708, hQ708, st708⟩ := own_static X707 hx hZ (y := (⟨"com/example/notation_search/notationsearch/math/RowReleasePinLaw", "same", "(Lcom/example/notation_search/notationsearch/math/Row$Script;Lcom/example/notation_search/notationsearch/math/Relation;Lcom/example/notation_search/notationsearch/math/Row;)Z"⟩ : MethodName)) (rm := ⟨1, 0, 0, 12⟩) (W := 0) (argsL := [(.ref s1), (.ref ra), (.ref r1)]) (rest := []) hown (own_w hw 192 rfl) (own_w hw 193 rfl) (own_w hw 20 rfl) (own_w hw 194 rfl) (rmSame l Z a0 hw s1 ra r1 T678.heap ⟨f685, f686, f687, f688⟩) e707 (g := (mkF m 196 #[.val (.int p1), .val (.int p2), .val (.int p3), .val (.int p4), .val (.int p5), .val (.ref cn), .val (.ref row), .val (.ref r1), .val (.ref r2), .val (.int (1 : Int32)), .val (.ref ra), .val (.ref rb), .val (.ref rc), .val (.ref b), .val (.ref el), .unset] [(.ref r1), (.ref ra), (.ref s1)])) rfl (by rw [hml]; rfl) (lenOf own_pd15 rfl) rfl (by show 2 * 0 + _ ≤ _; exact Nat.le_of_eq rfl) (hb hby at_196) (by decide) (by decide) (by decide) (by decide)
  obtain ⟨rfl, e708, rfl⟩ := hQ708
  rw [List.append_nil] at X708
  refine own_st (st708) ?_
  clear st708 X707 e707
  show OFin p e below s _ _ _ (T708.setTop (mkF m 199 #[.val (.int p1), .val (.int p2), .val (.int p3), .val (.int p4), .val (.int p5), .val (.ref cn), .val (.ref row), .val (.ref r1), .val (.ref r2), .val (.int (1 : Int32)), .val (.ref ra), .val (.ref rb), .val (.ref rc), .val (.ref b), .val (.ref el), .unset] [(.int (1 : Int32))]))
  refine own_st (fun _ kS => XS.ifYes X708.here hx rfl (pc0 := 199) (pc' := 204) rfl (hb hby at_199) rfl ((if0 _ _).trans (feq (by decide)).2) (by decide) (by decide) kS) ?_
  show OFin p e below s _ _ _ (T708.setTop (mkF m 204 #[.val (.int p1), .val (.int p2), .val (.int p3), .val (.int p4), .val (.int p5), .val (.ref cn), .val (.ref row), .val (.ref r1), .val (.ref r2), .val (.int (1 : Int32)), .val (.ref ra), .val (.ref rb), .val (.ref rc), .val (.ref b), .val (.ref el), .unset] []))
  refine own_st (fun _ kS => XS.iload X708.here hx rfl (hb hby at_204) rfl kS) ?_
  show OFin p e below s _ _ _ (T708.setTop (mkF m 206 #[.val (.int p1), .val (.int p2), .val (.int p3), .val (.int p4), .val (.int p5), .val (.ref cn), .val (.ref row), .val (.ref r1), .val (.ref r2), .val (.int (1 : Int32)), .val (.ref ra), .val (.ref rb), .val (.ref rc), .val (.ref b), .val (.ref el), .unset] [(.int (1 : Int32))]))
  refine own_st (fun _ kS => XS.iconst X708.here hx rfl (hb hby at_206) kS) ?_
  show OFin p e below s _ _ _ (T708.setTop (mkF m 207 #[.val (.int p1), .val (.int p2), .val (.int p3), .val (.int p4), .val (.int p5), .val (.ref cn), .val (.ref row), .val (.ref r1), .val (.ref r2), .val (.int (1 : Int32)), .val (.ref ra), .val (.ref rb), .val (.ref rc), .val (.ref b), .val (.ref el), .unset] [(.int (2 : Int32)), (.int (1 : Int32))]))
  refine own_st (fun _ kS => XS.icmpYes X708.here hx rfl (pc0 := 207) (pc' := 233) rfl (hb hby at_207) rfl (tlt (by decide)).1 (by decide) (by decide) kS) ?_
  show OFin p e below s _ _ _ (T708.setTop (mkF m 233 #[.val (.int p1), .val (.int p2), .val (.int p3), .val (.int p4), .val (.int p5), .val (.ref cn), .val (.ref row), .val (.ref r1), .val (.ref r2), .val (.int (1 : Int32)), .val (.ref ra), .val (.ref rb), .val (.ref rc), .val (.ref b), .val (.ref el), .unset] []))
  refine own_st (fun _ kS => XS.iload X708.here hx rfl (hb hby at_233) rfl kS) ?_
  show OFin p e below s _ _ _ (T708.setTop (mkF m 235 #[.val (.int p1), .val (.int p2), .val (.int p3), .val (.int p4), .val (.int p5), .val (.ref cn), .val (.ref row), .val (.ref r1), .val (.ref r2), .val (.int (1 : Int32)), .val (.ref ra), .val (.ref rb), .val (.ref rc), .val (.ref b), .val (.ref el), .unset] [(.int (1 : Int32))]))
  refine own_st (fun _ kS => XS.iconst X708.here hx rfl (hb hby at_235) kS) ?_
  show OFin p e below s _ _ _ (T708.setTop (mkF m 236 #[.val (.int p1), .val (.int p2), .val (.int p3), .val (.int p4), .val (.int p5), .val (.ref cn), .val (.ref row), .val (.ref r1), .val (.ref r2), .val (.int (1 : Int32)), .val (.ref ra), .val (.ref rb), .val (.ref rc), .val (.ref b), .val (.ref el), .unset] [(.int (3 : Int32)), (.int (1 : Int32))]))
  refine own_st (fun _ kS => XS.icmpYes X708.here hx rfl (pc0 := 236) (pc' := 262) rfl (hb hby at_236) rfl (tlt (by decide)).1 (by decide) (by decide) kS) ?_
  show OFin p e below s _ _ _ (T708.setTop (mkF m 262 #[.val (.int p1), .val (.int p2), .val (.int p3), .val (.int p4), .val (.int p5), .val (.ref cn), .val (.ref row), .val (.ref r1), .val (.ref r2), .val (.int (1 : Int32)), .val (.ref ra), .val (.ref rb), .val (.ref rc), .val (.ref b), .val (.ref el), .unset] []))
  exact own_c1 hw hC0 X708 e708 n0 sz678 p1 p2 p3 p4 p5 cn row r1 r2 ra rb rc el em dc S_el E_el F_el A_em S_dc A_dc fr678 od678 g_row ⟨u695, u696, u697, u698, u699, u700, u701⟩ b f680 f683 ne_row_b rfl rfl
set_option maxRecDepth 65536 in
set_option maxHeartbeats 40000000 in
theorem own_a1 {l : Launch} {Z : State} {a0 : Array Value} (hw : ∀ d ∈ tables_1, d.before a0 Z = true) {p : Program} {e : Env} {s : State} {m : MethodId} {args : Array Value} {below : List Frame} {meth : Method} {c : Code} (hC : OCtx Z p s m meth c "com/example/notation_search/notationsearch/math/RowReleasePinLaw" "law" code maxLocals ret) {T0 : State} {locs : List Loc} {cells slots : Nat} (X0 : Stand p l e room_1 s m args below meth c T0 locs cells slots) {h0 : Heap} (e0 : T0.heap = h0) (n0 : Nat) (Z0 : n0 ≤ h0.size) (p1 p2 p3 p4 p5 : Int32) (cn row r1 r2 ra rb rc : Addr) (el em dc : Addr) (S_el : Sta Z Z.heap "java/util/ImmutableCollections" "EMPTY_LIST" "Ljava/util/ImmutableCollections$ListN;" (.ref el)) (E_el : Exa Z Z.heap el "java/util/ImmutableCollections$ListN") (F_el : Fld Z Z.heap el "java/util/ImmutableCollections$ListN" "elements" "[Ljava/lang/Object;" (.ref em)) (A_em : OArr Z Z.heap em (.object "java/lang/Object") 0 (fun _ => .null)) (S_dc : Sta Z Z.heap "java/util/ArrayList" "DEFAULTCAPACITY_EMPTY_ELEMENTDATA" "[Ljava/lang/Object;" (.ref dc)) (A_dc : OArr Z Z.heap dc (.object "java/lang/Object") 0 (fun _ => .null)) (N0 : Fr n0 locs) (O : Old Z n0 h0) (g_row : n0 ≤ row) (B_r : BR Z h0 row cn .null) (F_2 : Fld Z h0 r2 "com/example/notation_search/notationsearch/math/Row" "first" "Lcom/example/notation_search/notationsearch/math/Symbol;" .null) (ne_row_r2 : row ≠ r2) (hcs : cells = 4) (hss : slots = 20) :
    OFin p e below s room_1.cells room_1.slots (fun v h L => v = some (.int (1 : Int32)) ∧ Fr n0 L) (T0.setTop (mkF m 65 #[.val (.int p1), .val (.int p2), .val (.int p3), .val (.int p4), .val (.int p5), .val (.ref cn), .val (.ref row), .val (.ref r1), .val (.ref r2), .val (.int (1 : Int32)), .val (.ref ra), .val (.ref rb), .val (.ref rc), .unset, .unset, .unset] [])) := by
  have hC0 := hC
  obtain ⟨hx, hZ, hby, hml, hown, hret, hlk, hnm⟩ := hC
  subst hcs hss
  obtain ⟨u709, u710, u711, u712, u713, u714, u715⟩ := B_r
  refine own_st (fun _ kS => XS.iload X0.here hx rfl (hb hby at_65) rfl kS) ?_
  show OFin p e below s _ _ _ (T0.setTop (mkF m 67 #[.val (.int p1), .val (.int p2), .val (.int p3), .val (.int p4), .val (.int p5), .val (.ref cn), .val (.ref row), .val (.ref r1), .val (.ref r2), .val (.int (1 : Int32)), .val (.ref ra), .val (.ref rb), .val (.ref rc), .unset, .unset, .unset] [(.int (1 : Int32))]))
  refine own_st (fun _ kS => XS.iconst X0.here hx rfl (hb hby at_67) kS) ?_
  show OFin p e below s _ _ _ (T0.setTop (mkF m 68 #[.val (.int p1), .val (.int p2), .val (.int p3), .val (.int p4), .val (.int p5), .val (.ref cn), .val (.ref row), .val (.ref r1), .val (.ref r2), .val (.int (1 : Int32)), .val (.ref ra), .val (.ref rb), .val (.ref rc), .unset, .unset, .unset] [(.int (1 : Int32)), (.int (1 : Int32))]))
  refine own_st (fun _ kS => XS.icmpNo X0.here hx rfl (hb hby at_68) rfl (flt (by decide)).1 kS) ?_
  show OFin p e below s _ _ _ (T0.setTop (mkF m 71 #[.val (.int p1), .val (.int p2), .val (.int p3), .val (.int p4), .val (.int p5), .val (.ref cn), .val (.ref row), .val (.ref r1), .val (.ref r2), .val (.int (1 : Int32)), .val (.ref ra), .val (.ref rb), .val (.ref rc), .unset, .unset, .unset] []))
  refine own_st (fun _ kS => XS.aload X0.here hx rfl (hb hby at_71) rfl rfl kS) ?_
  show OFin p e below s _ _ _ (T0.setTop (mkF m 73 #[.val (.int p1), .val (.int p2), .val (.int p3), .val (.int p4), .val (.int p5), .val (.ref cn), .val (.ref row), .val (.ref r1), .val (.ref r2), .val (.int (1 : Int32)), .val (.ref ra), .val (.ref rb), .val (.ref rc), .unset, .unset, .unset] [(.ref row)]))
  refine own_st (fun _ kS => XS.aload X0.here hx rfl (hb hby at_73) rfl rfl kS) ?_
  show OFin p e below s _ _ _ (T0.setTop (mkF m 75 #[.val (.int p1), .val (.int p2), .val (.int p3), .val (.int p4), .val (.int p5), .val (.ref cn), .val (.ref row), .val (.ref r1), .val (.ref r2), .val (.int (1 : Int32)), .val (.ref ra), .val (.ref rb), .val (.ref rc), .unset, .unset, .unset] [(.ref ra), (.ref row)]))
  refine own_st (fun _ kS => XS.aload X0.here hx rfl (hb hby at_75) rfl rfl kS) ?_
  show OFin p e below s _ _ _ (T0.setTop (mkF m 77 #[.val (.int p1), .val (.int p2), .val (.int p3), .val (.int p4), .val (.int p5), .val (.ref cn), .val (.ref row), .val (.ref r1), .val (.ref r2), .val (.int (1 : Int32)), .val (.ref ra), .val (.ref rb), .val (.ref rc), .unset, .unset, .unset] [(.ref r1), (.ref ra), (.ref row)]))
  obtain ⟨v716, T716, L716, X716, hQ716, st716⟩ := own_virtual X0 hx hZ (y := (⟨"com/example/notation_search/notationsearch/math/Row", "hold", "(Lcom/example/notation_search/notationsearch/math/Relation;Lcom/example/notation_search/notationsearch/math/Row;)V"⟩ : MethodName)) (z := (⟨"com/example/notation_search/notationsearch/math/Row", "hold", "(Lcom/example/notation_search/notationsearch/math/Relation;Lcom/example/notation_search/notationsearch/math/Row;)V"⟩ : MethodName)) (rm := ⟨5, 3, 16, 69⟩) (W := 0) (a := row) (argsL := [(.ref ra), (.ref r1)]) (rest := []) hown (own_w hw 73 rfl) (own_w hw 74 rfl) (notFace_of_selects (args := #[]) (mvT hZ (own_w hw 76 rfl))) (own_w hw 76 rfl) (own_w hw 75 rfl) (own_w hw 11 rfl) (own_w hw 77 rfl) (rmH0 l Z a0 hw row ra r1 h0 n0 Z0 cn dc ⟨u709, u710, u711, u712, u713, u714, u715⟩ g_row O S_dc A_dc) e0 u709 (g := (mkF m 77 #[.val (.int p1), .val (.int p2), .val (.int p3), .val (.int p4), .val (.int p5), .val (.ref cn), .val (.ref row), .val (.ref r1), .val (.ref r2), .val (.int (1 : Int32)), .val (.ref ra), .val (.ref rb), .val (.ref rc), .unset, .unset, .unset] [(.ref r1), (.ref ra), (.ref row)])) rfl (by rw [hml]; rfl) (lenOf own_pd13 rfl) rfl (by show 2 * 0 + _ ≤ _; exact Nat.le_of_eq rfl) (hb hby at_77) (by decide) (by decide) (by decide) (by decide)
  obtain ⟨rfl, N716, K716, b, ge_b, ar, ge_ar, s1, ge_s1, ne_b_ar, ne_b_s1, ne_ar_s1, B716_0, B716_1, B716_2⟩ := hQ716
  have ne_r2_b : r2 ≠ b := Nat.ne_of_lt (Nat.lt_of_lt_of_le F_2.lt ge_b)
  have ne_row_b : row ≠ b := Nat.ne_of_lt (Nat.lt_of_lt_of_le u709.lt ge_b)
  have g_b : n0 ≤ b := Nat.le_trans Z0 ge_b
  have ne_r2_ar : r2 ≠ ar := Nat.ne_of_lt (Nat.lt_of_lt_of_le F_2.lt ge_ar)
  have ne_row_ar : row ≠ ar := Nat.ne_of_lt (Nat.lt_of_lt_of_le u709.lt ge_ar)
  have g_ar : n0 ≤ ar := Nat.le_trans Z0 ge_ar
  have ne_r2_s1 : r2 ≠ s1 := Nat.ne_of_lt (Nat.lt_of_lt_of_le F_2.lt ge_s1)
  have ne_row_s1 : row ≠ s1 := Nat.ne_of_lt (Nat.lt_of_lt_of_le u709.lt ge_s1)
  have g_s1 : n0 ≤ s1 := Nat.le_trans Z0 ge_s1
  have fr716 := Fr.app N0 N716
  clear N0 N716
  have od716 := O.keep K716 (allS g_row all0)
  have f717 := u709.keep K716
  clear u709
  clear u710
  clear u711
  clear u712
  clear u713
  clear u714
  clear u715
  have f724 := F_2.keep K716 (ninS (Ne.symm ne_row_r2) nin0)
  have sz716 : n0 ≤ T716.heap.size := Nat.le_trans Z0 K716.1
  clear K716
  obtain ⟨u725, u726, u727, u728, u729, u730, u731⟩ := B716_0
  obtain ⟨u732, u733, u734, u735, u736⟩ := B716_1
  obtain ⟨u737, u738, u739, u740⟩ := B716_2
  refine own_st (st716) ?_
  clear st716 X0 e0
  show OFin p e below s _ _ _ (T716.setTop (mkF m 80 #[.val (.int p1), .val (.int p2), .val (.int p3), .val (.int p4), .val (.int p5), .val (.ref cn), .val (.ref row), .val (.ref r1), .val (.ref r2), .val (.int (1 : Int32)), .val (.ref ra), .val (.ref rb), .val (.ref rc), .unset, .unset, .unset] []))
  refine own_st (fun _ kS => XS.iload X716.here hx rfl (hb hby at_80) rfl kS) ?_
  show OFin p e below s _ _ _ (T716.setTop (mkF m 82 #[.val (.int p1), .val (.int p2), .val (.int p3), .val (.int p4), .val (.int p5), .val (.ref cn), .val (.ref row), .val (.ref r1), .val (.ref r2), .val (.int (1 : Int32)), .val (.ref ra), .val (.ref rb), .val (.ref rc), .unset, .unset, .unset] [(.int p5)]))
  refine own_st (fun _ kS => XS.iconst X716.here hx rfl (hb hby at_82) kS) ?_
  show OFin p e below s _ _ _ (T716.setTop (mkF m 83 #[.val (.int p1), .val (.int p2), .val (.int p3), .val (.int p4), .val (.int p5), .val (.ref cn), .val (.ref row), .val (.ref r1), .val (.ref r2), .val (.int (1 : Int32)), .val (.ref ra), .val (.ref rb), .val (.ref rc), .unset, .unset, .unset] [(.int (1 : Int32)), (.int p5)]))
  refine own_st (fun _ kS => XS.iand X716.here hx rfl (hb hby at_83) rfl kS) ?_
  show OFin p e below s _ _ _ (T716.setTop (mkF m 84 #[.val (.int p1), .val (.int p2), .val (.int p3), .val (.int p4), .val (.int p5), .val (.ref cn), .val (.ref row), .val (.ref r1), .val (.ref r2), .val (.int (1 : Int32)), .val (.ref ra), .val (.ref rb), .val (.ref rc), .unset, .unset, .unset] [(.int (p5 &&& (1 : Int32)))]))
  by_cases c1 : (p5 &&& (1 : Int32)) = (0 : Int32)
  · refine own_st (fun _ kS => XS.ifYes X716.here hx rfl (pc0 := 84) (pc' := 94) rfl (hb hby at_84) rfl ((if0 _ _).trans (teq c1).1) (by decide) (by decide) kS) ?_
    show OFin p e below s _ _ _ (T716.setTop (mkF m 94 #[.val (.int p1), .val (.int p2), .val (.int p3), .val (.int p4), .val (.int p5), .val (.ref cn), .val (.ref row), .val (.ref r1), .val (.ref r2), .val (.int (1 : Int32)), .val (.ref ra), .val (.ref rb), .val (.ref rc), .unset, .unset, .unset] []))
    exact own_b1 hw hC0 X716 rfl n0 sz716 p1 p2 p3 p4 p5 cn row r1 r2 ra rb rc el em dc S_el E_el F_el A_em S_dc A_dc fr716 od716 g_row b ar s1 ⟨u725, u726, u727, u728, u729, u730, u731⟩ ⟨u732, u733, u734, u735, u736⟩ ⟨u737, u738, u739, u740⟩ ne_row_b ne_row_ar ne_row_s1 ne_b_ar ne_b_s1 ne_ar_s1 g_b g_ar rfl rfl
  · refine own_st (fun _ kS => XS.ifNo X716.here hx rfl (hb hby at_84) rfl ((if0 _ _).trans (feq c1).1) kS) ?_
    show OFin p e below s _ _ _ (T716.setTop (mkF m 87 #[.val (.int p1), .val (.int p2), .val (.int p3), .val (.int p4), .val (.int p5), .val (.ref cn), .val (.ref row), .val (.ref r1), .val (.ref r2), .val (.int (1 : Int32)), .val (.ref ra), .val (.ref rb), .val (.ref rc), .unset, .unset, .unset] []))
    refine own_st (fun _ kS => XS.aload X716.here hx rfl (hb hby at_87) rfl rfl kS) ?_
    show OFin p e below s _ _ _ (T716.setTop (mkF m 89 #[.val (.int p1), .val (.int p2), .val (.int p3), .val (.int p4), .val (.int p5), .val (.ref cn), .val (.ref row), .val (.ref r1), .val (.ref r2), .val (.int (1 : Int32)), .val (.ref ra), .val (.ref rb), .val (.ref rc), .unset, .unset, .unset] [(.ref row)]))
    refine own_st (fun _ kS => XS.aload X716.here hx rfl (hb hby at_89) rfl rfl kS) ?_
    show OFin p e below s _ _ _ (T716.setTop (mkF m 91 #[.val (.int p1), .val (.int p2), .val (.int p3), .val (.int p4), .val (.int p5), .val (.ref cn), .val (.ref row), .val (.ref r1), .val (.ref r2), .val (.int (1 : Int32)), .val (.ref ra), .val (.ref rb), .val (.ref rc), .unset, .unset, .unset] [(.ref r2), (.ref row)]))
    obtain ⟨v741, T741, L741, X741, hQ741, st741⟩ := own_virtual X716 hx hZ (y := (⟨"com/example/notation_search/notationsearch/math/Row", "append", "(Lcom/example/notation_search/notationsearch/math/Row;)V"⟩ : MethodName)) (z := (⟨"com/example/notation_search/notationsearch/math/Row", "append", "(Lcom/example/notation_search/notationsearch/math/Row;)V"⟩ : MethodName)) (rm := ⟨0, 0, 0, 0⟩) (W := 0) (a := row) (argsL := [(.ref r2)]) (rest := []) hown (own_w hw 155 rfl) (own_w hw 156 rfl) (notFace_of_selects (args := #[]) (mvT hZ (own_w hw 158 rfl))) (own_w hw 158 rfl) (own_w hw 157 rfl) (own_w hw 11 rfl) (own_w hw 159 rfl) (rmAp l Z a0 hw row r2 T716.heap n0 cn _ ⟨u725, u726, u727, u728, u729, u730, u731⟩ g_row f724) rfl u725 (g := (mkF m 91 #[.val (.int p1), .val (.int p2), .val (.int p3), .val (.int p4), .val (.int p5), .val (.ref cn), .val (.ref row), .val (.ref r1), .val (.ref r2), .val (.int (1 : Int32)), .val (.ref ra), .val (.ref rb), .val (.ref rc), .unset, .unset, .unset] [(.ref r2), (.ref row)])) rfl (by rw [hml]; rfl) (lenOf own_pd17 rfl) rfl (by show 2 * 0 + _ ≤ _; exact Nat.le_of_eq rfl) (hb hby at_91) (by decide) (by decide) (by decide) (by decide)
    obtain ⟨rfl, N741, K741, B741_0⟩ := hQ741
    have fr741 := Fr.app fr716 N741
    clear fr716 N741
    have od741 := od716.keep K741 (allS g_row all0)
    clear od716
    have f742 := u725.keep K741
    clear u725
    have f743 := f724.keep K741 (ninS (Ne.symm ne_row_r2) nin0)
    clear f724
    clear u726
    clear u727
    clear u728
    clear u729
    clear u730
    clear u731
    have f750 := u732.keep K741
    clear u732
    have f751 := u733.keep K741 (ninS (Ne.symm ne_row_b) nin0)
    clear u733
    have f752 := u734.keep K741 (ninS (Ne.symm ne_row_b) nin0)
    clear u734
    have f753 := u735.keep K741 (ninS (Ne.symm ne_row_b) nin0)
    clear u735
    have f754 := u736.keep K741 (ninS (Ne.symm ne_row_ar) nin0)
    clear u736
    have f755 := u737.keep K741
    clear u737
    have f756 := u738.keep K741 (ninS (Ne.symm ne_row_s1) nin0)
    clear u738
    have f757 := u739.keep K741 (ninS (Ne.symm ne_row_s1) nin0)
    clear u739
    have f758 := u740.keep K741 (ninS (Ne.symm ne_row_s1) nin0)
    clear u740
    have sz741 : n0 ≤ T741.heap.size := Nat.le_trans sz716 K741.1
    clear sz716
    clear K741
    obtain ⟨u759, u760, u761, u762, u763, u764, u765⟩ := B741_0
    refine own_st (st741) ?_
    clear st741 X716
    show OFin p e below s _ _ _ (T741.setTop (mkF m 94 #[.val (.int p1), .val (.int p2), .val (.int p3), .val (.int p4), .val (.int p5), .val (.ref cn), .val (.ref row), .val (.ref r1), .val (.ref r2), .val (.int (1 : Int32)), .val (.ref ra), .val (.ref rb), .val (.ref rc), .unset, .unset, .unset] []))
    exact own_b1 hw hC0 X741 rfl n0 sz741 p1 p2 p3 p4 p5 cn row r1 r2 ra rb rc el em dc S_el E_el F_el A_em S_dc A_dc fr741 od741 g_row b ar s1 ⟨u759, u760, u761, u762, u763, u764, u765⟩ ⟨f750, f751, f752, f753, f754⟩ ⟨f755, f756, f757, f758⟩ ne_row_b ne_row_ar ne_row_s1 ne_b_ar ne_b_s1 ne_ar_s1 g_b g_ar rfl rfl
set_option maxRecDepth 65536 in
set_option maxHeartbeats 40000000 in
theorem own_c2 {l : Launch} {Z : State} {a0 : Array Value} (hw : ∀ d ∈ tables_1, d.before a0 Z = true) {p : Program} {e : Env} {s : State} {m : MethodId} {args : Array Value} {below : List Frame} {meth : Method} {c : Code} (hC : OCtx Z p s m meth c "com/example/notation_search/notationsearch/math/RowReleasePinLaw" "law" code maxLocals ret) {T0 : State} {locs : List Loc} {cells slots : Nat} (X0 : Stand p l e room_1 s m args below meth c T0 locs cells slots) {h0 : Heap} (e0 : T0.heap = h0) (n0 : Nat) (Z0 : n0 ≤ h0.size) (p1 p2 p3 p4 p5 : Int32) (cn row r1 r2 ra rb rc : Addr) (el em dc : Addr) (S_el : Sta Z Z.heap "java/util/ImmutableCollections" "EMPTY_LIST" "Ljava/util/ImmutableCollections$ListN;" (.ref el)) (E_el : Exa Z Z.heap el "java/util/ImmutableCollections$ListN") (F_el : Fld Z Z.heap el "java/util/ImmutableCollections$ListN" "elements" "[Ljava/lang/Object;" (.ref em)) (A_em : OArr Z Z.heap em (.object "java/lang/Object") 0 (fun _ => .null)) (S_dc : Sta Z Z.heap "java/util/ArrayList" "DEFAULTCAPACITY_EMPTY_ELEMENTDATA" "[Ljava/lang/Object;" (.ref dc)) (A_dc : OArr Z Z.heap dc (.object "java/lang/Object") 0 (fun _ => .null)) (N0 : Fr n0 locs) (O : Old Z n0 h0) (g_row : n0 ≤ row) (B_r : BR Z h0 row cn .null) (b : Addr) (E_b : Exa Z h0 b "java/util/ArrayList") (F_s : Fld Z h0 b "java/util/ArrayList" "size" "I" (.int (2 : Int32))) (ne_row_b : row ≠ b) (hcs : cells = 8) (hss : slots = 39) :
    OFin p e below s room_1.cells room_1.slots (fun v h L => v = some (.int (1 : Int32)) ∧ Fr n0 L) (T0.setTop (mkF m 262 #[.val (.int p1), .val (.int p2), .val (.int p3), .val (.int p4), .val (.int p5), .val (.ref cn), .val (.ref row), .val (.ref r1), .val (.ref r2), .val (.int (2 : Int32)), .val (.ref ra), .val (.ref rb), .val (.ref rc), .val (.ref b), .val (.ref el), .unset] [])) := by
  have hC0 := hC
  obtain ⟨hx, hZ, hby, hml, hown, hret, hlk, hnm⟩ := hC
  subst hcs hss
  obtain ⟨u766, u767, u768, u769, u770, u771, u772⟩ := B_r
  refine own_st (fun _ kS => XS.iload X0.here hx rfl (hb hby at_262) rfl kS) ?_
  show OFin p e below s _ _ _ (T0.setTop (mkF m 264 #[.val (.int p1), .val (.int p2), .val (.int p3), .val (.int p4), .val (.int p5), .val (.ref cn), .val (.ref row), .val (.ref r1), .val (.ref r2), .val (.int (2 : Int32)), .val (.ref ra), .val (.ref rb), .val (.ref rc), .val (.ref b), .val (.ref el), .unset] [(.int p5)]))
  refine own_st (fun _ kS => XS.iconst X0.here hx rfl (hb hby at_264) kS) ?_
  show OFin p e below s _ _ _ (T0.setTop (mkF m 265 #[.val (.int p1), .val (.int p2), .val (.int p3), .val (.int p4), .val (.int p5), .val (.ref cn), .val (.ref row), .val (.ref r1), .val (.ref r2), .val (.int (2 : Int32)), .val (.ref ra), .val (.ref rb), .val (.ref rc), .val (.ref b), .val (.ref el), .unset] [(.int (2 : Int32)), (.int p5)]))
  refine own_st (fun _ kS => XS.iand X0.here hx rfl (hb hby at_265) rfl kS) ?_
  show OFin p e below s _ _ _ (T0.setTop (mkF m 266 #[.val (.int p1), .val (.int p2), .val (.int p3), .val (.int p4), .val (.int p5), .val (.ref cn), .val (.ref row), .val (.ref r1), .val (.ref r2), .val (.int (2 : Int32)), .val (.ref ra), .val (.ref rb), .val (.ref rc), .val (.ref b), .val (.ref el), .unset] [(.int (p5 &&& (2 : Int32)))]))
  by_cases c1 : (p5 &&& (2 : Int32)) = (0 : Int32)
  · refine own_st (fun _ kS => XS.ifYes X0.here hx rfl (pc0 := 266) (pc' := 331) rfl (hb hby at_266) rfl ((if0 _ _).trans (teq c1).1) (by decide) (by decide) kS) ?_
    show OFin p e below s _ _ _ (T0.setTop (mkF m 331 #[.val (.int p1), .val (.int p2), .val (.int p3), .val (.int p4), .val (.int p5), .val (.ref cn), .val (.ref row), .val (.ref r1), .val (.ref r2), .val (.int (2 : Int32)), .val (.ref ra), .val (.ref rb), .val (.ref rc), .val (.ref b), .val (.ref el), .unset] []))
    refine own_st (fun _ kS => XS.iconst X0.here hx rfl (hb hby at_331) kS) ?_
    show OFin p e below s _ _ _ (T0.setTop (mkF m 332 #[.val (.int p1), .val (.int p2), .val (.int p3), .val (.int p4), .val (.int p5), .val (.ref cn), .val (.ref row), .val (.ref r1), .val (.ref r2), .val (.int (2 : Int32)), .val (.ref ra), .val (.ref rb), .val (.ref rc), .val (.ref b), .val (.ref el), .unset] [(.int (1 : Int32))]))
    exact own_ret X0 hx (t := .boolean) hret hlk rfl (Or.inl ⟨rfl, by simp, _, rfl⟩) (hb hby at_332) (by decide) (by decide) ⟨rfl, N0⟩
  · refine own_st (fun _ kS => XS.ifNo X0.here hx rfl (hb hby at_266) rfl ((if0 _ _).trans (feq c1).1) kS) ?_
    show OFin p e below s _ _ _ (T0.setTop (mkF m 269 #[.val (.int p1), .val (.int p2), .val (.int p3), .val (.int p4), .val (.int p5), .val (.ref cn), .val (.ref row), .val (.ref r1), .val (.ref r2), .val (.int (2 : Int32)), .val (.ref ra), .val (.ref rb), .val (.ref rc), .val (.ref b), .val (.ref el), .unset] []))
    refine own_st (fun _ kS => XS.aload X0.here hx rfl (hb hby at_269) rfl rfl kS) ?_
    show OFin p e below s _ _ _ (T0.setTop (mkF m 271 #[.val (.int p1), .val (.int p2), .val (.int p3), .val (.int p4), .val (.int p5), .val (.ref cn), .val (.ref row), .val (.ref r1), .val (.ref r2), .val (.int (2 : Int32)), .val (.ref ra), .val (.ref rb), .val (.ref rc), .val (.ref b), .val (.ref el), .unset] [(.ref row)]))
    refine own_st (fun _ kS => XS.aload X0.here hx rfl (hb hby at_271) rfl rfl kS) ?_
    show OFin p e below s _ _ _ (T0.setTop (mkF m 273 #[.val (.int p1), .val (.int p2), .val (.int p3), .val (.int p4), .val (.int p5), .val (.ref cn), .val (.ref row), .val (.ref r1), .val (.ref r2), .val (.int (2 : Int32)), .val (.ref ra), .val (.ref rb), .val (.ref rc), .val (.ref b), .val (.ref el), .unset] [(.ref rc), (.ref row)]))
    refine own_st (fun _ kS => XS.aload X0.here hx rfl (hb hby at_273) rfl rfl kS) ?_
    show OFin p e below s _ _ _ (T0.setTop (mkF m 275 #[.val (.int p1), .val (.int p2), .val (.int p3), .val (.int p4), .val (.int p5), .val (.ref cn), .val (.ref row), .val (.ref r1), .val (.ref r2), .val (.int (2 : Int32)), .val (.ref ra), .val (.ref rb), .val (.ref rc), .val (.ref b), .val (.ref el), .unset] [(.ref r1), (.ref rc), (.ref row)]))
    obtain ⟨v773, T773, L773, X773, hQ773, st773⟩ := own_virtual X0 hx hZ (y := (⟨"com/example/notation_search/notationsearch/math/Row", "hold", "(Lcom/example/notation_search/notationsearch/math/Relation;Lcom/example/notation_search/notationsearch/math/Row;)V"⟩ : MethodName)) (z := (⟨"com/example/notation_search/notationsearch/math/Row", "hold", "(Lcom/example/notation_search/notationsearch/math/Relation;Lcom/example/notation_search/notationsearch/math/Row;)V"⟩ : MethodName)) (rm := ⟨5, 3, 16, 69⟩) (W := 0) (a := row) (argsL := [(.ref rc), (.ref r1)]) (rest := []) hown (own_w hw 73 rfl) (own_w hw 74 rfl) (notFace_of_selects (args := #[]) (mvT hZ (own_w hw 76 rfl))) (own_w hw 76 rfl) (own_w hw 75 rfl) (own_w hw 11 rfl) (own_w hw 77 rfl) (rmH0 l Z a0 hw row rc r1 h0 n0 Z0 cn dc ⟨u766, u767, u768, u769, u770, u771, u772⟩ g_row O S_dc A_dc) e0 u766 (g := (mkF m 275 #[.val (.int p1), .val (.int p2), .val (.int p3), .val (.int p4), .val (.int p5), .val (.ref cn), .val (.ref row), .val (.ref r1), .val (.ref r2), .val (.int (2 : Int32)), .val (.ref ra), .val (.ref rb), .val (.ref rc), .val (.ref b), .val (.ref el), .unset] [(.ref r1), (.ref rc), (.ref row)])) rfl (by rw [hml]; rfl) (lenOf own_pd13 rfl) rfl (by show 2 * 0 + _ ≤ _; exact Nat.le_of_eq rfl) (hb hby at_275) (by decide) (by decide) (by decide) (by decide)
    obtain ⟨rfl, N773, K773, b2, ge_b2, ar2, ge_ar2, s2, ge_s2, ne_b2_ar2, ne_b2_s2, ne_ar2_s2, B773_0, B773_1, B773_2⟩ := hQ773
    have ne_b_b2 : b ≠ b2 := Nat.ne_of_lt (Nat.lt_of_lt_of_le E_b.lt ge_b2)
    have ne_row_b2 : row ≠ b2 := Nat.ne_of_lt (Nat.lt_of_lt_of_le u766.lt ge_b2)
    have g_b2 : n0 ≤ b2 := Nat.le_trans Z0 ge_b2
    have ne_b_ar2 : b ≠ ar2 := Nat.ne_of_lt (Nat.lt_of_lt_of_le E_b.lt ge_ar2)
    have ne_row_ar2 : row ≠ ar2 := Nat.ne_of_lt (Nat.lt_of_lt_of_le u766.lt ge_ar2)
    have g_ar2 : n0 ≤ ar2 := Nat.le_trans Z0 ge_ar2
    have ne_b_s2 : b ≠ s2 := Nat.ne_of_lt (Nat.lt_of_lt_of_le E_b.lt ge_s2)
    have ne_row_s2 : row ≠ s2 := Nat.ne_of_lt (Nat.lt_of_lt_of_le u766.lt ge_s2)
    have g_s2 : n0 ≤ s2 := Nat.le_trans Z0 ge_s2
    have fr773 := Fr.app N0 N773
    clear N0 N773
    have od773 := O.keep K773 (allS g_row all0)
    have f774 := u766.keep K773
    clear u766
    clear u767
    clear u768
    clear u769
    clear u770
    clear u771
    clear u772
    have f781 := E_b.keep K773
    have f782 := F_s.keep K773 (ninS (Ne.symm ne_row_b) nin0)
    have sz773 : n0 ≤ T773.heap.size := Nat.le_trans Z0 K773.1
    clear K773
    obtain ⟨u783, u784, u785, u786, u787, u788, u789⟩ := B773_0
    obtain ⟨u790, u791, u792, u793, u794⟩ := B773_1
    obtain ⟨u795, u796, u797, u798⟩ := B773_2
    refine own_st (st773) ?_
    clear st773 X0 e0
    show OFin p e below s _ _ _ (T773.setTop (mkF m 278 #[.val (.int p1), .val (.int p2), .val (.int p3), .val (.int p4), .val (.int p5), .val (.ref cn), .val (.ref row), .val (.ref r1), .val (.ref r2), .val (.int (2 : Int32)), .val (.ref ra), .val (.ref rb), .val (.ref rc), .val (.ref b), .val (.ref el), .unset] []))
    refine own_st (fun _ kS => XS.aload X773.here hx rfl (hb hby at_278) rfl rfl kS) ?_
    show OFin p e below s _ _ _ (T773.setTop (mkF m 280 #[.val (.int p1), .val (.int p2), .val (.int p3), .val (.int p4), .val (.int p5), .val (.ref cn), .val (.ref row), .val (.ref r1), .val (.ref r2), .val (.int (2 : Int32)), .val (.ref ra), .val (.ref rb), .val (.ref rc), .val (.ref b), .val (.ref el), .unset] [(.ref row)]))
    obtain ⟨v799, T799, L799, X799, hQ799, st799⟩ := own_virtual X773 hx hZ (y := (⟨"com/example/notation_search/notationsearch/math/Row", "release", "()Ljava/util/List;"⟩ : MethodName)) (z := (⟨"com/example/notation_search/notationsearch/math/Row", "release", "()Ljava/util/List;"⟩ : MethodName)) (rm := ⟨0, 0, 0, 0⟩) (W := 0) (a := row) (argsL := []) (rest := []) hown (own_w hw 29 rfl) (own_w hw 30 rfl) (notFace_of_selects (args := #[]) (mvT hZ (own_w hw 32 rfl))) (own_w hw 32 rfl) (own_w hw 31 rfl) (own_w hw 11 rfl) (own_w hw 33 rfl) (rmRW l Z a0 hw row T773.heap n0 cn b2 ⟨u783, u784, u785, u786, u787, u788, u789⟩ g_row) rfl u783 (g := (mkF m 280 #[.val (.int p1), .val (.int p2), .val (.int p3), .val (.int p4), .val (.int p5), .val (.ref cn), .val (.ref row), .val (.ref r1), .val (.ref r2), .val (.int (2 : Int32)), .val (.ref ra), .val (.ref rb), .val (.ref rc), .val (.ref b), .val (.ref el), .unset] [(.ref row)])) rfl (by rw [hml]; rfl) (lenOf own_pd1 rfl) rfl (by show 2 * 0 + _ ≤ _; exact Nat.le_of_eq rfl) (hb hby at_280) (by decide) (by decide) (by decide) (by decide)
    obtain ⟨rfl, N799, K799, B799_0⟩ := hQ799
    have fr799 := Fr.app fr773 N799
    clear fr773 N799
    have od799 := od773.keep K799 (allS g_row all0)
    clear od773
    have f800 := u783.keep K799
    clear u783
    have f801 := f781.keep K799
    clear f781
    have f802 := f782.keep K799 (ninS (Ne.symm ne_row_b) nin0)
    clear f782
    clear u784
    clear u785
    clear u786
    clear u787
    clear u788
    clear u789
    have f809 := u790.keep K799
    clear u790
    have f810 := u791.keep K799 (ninS (Ne.symm ne_row_b2) nin0)
    clear u791
    have f811 := u792.keep K799 (ninS (Ne.symm ne_row_b2) nin0)
    clear u792
    have f812 := u793.keep K799 (ninS (Ne.symm ne_row_b2) nin0)
    clear u793
    have f813 := u794.keep K799 (ninS (Ne.symm ne_row_ar2) nin0)
    clear u794
    have f814 := u795.keep K799
    clear u795
    have f815 := u796.keep K799 (ninS (Ne.symm ne_row_s2) nin0)
    clear u796
    have f816 := u797.keep K799 (ninS (Ne.symm ne_row_s2) nin0)
    clear u797
    have f817 := u798.keep K799 (ninS (Ne.symm ne_row_s2) nin0)
    clear u798
    have sz799 : n0 ≤ T799.heap.size := Nat.le_trans sz773 K799.1
    clear sz773
    clear K799
    obtain ⟨u818, u819, u820, u821, u822, u823, u824⟩ := B799_0
    refine own_st (st799) ?_
    clear st799 X773
    show OFin p e below s _ _ _ (T799.setTop (mkF m 283 #[.val (.int p1), .val (.int p2), .val (.int p3), .val (.int p4), .val (.int p5), .val (.ref cn), .val (.ref row), .val (.ref r1), .val (.ref r2), .val (.int (2 : Int32)), .val (.ref ra), .val (.ref rb), .val (.ref rc), .val (.ref b), .val (.ref el), .unset] [(.ref b2)]))
    refine own_st (fun _ kS => XS.astore X799.here hx rfl (hb hby at_283) rfl rfl (l' := #[.val (.int p1), .val (.int p2), .val (.int p3), .val (.int p4), .val (.int p5), .val (.ref cn), .val (.ref row), .val (.ref r1), .val (.ref r2), .val (.int (2 : Int32)), .val (.ref ra), .val (.ref rb), .val (.ref rc), .val (.ref b), .val (.ref el), .val (.ref b2)]) rfl kS) ?_
    show OFin p e below s _ _ _ (T799.setTop (mkF m 285 #[.val (.int p1), .val (.int p2), .val (.int p3), .val (.int p4), .val (.int p5), .val (.ref cn), .val (.ref row), .val (.ref r1), .val (.ref r2), .val (.int (2 : Int32)), .val (.ref ra), .val (.ref rb), .val (.ref rc), .val (.ref b), .val (.ref el), .val (.ref b2)] []))
    refine own_st (fun _ kS => XS.aload X799.here hx rfl (hb hby at_285) rfl rfl kS) ?_
    show OFin p e below s _ _ _ (T799.setTop (mkF m 287 #[.val (.int p1), .val (.int p2), .val (.int p3), .val (.int p4), .val (.int p5), .val (.ref cn), .val (.ref row), .val (.ref r1), .val (.ref r2), .val (.int (2 : Int32)), .val (.ref ra), .val (.ref rb), .val (.ref rc), .val (.ref b), .val (.ref el), .val (.ref b2)] [(.ref b2)]))
    obtain ⟨v825, T825, L825, X825, hQ825, st825⟩ := own_face X799 hx hZ (y := (⟨"java/util/List", "size", "()I"⟩ : MethodName)) (z := (⟨"java/util/ArrayList", "size", "()I"⟩ : MethodName)) (rm := ⟨0, 0, 0, 0⟩) (W := 0) (a := b2) (argsL := []) (rest := []) hown (own_w hw 42 rfl) (own_w hw 43 rfl) (mvT hZ (own_w hw 44 rfl)) (own_w hw 164 rfl) (own_w hw 165 rfl) (own_w hw 166 rfl) (own_w hw 167 rfl) (own_w hw 127 rfl) (own_w hw 80 rfl) (own_w hw 168 rfl) (rmSz l Z a0 hw b2 T799.heap (1 : Int32) f812) rfl f809 (g := (mkF m 287 #[.val (.int p1), .val (.int p2), .val (.int p3), .val (.int p4), .val (.int p5), .val (.ref cn), .val (.ref row), .val (.ref r1), .val (.ref r2), .val (.int (2 : Int32)), .val (.ref ra), .val (.ref rb), .val (.ref rc), .val (.ref b), .val (.ref el), .val (.ref b2)] [(.ref b2)])) rfl (by rw [hml]; rfl) (lenOf own_pd14 rfl) rfl (by show 2 * 0 + _ ≤ _; exact Nat.le_of_eq rfl) (hb hby at_287) (by decide) (by decide) (by decide) (by decide)
    obtain ⟨rfl, e825, rfl⟩ := hQ825
    rw [List.append_nil] at X825
    refine own_st (st825) ?_
    clear st825 X799
    show OFin p e below s _ _ _ (T825.setTop (mkF m 292 #[.val (.int p1), .val (.int p2), .val (.int p3), .val (.int p4), .val (.int p5), .val (.ref cn), .val (.ref row), .val (.ref r1), .val (.ref r2), .val (.int (2 : Int32)), .val (.ref ra), .val (.ref rb), .val (.ref rc), .val (.ref b), .val (.ref el), .val (.ref b2)] [(.int (1 : Int32))]))
    refine own_st (fun _ kS => XS.iconst X825.here hx rfl (hb hby at_292) kS) ?_
    show OFin p e below s _ _ _ (T825.setTop (mkF m 293 #[.val (.int p1), .val (.int p2), .val (.int p3), .val (.int p4), .val (.int p5), .val (.ref cn), .val (.ref row), .val (.ref r1), .val (.ref r2), .val (.int (2 : Int32)), .val (.ref ra), .val (.ref rb), .val (.ref rc), .val (.ref b), .val (.ref el), .val (.ref b2)] [(.int (1 : Int32)), (.int (1 : Int32))]))
    refine own_st (fun _ kS => XS.icmpNo X825.here hx rfl (hb hby at_293) rfl (teq rfl).2 kS) ?_
    show OFin p e below s _ _ _ (T825.setTop (mkF m 296 #[.val (.int p1), .val (.int p2), .val (.int p3), .val (.int p4), .val (.int p5), .val (.ref cn), .val (.ref row), .val (.ref r1), .val (.ref r2), .val (.int (2 : Int32)), .val (.ref ra), .val (.ref rb), .val (.ref rc), .val (.ref b), .val (.ref el), .val (.ref b2)] []))
    refine own_st (fun _ kS => XS.aload X825.here hx rfl (hb hby at_296) rfl rfl kS) ?_
    show OFin p e below s _ _ _ (T825.setTop (mkF m 298 #[.val (.int p1), .val (.int p2), .val (.int p3), .val (.int p4), .val (.int p5), .val (.ref cn), .val (.ref row), .val (.ref r1), .val (.ref r2), .val (.int (2 : Int32)), .val (.ref ra), .val (.ref rb), .val (.ref rc), .val (.ref b), .val (.ref el), .val (.ref b2)] [(.ref b2)]))
    refine own_st (fun _ kS => XS.iconst X825.here hx rfl (hb hby at_298) kS) ?_
    show OFin p e below s _ _ _ (T825.setTop (mkF m 299 #[.val (.int p1), .val (.int p2), .val (.int p3), .val (.int p4), .val (.int p5), .val (.ref cn), .val (.ref row), .val (.ref r1), .val (.ref r2), .val (.int (2 : Int32)), .val (.ref ra), .val (.ref rb), .val (.ref rc), .val (.ref b), .val (.ref el), .val (.ref b2)] [(.int (0 : Int32)), (.ref b2)]))
    obtain ⟨v826, T826, L826, X826, hQ826, st826⟩ := own_face X825 hx hZ (y := (⟨"java/util/List", "get", "(I)Ljava/lang/Object;"⟩ : MethodName)) (z := (⟨"java/util/ArrayList", "get", "(I)Ljava/lang/Object;"⟩ : MethodName)) (rm := ⟨2, 0, 0, 27⟩) (W := 0) (a := b2) (argsL := [(.int (0 : Int32))]) (rest := []) hown (own_w hw 169 rfl) (own_w hw 170 rfl) (mvT hZ (own_w hw 171 rfl)) (own_w hw 172 rfl) (own_w hw 173 rfl) (own_w hw 174 rfl) (own_w hw 175 rfl) (own_w hw 127 rfl) (own_w hw 80 rfl) (own_w hw 176 rfl) (rmGet l Z a0 hw b2 (0 : Int32) T799.heap ar2 s2 (1 : Int32) (1 : Int32) (fun i => if i = 0 then .ref s2 else (fun _ => .null) i) 0 ⟨f809, f810, f811, f812, f813⟩ (by decide) (by decide) rfl (by decide) rfl) e825 f809 (g := (mkF m 299 #[.val (.int p1), .val (.int p2), .val (.int p3), .val (.int p4), .val (.int p5), .val (.ref cn), .val (.ref row), .val (.ref r1), .val (.ref r2), .val (.int (2 : Int32)), .val (.ref ra), .val (.ref rb), .val (.ref rc), .val (.ref b), .val (.ref el), .val (.ref b2)] [(.int (0 : Int32)), (.ref b2)])) rfl (by rw [hml]; rfl) (lenOf own_pd7 rfl) rfl (by show 2 * 0 + _ ≤ _; exact Nat.le_of_eq rfl) (hb hby at_299) (by decide) (by decide) (by decide) (by decide)
    obtain ⟨rfl, e826, rfl⟩ := hQ826
    rw [List.append_nil] at X826
    refine own_st (st826) ?_
    clear st826 X825 e825
    show OFin p e below s _ _ _ (T826.setTop (mkF m 304 #[.val (.int p1), .val (.int p2), .val (.int p3), .val (.int p4), .val (.int p5), .val (.ref cn), .val (.ref row), .val (.ref r1), .val (.ref r2), .val (.int (2 : Int32)), .val (.ref ra), .val (.ref rb), .val (.ref rc), .val (.ref b), .val (.ref el), .val (.ref b2)] [(.ref s2)]))
    obtain ⟨T827, X827, e827, st827⟩ := castY X826 hx hZ hown (own_w hw 190 rfl) e826 (Ins.self f814) (g := (mkF m 304 #[.val (.int p1), .val (.int p2), .val (.int p3), .val (.int p4), .val (.int p5), .val (.ref cn), .val (.ref row), .val (.ref r1), .val (.ref r2), .val (.int (2 : Int32)), .val (.ref ra), .val (.ref rb), .val (.ref rc), .val (.ref b), .val (.ref el), .val (.ref b2)] [(.ref s2)])) rfl rfl (hb hby at_304)
    refine own_st (st827) ?_
    clear st827 X826 e826
    show OFin p e below s _ _ _ (T827.setTop (mkF m 307 #[.val (.int p1), .val (.int p2), .val (.int p3), .val (.int p4), .val (.int p5), .val (.ref cn), .val (.ref row), .val (.ref r1), .val (.ref r2), .val (.int (2 : Int32)), .val (.ref ra), .val (.ref rb), .val (.ref rc), .val (.ref b), .val (.ref el), .val (.ref b2)] [(.ref s2)]))
    refine own_st (fun _ kS => XS.aload X827.here hx rfl (hb hby at_307) rfl rfl kS) ?_
    show OFin p e below s _ _ _ (T827.setTop (mkF m 309 #[.val (.int p1), .val (.int p2), .val (.int p3), .val (.int p4), .val (.int p5), .val (.ref cn), .val (.ref row), .val (.ref r1), .val (.ref r2), .val (.int (2 : Int32)), .val (.ref ra), .val (.ref rb), .val (.ref rc), .val (.ref b), .val (.ref el), .val (.ref b2)] [(.ref rc), (.ref s2)]))
    refine own_st (fun _ kS => XS.aload X827.here hx rfl (hb hby at_309) rfl rfl kS) ?_
    show OFin p e below s _ _ _ (T827.setTop (mkF m 311 #[.val (.int p1), .val (.int p2), .val (.int p3), .val (.int p4), .val (.int p5), .val (.ref cn), .val (.ref row), .val (.ref r1), .val (.ref r2), .val (.int (2 : Int32)), .val (.ref ra), .val (.ref rb), .val (.ref rc), .val (.ref b), .val (.ref el), .val (.ref b2)] [(.ref r1), (.ref rc), (.ref s2)]))
    obtain ⟨v828, T828, L828, X828, hQ828, st828⟩ := own_static X827 hx hZ (y := (⟨"com/example/notation_search/notationsearch/math/RowReleasePinLaw", "same", "(Lcom/example/notation_search/notationsearch/math/Row$Script;Lcom/example/notation_search/notationsearch/math/Relation;Lcom/example/notation_search/notationsearch/math/Row;)Z"⟩ : MethodName)) (rm := ⟨1, 0, 0, 12⟩) (W := 0) (argsL := [(.ref s2), (.ref rc), (.ref r1)]) (rest := []) hown (own_w hw 192 rfl) (own_w hw 193 rfl) (own_w hw 20 rfl) (own_w hw 194 rfl) (rmSame l Z a0 hw s2 rc r1 T799.heap ⟨f814, f815, f816, f817⟩) e827 (g := (mkF m 311 #[.val (.int p1), .val (.int p2), .val (.int p3), .val (.int p4), .val (.int p5), .val (.ref cn), .val (.ref row), .val (.ref r1), .val (.ref r2), .val (.int (2 : Int32)), .val (.ref ra), .val (.ref rb), .val (.ref rc), .val (.ref b), .val (.ref el), .val (.ref b2)] [(.ref r1), (.ref rc), (.ref s2)])) rfl (by rw [hml]; rfl) (lenOf own_pd15 rfl) rfl (by show 2 * 0 + _ ≤ _; exact Nat.le_of_eq rfl) (hb hby at_311) (by decide) (by decide) (by decide) (by decide)
    obtain ⟨rfl, e828, rfl⟩ := hQ828
    rw [List.append_nil] at X828
    refine own_st (st828) ?_
    clear st828 X827 e827
    show OFin p e below s _ _ _ (T828.setTop (mkF m 314 #[.val (.int p1), .val (.int p2), .val (.int p3), .val (.int p4), .val (.int p5), .val (.ref cn), .val (.ref row), .val (.ref r1), .val (.ref r2), .val (.int (2 : Int32)), .val (.ref ra), .val (.ref rb), .val (.ref rc), .val (.ref b), .val (.ref el), .val (.ref b2)] [(.int (1 : Int32))]))
    refine own_st (fun _ kS => XS.ifNo X828.here hx rfl (hb hby at_314) rfl ((if0 _ _).trans (feq (by decide)).1) kS) ?_
    show OFin p e below s _ _ _ (T828.setTop (mkF m 317 #[.val (.int p1), .val (.int p2), .val (.int p3), .val (.int p4), .val (.int p5), .val (.ref cn), .val (.ref row), .val (.ref r1), .val (.ref r2), .val (.int (2 : Int32)), .val (.ref ra), .val (.ref rb), .val (.ref rc), .val (.ref b), .val (.ref el), .val (.ref b2)] []))
    refine own_st (fun _ kS => XS.aload X828.here hx rfl (hb hby at_317) rfl rfl kS) ?_
    show OFin p e below s _ _ _ (T828.setTop (mkF m 319 #[.val (.int p1), .val (.int p2), .val (.int p3), .val (.int p4), .val (.int p5), .val (.ref cn), .val (.ref row), .val (.ref r1), .val (.ref r2), .val (.int (2 : Int32)), .val (.ref ra), .val (.ref rb), .val (.ref rc), .val (.ref b), .val (.ref el), .val (.ref b2)] [(.ref b)]))
    obtain ⟨v829, T829, L829, X829, hQ829, st829⟩ := own_face X828 hx hZ (y := (⟨"java/util/List", "size", "()I"⟩ : MethodName)) (z := (⟨"java/util/ArrayList", "size", "()I"⟩ : MethodName)) (rm := ⟨0, 0, 0, 0⟩) (W := 0) (a := b) (argsL := []) (rest := []) hown (own_w hw 42 rfl) (own_w hw 43 rfl) (mvT hZ (own_w hw 44 rfl)) (own_w hw 164 rfl) (own_w hw 165 rfl) (own_w hw 166 rfl) (own_w hw 167 rfl) (own_w hw 127 rfl) (own_w hw 80 rfl) (own_w hw 168 rfl) (rmSz l Z a0 hw b T799.heap (2 : Int32) f802) e828 f801 (g := (mkF m 319 #[.val (.int p1), .val (.int p2), .val (.int p3), .val (.int p4), .val (.int p5), .val (.ref cn), .val (.ref row), .val (.ref r1), .val (.ref r2), .val (.int (2 : Int32)), .val (.ref ra), .val (.ref rb), .val (.ref rc), .val (.ref b), .val (.ref el), .val (.ref b2)] [(.ref b)])) rfl (by rw [hml]; rfl) (lenOf own_pd14 rfl) rfl (by show 2 * 0 + _ ≤ _; exact Nat.le_of_eq rfl) (hb hby at_319) (by decide) (by decide) (by decide) (by decide)
    obtain ⟨rfl, e829, rfl⟩ := hQ829
    rw [List.append_nil] at X829
    refine own_st (st829) ?_
    clear st829 X828 e828
    show OFin p e below s _ _ _ (T829.setTop (mkF m 324 #[.val (.int p1), .val (.int p2), .val (.int p3), .val (.int p4), .val (.int p5), .val (.ref cn), .val (.ref row), .val (.ref r1), .val (.ref r2), .val (.int (2 : Int32)), .val (.ref ra), .val (.ref rb), .val (.ref rc), .val (.ref b), .val (.ref el), .val (.ref b2)] [(.int (2 : Int32))]))
    refine own_st (fun _ kS => XS.iload X829.here hx rfl (hb hby at_324) rfl kS) ?_
    show OFin p e below s _ _ _ (T829.setTop (mkF m 326 #[.val (.int p1), .val (.int p2), .val (.int p3), .val (.int p4), .val (.int p5), .val (.ref cn), .val (.ref row), .val (.ref r1), .val (.ref r2), .val (.int (2 : Int32)), .val (.ref ra), .val (.ref rb), .val (.ref rc), .val (.ref b), .val (.ref el), .val (.ref b2)] [(.int (2 : Int32)), (.int (2 : Int32))]))
    refine own_st (fun _ kS => XS.icmpYes X829.here hx rfl (pc0 := 326) (pc' := 331) rfl (hb hby at_326) rfl (teq rfl).1 (by decide) (by decide) kS) ?_
    show OFin p e below s _ _ _ (T829.setTop (mkF m 331 #[.val (.int p1), .val (.int p2), .val (.int p3), .val (.int p4), .val (.int p5), .val (.ref cn), .val (.ref row), .val (.ref r1), .val (.ref r2), .val (.int (2 : Int32)), .val (.ref ra), .val (.ref rb), .val (.ref rc), .val (.ref b), .val (.ref el), .val (.ref b2)] []))
    refine own_st (fun _ kS => XS.iconst X829.here hx rfl (hb hby at_331) kS) ?_
    show OFin p e below s _ _ _ (T829.setTop (mkF m 332 #[.val (.int p1), .val (.int p2), .val (.int p3), .val (.int p4), .val (.int p5), .val (.ref cn), .val (.ref row), .val (.ref r1), .val (.ref r2), .val (.int (2 : Int32)), .val (.ref ra), .val (.ref rb), .val (.ref rc), .val (.ref b), .val (.ref el), .val (.ref b2)] [(.int (1 : Int32))]))
    exact own_ret X829 hx (t := .boolean) hret hlk rfl (Or.inl ⟨rfl, by simp, _, rfl⟩) (hb hby at_332) (by decide) (by decide) ⟨rfl, fr799⟩
set_option maxRecDepth 65536 in
set_option maxHeartbeats 40000000 in
theorem own_b2 {l : Launch} {Z : State} {a0 : Array Value} (hw : ∀ d ∈ tables_1, d.before a0 Z = true) {p : Program} {e : Env} {s : State} {m : MethodId} {args : Array Value} {below : List Frame} {meth : Method} {c : Code} (hC : OCtx Z p s m meth c "com/example/notation_search/notationsearch/math/RowReleasePinLaw" "law" code maxLocals ret) {T0 : State} {locs : List Loc} {cells slots : Nat} (X0 : Stand p l e room_1 s m args below meth c T0 locs cells slots) {h0 : Heap} (e0 : T0.heap = h0) (n0 : Nat) (Z0 : n0 ≤ h0.size) (p1 p2 p3 p4 p5 : Int32) (cn row r1 r2 ra rb rc : Addr) (el em dc : Addr) (S_el : Sta Z Z.heap "java/util/ImmutableCollections" "EMPTY_LIST" "Ljava/util/ImmutableCollections$ListN;" (.ref el)) (E_el : Exa Z Z.heap el "java/util/ImmutableCollections$ListN") (F_el : Fld Z Z.heap el "java/util/ImmutableCollections$ListN" "elements" "[Ljava/lang/Object;" (.ref em)) (A_em : OArr Z Z.heap em (.object "java/lang/Object") 0 (fun _ => .null)) (S_dc : Sta Z Z.heap "java/util/ArrayList" "DEFAULTCAPACITY_EMPTY_ELEMENTDATA" "[Ljava/lang/Object;" (.ref dc)) (A_dc : OArr Z Z.heap dc (.object "java/lang/Object") 0 (fun _ => .null)) (N0 : Fr n0 locs) (O : Old Z n0 h0) (g_row : n0 ≤ row) (b ar s1 : Addr) (B_r : BR Z h0 row cn (.ref b)) (B_b : BL Z h0 b ar (1 : Int32) (1 : Int32) (fun i => if i = 0 then .ref s1 else (fun _ => .null) i)) (B_s : BS Z h0 s1 ra r1) (ne_row_b : row ≠ b) (ne_row_ar : row ≠ ar) (ne_row_s1 : row ≠ s1) (ne_b_ar : b ≠ ar) (ne_b_s1 : b ≠ s1) (ne_ar_s1 : ar ≠ s1) (g_b : n0 ≤ b) (g_ar : n0 ≤ ar) (hcs : cells = 7) (hss : slots = 36) :
    OFin p e below s room_1.cells room_1.slots (fun v h L => v = some (.int (1 : Int32)) ∧ Fr n0 L) (T0.setTop (mkF m 94 #[.val (.int p1), .val (.int p2), .val (.int p3), .val (.int p4), .val (.int p5), .val (.ref cn), .val (.ref row), .val (.ref r1), .val (.ref r2), .val (.int (2 : Int32)), .val (.ref ra), .val (.ref rb), .val (.ref rc), .unset, .unset, .unset] [])) := by
  have hC0 := hC
  obtain ⟨hx, hZ, hby, hml, hown, hret, hlk, hnm⟩ := hC
  subst hcs hss
  obtain ⟨u830, u831, u832, u833, u834, u835, u836⟩ := B_r
  obtain ⟨u837, u838, u839, u840, u841⟩ := B_b
  obtain ⟨u842, u843, u844, u845⟩ := B_s
  refine own_st (fun _ kS => XS.iload X0.here hx rfl (hb hby at_94) rfl kS) ?_
  show OFin p e below s _ _ _ (T0.setTop (mkF m 96 #[.val (.int p1), .val (.int p2), .val (.int p3), .val (.int p4), .val (.int p5), .val (.ref cn), .val (.ref row), .val (.ref r1), .val (.ref r2), .val (.int (2 : Int32)), .val (.ref ra), .val (.ref rb), .val (.ref rc), .unset, .unset, .unset] [(.int (2 : Int32))]))
  refine own_st (fun _ kS => XS.iconst X0.here hx rfl (hb hby at_96) kS) ?_
  show OFin p e below s _ _ _ (T0.setTop (mkF m 97 #[.val (.int p1), .val (.int p2), .val (.int p3), .val (.int p4), .val (.int p5), .val (.ref cn), .val (.ref row), .val (.ref r1), .val (.ref r2), .val (.int (2 : Int32)), .val (.ref ra), .val (.ref rb), .val (.ref rc), .unset, .unset, .unset] [(.int (2 : Int32)), (.int (2 : Int32))]))
  refine own_st (fun _ kS => XS.icmpNo X0.here hx rfl (hb hby at_97) rfl (flt (by decide)).1 kS) ?_
  show OFin p e below s _ _ _ (T0.setTop (mkF m 100 #[.val (.int p1), .val (.int p2), .val (.int p3), .val (.int p4), .val (.int p5), .val (.ref cn), .val (.ref row), .val (.ref r1), .val (.ref r2), .val (.int (2 : Int32)), .val (.ref ra), .val (.ref rb), .val (.ref rc), .unset, .unset, .unset] []))
  refine own_st (fun _ kS => XS.aload X0.here hx rfl (hb hby at_100) rfl rfl kS) ?_
  show OFin p e below s _ _ _ (T0.setTop (mkF m 102 #[.val (.int p1), .val (.int p2), .val (.int p3), .val (.int p4), .val (.int p5), .val (.ref cn), .val (.ref row), .val (.ref r1), .val (.ref r2), .val (.int (2 : Int32)), .val (.ref ra), .val (.ref rb), .val (.ref rc), .unset, .unset, .unset] [(.ref row)]))
  refine own_st (fun _ kS => XS.aload X0.here hx rfl (hb hby at_102) rfl rfl kS) ?_
  show OFin p e below s _ _ _ (T0.setTop (mkF m 104 #[.val (.int p1), .val (.int p2), .val (.int p3), .val (.int p4), .val (.int p5), .val (.ref cn), .val (.ref row), .val (.ref r1), .val (.ref r2), .val (.int (2 : Int32)), .val (.ref ra), .val (.ref rb), .val (.ref rc), .unset, .unset, .unset] [(.ref rb), (.ref row)]))
  refine own_st (fun _ kS => XS.aload X0.here hx rfl (hb hby at_104) rfl rfl kS) ?_
  show OFin p e below s _ _ _ (T0.setTop (mkF m 106 #[.val (.int p1), .val (.int p2), .val (.int p3), .val (.int p4), .val (.int p5), .val (.ref cn), .val (.ref row), .val (.ref r1), .val (.ref r2), .val (.int (2 : Int32)), .val (.ref ra), .val (.ref rb), .val (.ref rc), .unset, .unset, .unset] [(.ref r2), (.ref rb), (.ref row)]))
  obtain ⟨v846, T846, L846, X846, hQ846, st846⟩ := own_virtual X0 hx hZ (y := (⟨"com/example/notation_search/notationsearch/math/Row", "hold", "(Lcom/example/notation_search/notationsearch/math/Relation;Lcom/example/notation_search/notationsearch/math/Row;)V"⟩ : MethodName)) (z := (⟨"com/example/notation_search/notationsearch/math/Row", "hold", "(Lcom/example/notation_search/notationsearch/math/Relation;Lcom/example/notation_search/notationsearch/math/Row;)V"⟩ : MethodName)) (rm := ⟨3, 1, 3, 41⟩) (W := 0) (a := row) (argsL := [(.ref rb), (.ref r2)]) (rest := []) hown (own_w hw 73 rfl) (own_w hw 74 rfl) (notFace_of_selects (args := #[]) (mvT hZ (own_w hw 76 rfl))) (own_w hw 76 rfl) (own_w hw 75 rfl) (own_w hw 11 rfl) (own_w hw 77 rfl) (rmHn l Z a0 hw row rb r2 h0 n0 Z0 cn b ar (1 : Int32) (2 : Int32) (fun i => if i = 0 then .ref s1 else (fun _ => .null) i) 1 (by decide) rfl (by decide) (by decide) rfl ⟨u830, u831, u832, u833, u834, u835, u836⟩ ⟨u837, u838, u839, u840, u841⟩ ne_row_b ne_row_ar ne_b_ar g_b g_ar) e0 u830 (g := (mkF m 106 #[.val (.int p1), .val (.int p2), .val (.int p3), .val (.int p4), .val (.int p5), .val (.ref cn), .val (.ref row), .val (.ref r1), .val (.ref r2), .val (.int (2 : Int32)), .val (.ref ra), .val (.ref rb), .val (.ref rc), .unset, .unset, .unset] [(.ref r2), (.ref rb), (.ref row)])) rfl (by rw [hml]; rfl) (lenOf own_pd13 rfl) rfl (by show 2 * 0 + _ ≤ _; exact Nat.le_of_eq rfl) (hb hby at_106) (by decide) (by decide) (by decide) (by decide)
  obtain ⟨rfl, N846, K846, s2, ge_s2, B846_0, B846_1⟩ := hQ846
  have ne_ar_s2 : ar ≠ s2 := Nat.ne_of_lt (Nat.lt_of_lt_of_le u841.lt ge_s2)
  have ne_b_s2 : b ≠ s2 := Nat.ne_of_lt (Nat.lt_of_lt_of_le u837.lt ge_s2)
  have ne_row_s2 : row ≠ s2 := Nat.ne_of_lt (Nat.lt_of_lt_of_le u830.lt ge_s2)
  have ne_s1_s2 : s1 ≠ s2 := Nat.ne_of_lt (Nat.lt_of_lt_of_le u842.lt ge_s2)
  have g_s2 : n0 ≤ s2 := Nat.le_trans Z0 ge_s2
  have fr846 := Fr.app N0 N846
  clear N0 N846
  have od846 := O.keep K846 (allS g_b (allS g_ar all0))
  have f847 := u830.keep K846
  clear u830
  have f848 := u831.keep K846 (ninS ne_row_b (ninS ne_row_ar nin0))
  clear u831
  have f849 := u832.keep K846 (ninS ne_row_b (ninS ne_row_ar nin0))
  clear u832
  have f850 := u833.keep K846 (ninS ne_row_b (ninS ne_row_ar nin0))
  clear u833
  have f851 := u834.keep K846 (ninS ne_row_b (ninS ne_row_ar nin0))
  clear u834
  have f852 := u835.keep K846 (ninS ne_row_b (ninS ne_row_ar nin0))
  clear u835
  have f853 := u836.keep K846 (ninS ne_row_b (ninS ne_row_ar nin0))
  clear u836
  have f854 := u837.keep K846
  clear u837
  clear u838
  clear u839
  clear u840
  clear u841
  have f859 := u842.keep K846
  clear u842
  have f860 := u843.keep K846 (ninS (Ne.symm ne_b_s1) (ninS (Ne.symm ne_ar_s1) nin0))
  clear u843
  have f861 := u844.keep K846 (ninS (Ne.symm ne_b_s1) (ninS (Ne.symm ne_ar_s1) nin0))
  clear u844
  have f862 := u845.keep K846 (ninS (Ne.symm ne_b_s1) (ninS (Ne.symm ne_ar_s1) nin0))
  clear u845
  have sz846 : n0 ≤ T846.heap.size := Nat.le_trans Z0 K846.1
  clear K846
  obtain ⟨u863, u864, u865, u866, u867⟩ := B846_0
  obtain ⟨u868, u869, u870, u871⟩ := B846_1
  refine own_st (st846) ?_
  clear st846 X0 e0
  show OFin p e below s _ _ _ (T846.setTop (mkF m 109 #[.val (.int p1), .val (.int p2), .val (.int p3), .val (.int p4), .val (.int p5), .val (.ref cn), .val (.ref row), .val (.ref r1), .val (.ref r2), .val (.int (2 : Int32)), .val (.ref ra), .val (.ref rb), .val (.ref rc), .unset, .unset, .unset] []))
  refine own_st (fun _ kS => XS.iload X846.here hx rfl (hb hby at_109) rfl kS) ?_
  show OFin p e below s _ _ _ (T846.setTop (mkF m 111 #[.val (.int p1), .val (.int p2), .val (.int p3), .val (.int p4), .val (.int p5), .val (.ref cn), .val (.ref row), .val (.ref r1), .val (.ref r2), .val (.int (2 : Int32)), .val (.ref ra), .val (.ref rb), .val (.ref rc), .unset, .unset, .unset] [(.int (2 : Int32))]))
  refine own_st (fun _ kS => XS.iconst X846.here hx rfl (hb hby at_111) kS) ?_
  show OFin p e below s _ _ _ (T846.setTop (mkF m 112 #[.val (.int p1), .val (.int p2), .val (.int p3), .val (.int p4), .val (.int p5), .val (.ref cn), .val (.ref row), .val (.ref r1), .val (.ref r2), .val (.int (2 : Int32)), .val (.ref ra), .val (.ref rb), .val (.ref rc), .unset, .unset, .unset] [(.int (3 : Int32)), (.int (2 : Int32))]))
  refine own_st (fun _ kS => XS.icmpYes X846.here hx rfl (pc0 := 112) (pc' := 124) rfl (hb hby at_112) rfl (tlt (by decide)).1 (by decide) (by decide) kS) ?_
  show OFin p e below s _ _ _ (T846.setTop (mkF m 124 #[.val (.int p1), .val (.int p2), .val (.int p3), .val (.int p4), .val (.int p5), .val (.ref cn), .val (.ref row), .val (.ref r1), .val (.ref r2), .val (.int (2 : Int32)), .val (.ref ra), .val (.ref rb), .val (.ref rc), .unset, .unset, .unset] []))
  refine own_st (fun _ kS => XS.aload X846.here hx rfl (hb hby at_124) rfl rfl kS) ?_
  show OFin p e below s _ _ _ (T846.setTop (mkF m 126 #[.val (.int p1), .val (.int p2), .val (.int p3), .val (.int p4), .val (.int p5), .val (.ref cn), .val (.ref row), .val (.ref r1), .val (.ref r2), .val (.int (2 : Int32)), .val (.ref ra), .val (.ref rb), .val (.ref rc), .unset, .unset, .unset] [(.ref row)]))
  obtain ⟨v872, T872, L872, X872, hQ872, st872⟩ := own_virtual X846 hx hZ (y := (⟨"com/example/notation_search/notationsearch/math/Row", "release", "()Ljava/util/List;"⟩ : MethodName)) (z := (⟨"com/example/notation_search/notationsearch/math/Row", "release", "()Ljava/util/List;"⟩ : MethodName)) (rm := ⟨0, 0, 0, 0⟩) (W := 0) (a := row) (argsL := []) (rest := []) hown (own_w hw 29 rfl) (own_w hw 30 rfl) (notFace_of_selects (args := #[]) (mvT hZ (own_w hw 32 rfl))) (own_w hw 32 rfl) (own_w hw 31 rfl) (own_w hw 11 rfl) (own_w hw 33 rfl) (rmRW l Z a0 hw row T846.heap n0 cn b ⟨f847, f848, f849, f850, f851, f852, f853⟩ g_row) rfl f847 (g := (mkF m 126 #[.val (.int p1), .val (.int p2), .val (.int p3), .val (.int p4), .val (.int p5), .val (.ref cn), .val (.ref row), .val (.ref r1), .val (.ref r2), .val (.int (2 : Int32)), .val (.ref ra), .val (.ref rb), .val (.ref rc), .unset, .unset, .unset] [(.ref row)])) rfl (by rw [hml]; rfl) (lenOf own_pd1 rfl) rfl (by show 2 * 0 + _ ≤ _; exact Nat.le_of_eq rfl) (hb hby at_126) (by decide) (by decide) (by decide) (by decide)
  obtain ⟨rfl, N872, K872, B872_0⟩ := hQ872
  have fr872 := Fr.app fr846 N872
  clear fr846 N872
  have od872 := od846.keep K872 (allS g_row all0)
  clear od846
  have f873 := f847.keep K872
  clear f847
  clear f848
  clear f849
  clear f850
  clear f851
  clear f852
  clear f853
  have f880 := u863.keep K872
  clear u863
  have f881 := f859.keep K872
  clear f859
  have f882 := f860.keep K872 (ninS (Ne.symm ne_row_s1) nin0)
  clear f860
  have f883 := f861.keep K872 (ninS (Ne.symm ne_row_s1) nin0)
  clear f861
  have f884 := f862.keep K872 (ninS (Ne.symm ne_row_s1) nin0)
  clear f862
  have f885 := u864.keep K872 (ninS (Ne.symm ne_row_b) nin0)
  clear u864
  have f886 := u865.keep K872 (ninS (Ne.symm ne_row_b) nin0)
  clear u865
  have f887 := u866.keep K872 (ninS (Ne.symm ne_row_b) nin0)
  clear u866
  have f888 := u867.keep K872 (ninS (Ne.symm ne_row_ar) nin0)
  clear u867
  have f889 := u868.keep K872
  clear u868
  have f890 := u869.keep K872 (ninS (Ne.symm ne_row_s2) nin0)
  clear u869
  have f891 := u870.keep K872 (ninS (Ne.symm ne_row_s2) nin0)
  clear u870
  have f892 := u871.keep K872 (ninS (Ne.symm ne_row_s2) nin0)
  clear u871
  have sz872 : n0 ≤ T872.heap.size := Nat.le_trans sz846 K872.1
  clear sz846
  clear K872
  obtain ⟨u893, u894, u895, u896, u897, u898, u899⟩ := B872_0
  refine own_st (st872) ?_
  clear st872 X846
  show OFin p e below s _ _ _ (T872.setTop (mkF m 129 #[.val (.int p1), .val (.int p2), .val (.int p3), .val (.int p4), .val (.int p5), .val (.ref cn), .val (.ref row), .val (.ref r1), .val (.ref r2), .val (.int (2 : Int32)), .val (.ref ra), .val (.ref rb), .val (.ref rc), .unset, .unset, .unset] [(.ref b)]))
  refine own_st (fun _ kS => XS.astore X872.here hx rfl (hb hby at_129) rfl rfl (l' := #[.val (.int p1), .val (.int p2), .val (.int p3), .val (.int p4), .val (.int p5), .val (.ref cn), .val (.ref row), .val (.ref r1), .val (.ref r2), .val (.int (2 : Int32)), .val (.ref ra), .val (.ref rb), .val (.ref rc), .val (.ref b), .unset, .unset]) rfl kS) ?_
  show OFin p e below s _ _ _ (T872.setTop (mkF m 131 #[.val (.int p1), .val (.int p2), .val (.int p3), .val (.int p4), .val (.int p5), .val (.ref cn), .val (.ref row), .val (.ref r1), .val (.ref r2), .val (.int (2 : Int32)), .val (.ref ra), .val (.ref rb), .val (.ref rc), .val (.ref b), .unset, .unset] []))
  refine own_st (fun _ kS => XS.aload X872.here hx rfl (hb hby at_131) rfl rfl kS) ?_
  show OFin p e below s _ _ _ (T872.setTop (mkF m 133 #[.val (.int p1), .val (.int p2), .val (.int p3), .val (.int p4), .val (.int p5), .val (.ref cn), .val (.ref row), .val (.ref r1), .val (.ref r2), .val (.int (2 : Int32)), .val (.ref ra), .val (.ref rb), .val (.ref rc), .val (.ref b), .unset, .unset] [(.ref row)]))
  obtain ⟨v900, T900, L900, X900, hQ900, st900⟩ := own_virtual X872 hx hZ (y := (⟨"com/example/notation_search/notationsearch/math/Row", "release", "()Ljava/util/List;"⟩ : MethodName)) (z := (⟨"com/example/notation_search/notationsearch/math/Row", "release", "()Ljava/util/List;"⟩ : MethodName)) (rm := ⟨1, 0, 0, 11⟩) (W := 0) (a := row) (argsL := []) (rest := []) hown (own_w hw 29 rfl) (own_w hw 30 rfl) (notFace_of_selects (args := #[]) (mvT hZ (own_w hw 32 rfl))) (own_w hw 32 rfl) (own_w hw 31 rfl) (own_w hw 11 rfl) (own_w hw 33 rfl) (rmRN l Z a0 hw row T872.heap n0 cn el ⟨u893, u894, u895, u896, u897, u898, u899⟩ g_row S_el od872) rfl u893 (g := (mkF m 133 #[.val (.int p1), .val (.int p2), .val (.int p3), .val (.int p4), .val (.int p5), .val (.ref cn), .val (.ref row), .val (.ref r1), .val (.ref r2), .val (.int (2 : Int32)), .val (.ref ra), .val (.ref rb), .val (.ref rc), .val (.ref b), .unset, .unset] [(.ref row)])) rfl (by rw [hml]; rfl) (lenOf own_pd1 rfl) rfl (by show 2 * 0 + _ ≤ _; exact Nat.le_of_eq rfl) (hb hby at_133) (by decide) (by decide) (by decide) (by decide)
  obtain ⟨rfl, N900, K900, B900_0⟩ := hQ900
  have fr900 := Fr.app fr872 N900
  clear fr872 N900
  have od900 := od872.keep K900 (allS g_row all0)
  clear od872
  have f901 := u893.keep K900
  clear u893
  have f902 := f880.keep K900
  clear f880
  have f903 := f881.keep K900
  clear f881
  have f904 := f882.keep K900 (ninS (Ne.symm ne_row_s1) nin0)
  clear f882
  have f905 := f883.keep K900 (ninS (Ne.symm ne_row_s1) nin0)
  clear f883
  have f906 := f884.keep K900 (ninS (Ne.symm ne_row_s1) nin0)
  clear f884
  have f907 := f885.keep K900 (ninS (Ne.symm ne_row_b) nin0)
  clear f885
  have f908 := f886.keep K900 (ninS (Ne.symm ne_row_b) nin0)
  clear f886
  have f909 := f887.keep K900 (ninS (Ne.symm ne_row_b) nin0)
  clear f887
  have f910 := f888.keep K900 (ninS (Ne.symm ne_row_ar) nin0)
  clear f888
  have f911 := f889.keep K900
  clear f889
  have f912 := f890.keep K900 (ninS (Ne.symm ne_row_s2) nin0)
  clear f890
  have f913 := f891.keep K900 (ninS (Ne.symm ne_row_s2) nin0)
  clear f891
  have f914 := f892.keep K900 (ninS (Ne.symm ne_row_s2) nin0)
  clear f892
  clear u894
  clear u895
  clear u896
  clear u897
  clear u898
  clear u899
  have sz900 : n0 ≤ T900.heap.size := Nat.le_trans sz872 K900.1
  clear sz872
  clear K900
  obtain ⟨u921, u922, u923, u924, u925, u926, u927⟩ := B900_0
  refine own_st (st900) ?_
  clear st900 X872
  show OFin p e below s _ _ _ (T900.setTop (mkF m 136 #[.val (.int p1), .val (.int p2), .val (.int p3), .val (.int p4), .val (.int p5), .val (.ref cn), .val (.ref row), .val (.ref r1), .val (.ref r2), .val (.int (2 : Int32)), .val (.ref ra), .val (.ref rb), .val (.ref rc), .val (.ref b), .unset, .unset] [(.ref el)]))
  refine own_st (fun _ kS => XS.astore X900.here hx rfl (hb hby at_136) rfl rfl (l' := #[.val (.int p1), .val (.int p2), .val (.int p3), .val (.int p4), .val (.int p5), .val (.ref cn), .val (.ref row), .val (.ref r1), .val (.ref r2), .val (.int (2 : Int32)), .val (.ref ra), .val (.ref rb), .val (.ref rc), .val (.ref b), .val (.ref el), .unset]) rfl kS) ?_
  show OFin p e below s _ _ _ (T900.setTop (mkF m 138 #[.val (.int p1), .val (.int p2), .val (.int p3), .val (.int p4), .val (.int p5), .val (.ref cn), .val (.ref row), .val (.ref r1), .val (.ref r2), .val (.int (2 : Int32)), .val (.ref ra), .val (.ref rb), .val (.ref rc), .val (.ref b), .val (.ref el), .unset] []))
  refine own_st (fun _ kS => XS.aload X900.here hx rfl (hb hby at_138) rfl rfl kS) ?_
  show OFin p e below s _ _ _ (T900.setTop (mkF m 140 #[.val (.int p1), .val (.int p2), .val (.int p3), .val (.int p4), .val (.int p5), .val (.ref cn), .val (.ref row), .val (.ref r1), .val (.ref r2), .val (.int (2 : Int32)), .val (.ref ra), .val (.ref rb), .val (.ref rc), .val (.ref b), .val (.ref el), .unset] [(.ref b)]))
  obtain ⟨v928, T928, L928, X928, hQ928, st928⟩ := own_face X900 hx hZ (y := (⟨"java/util/List", "size", "()I"⟩ : MethodName)) (z := (⟨"java/util/ArrayList", "size", "()I"⟩ : MethodName)) (rm := ⟨0, 0, 0, 0⟩) (W := 0) (a := b) (argsL := []) (rest := []) hown (own_w hw 42 rfl) (own_w hw 43 rfl) (mvT hZ (own_w hw 44 rfl)) (own_w hw 164 rfl) (own_w hw 165 rfl) (own_w hw 166 rfl) (own_w hw 167 rfl) (own_w hw 127 rfl) (own_w hw 80 rfl) (own_w hw 168 rfl) (rmSz l Z a0 hw b T900.heap (2 : Int32) f909) rfl f902 (g := (mkF m 140 #[.val (.int p1), .val (.int p2), .val (.int p3), .val (.int p4), .val (.int p5), .val (.ref cn), .val (.ref row), .val (.ref r1), .val (.ref r2), .val (.int (2 : Int32)), .val (.ref ra), .val (.ref rb), .val (.ref rc), .val (.ref b), .val (.ref el), .unset] [(.ref b)])) rfl (by rw [hml]; rfl) (lenOf own_pd14 rfl) rfl (by show 2 * 0 + _ ≤ _; exact Nat.le_of_eq rfl) (hb hby at_140) (by decide) (by decide) (by decide) (by decide)
  obtain ⟨rfl, e928, rfl⟩ := hQ928
  rw [List.append_nil] at X928
  refine own_st (st928) ?_
  clear st928 X900
  show OFin p e below s _ _ _ (T928.setTop (mkF m 145 #[.val (.int p1), .val (.int p2), .val (.int p3), .val (.int p4), .val (.int p5), .val (.ref cn), .val (.ref row), .val (.ref r1), .val (.ref r2), .val (.int (2 : Int32)), .val (.ref ra), .val (.ref rb), .val (.ref rc), .val (.ref b), .val (.ref el), .unset] [(.int (2 : Int32))]))
  refine own_st (fun _ kS => XS.iload X928.here hx rfl (hb hby at_145) rfl kS) ?_
  show OFin p e below s _ _ _ (T928.setTop (mkF m 147 #[.val (.int p1), .val (.int p2), .val (.int p3), .val (.int p4), .val (.int p5), .val (.ref cn), .val (.ref row), .val (.ref r1), .val (.ref r2), .val (.int (2 : Int32)), .val (.ref ra), .val (.ref rb), .val (.ref rc), .val (.ref b), .val (.ref el), .unset] [(.int (2 : Int32)), (.int (2 : Int32))]))
  refine own_st (fun _ kS => XS.icmpNo X928.here hx rfl (hb hby at_147) rfl (teq rfl).2 kS) ?_
  show OFin p e below s _ _ _ (T928.setTop (mkF m 150 #[.val (.int p1), .val (.int p2), .val (.int p3), .val (.int p4), .val (.int p5), .val (.ref cn), .val (.ref row), .val (.ref r1), .val (.ref r2), .val (.int (2 : Int32)), .val (.ref ra), .val (.ref rb), .val (.ref rc), .val (.ref b), .val (.ref el), .unset] []))
  refine own_st (fun _ kS => XS.aload X928.here hx rfl (hb hby at_150) rfl rfl kS) ?_
  show OFin p e below s _ _ _ (T928.setTop (mkF m 152 #[.val (.int p1), .val (.int p2), .val (.int p3), .val (.int p4), .val (.int p5), .val (.ref cn), .val (.ref row), .val (.ref r1), .val (.ref r2), .val (.int (2 : Int32)), .val (.ref ra), .val (.ref rb), .val (.ref rc), .val (.ref b), .val (.ref el), .unset] [(.ref el)]))
  obtain ⟨v929, T929, L929, X929, hQ929, st929⟩ := own_face X928 hx hZ (y := (⟨"java/util/List", "isEmpty", "()Z"⟩ : MethodName)) (z := (⟨"java/util/ImmutableCollections$ListN", "isEmpty", "()Z"⟩ : MethodName)) (rm := ⟨0, 0, 0, 0⟩) (W := 0) (a := el) (argsL := []) (rest := []) hown (own_w hw 54 rfl) (own_w hw 55 rfl) (mvT hZ (own_w hw 56 rfl)) (own_w hw 57 rfl) (own_w hw 58 rfl) (own_w hw 59 rfl) (own_w hw 60 rfl) (own_w hw 49 rfl) (own_w hw 50 rfl) (own_w hw 61 rfl) (rmLE l Z a0 hw el T900.heap em (F_el.ext od900.2) (A_em.ext od900.2)) e928 (E_el.ext od900.2) (g := (mkF m 152 #[.val (.int p1), .val (.int p2), .val (.int p3), .val (.int p4), .val (.int p5), .val (.ref cn), .val (.ref row), .val (.ref r1), .val (.ref r2), .val (.int (2 : Int32)), .val (.ref ra), .val (.ref rb), .val (.ref rc), .val (.ref b), .val (.ref el), .unset] [(.ref el)])) rfl (by rw [hml]; rfl) (lenOf own_pd16 rfl) rfl (by show 2 * 0 + _ ≤ _; exact Nat.le_of_eq rfl) (hb hby at_152) (by decide) (by decide) (by decide) (by decide)
  obtain ⟨rfl, e929, rfl⟩ := hQ929
  rw [List.append_nil] at X929
  refine own_st (st929) ?_
  clear st929 X928 e928
  show OFin p e below s _ _ _ (T929.setTop (mkF m 157 #[.val (.int p1), .val (.int p2), .val (.int p3), .val (.int p4), .val (.int p5), .val (.ref cn), .val (.ref row), .val (.ref r1), .val (.ref r2), .val (.int (2 : Int32)), .val (.ref ra), .val (.ref rb), .val (.ref rc), .val (.ref b), .val (.ref el), .unset] [(.int (1 : Int32))]))
  refine own_st (fun _ kS => XS.ifNo X929.here hx rfl (hb hby at_157) rfl ((if0 _ _).trans (feq (by decide)).1) kS) ?_
  show OFin p e below s _ _ _ (T929.setTop (mkF m 160 #[.val (.int p1), .val (.int p2), .val (.int p3), .val (.int p4), .val (.int p5), .val (.ref cn), .val (.ref row), .val (.ref r1), .val (.ref r2), .val (.int (2 : Int32)), .val (.ref ra), .val (.ref rb), .val (.ref rc), .val (.ref b), .val (.ref el), .unset] []))
  refine own_st (fun _ kS => XS.aload X929.here hx rfl (hb hby at_160) rfl rfl kS) ?_
  show OFin p e below s _ _ _ (T929.setTop (mkF m 162 #[.val (.int p1), .val (.int p2), .val (.int p3), .val (.int p4), .val (.int p5), .val (.ref cn), .val (.ref row), .val (.ref r1), .val (.ref r2), .val (.int (2 : Int32)), .val (.ref ra), .val (.ref rb), .val (.ref rc), .val (.ref b), .val (.ref el), .unset] [(.ref row)]))
  obtain ⟨v930, T930, L930, X930, hQ930, st930⟩ := own_virtual X929 hx hZ (y := (⟨"com/example/notation_search/notationsearch/math/Row", "followed", "()Ljava/util/List;"⟩ : MethodName)) (z := (⟨"com/example/notation_search/notationsearch/math/Row", "followed", "()Ljava/util/List;"⟩ : MethodName)) (rm := ⟨1, 0, 0, 11⟩) (W := 0) (a := row) (argsL := []) (rest := []) hown (own_w hw 62 rfl) (own_w hw 63 rfl) (notFace_of_selects (args := #[]) (mvT hZ (own_w hw 65 rfl))) (own_w hw 65 rfl) (own_w hw 64 rfl) (own_w hw 11 rfl) (own_w hw 66 rfl) (rmFo l Z a0 hw row T900.heap n0 cn el ⟨u921, u922, u923, u924, u925, u926, u927⟩ S_el od900) e929 u921 (g := (mkF m 162 #[.val (.int p1), .val (.int p2), .val (.int p3), .val (.int p4), .val (.int p5), .val (.ref cn), .val (.ref row), .val (.ref r1), .val (.ref r2), .val (.int (2 : Int32)), .val (.ref ra), .val (.ref rb), .val (.ref rc), .val (.ref b), .val (.ref el), .unset] [(.ref row)])) rfl (by rw [hml]; rfl) (lenOf own_pd1 rfl) rfl (by show 2 * 0 + _ ≤ _; exact Nat.le_of_eq rfl) (hb hby at_162) (by decide) (by decide) (by decide) (by decide)
  obtain ⟨rfl, e930, rfl⟩ := hQ930
  rw [List.append_nil] at X930
  refine own_st (st930) ?_
  clear st930 X929 e929
  show OFin p e below s _ _ _ (T930.setTop (mkF m 165 #[.val (.int p1), .val (.int p2), .val (.int p3), .val (.int p4), .val (.int p5), .val (.ref cn), .val (.ref row), .val (.ref r1), .val (.ref r2), .val (.int (2 : Int32)), .val (.ref ra), .val (.ref rb), .val (.ref rc), .val (.ref b), .val (.ref el), .unset] [(.ref el)]))
  obtain ⟨v931, T931, L931, X931, hQ931, st931⟩ := own_face X930 hx hZ (y := (⟨"java/util/List", "isEmpty", "()Z"⟩ : MethodName)) (z := (⟨"java/util/ImmutableCollections$ListN", "isEmpty", "()Z"⟩ : MethodName)) (rm := ⟨0, 0, 0, 0⟩) (W := 0) (a := el) (argsL := []) (rest := []) hown (own_w hw 54 rfl) (own_w hw 55 rfl) (mvT hZ (own_w hw 56 rfl)) (own_w hw 57 rfl) (own_w hw 58 rfl) (own_w hw 59 rfl) (own_w hw 60 rfl) (own_w hw 49 rfl) (own_w hw 50 rfl) (own_w hw 61 rfl) (rmLE l Z a0 hw el T900.heap em (F_el.ext od900.2) (A_em.ext od900.2)) e930 (E_el.ext od900.2) (g := (mkF m 165 #[.val (.int p1), .val (.int p2), .val (.int p3), .val (.int p4), .val (.int p5), .val (.ref cn), .val (.ref row), .val (.ref r1), .val (.ref r2), .val (.int (2 : Int32)), .val (.ref ra), .val (.ref rb), .val (.ref rc), .val (.ref b), .val (.ref el), .unset] [(.ref el)])) rfl (by rw [hml]; rfl) (lenOf own_pd16 rfl) rfl (by show 2 * 0 + _ ≤ _; exact Nat.le_of_eq rfl) (hb hby at_165) (by decide) (by decide) (by decide) (by decide)
  obtain ⟨rfl, e931, rfl⟩ := hQ931
  rw [List.append_nil] at X931
  refine own_st (st931) ?_
  clear st931 X930 e930
  show OFin p e below s _ _ _ (T931.setTop (mkF m 170 #[.val (.int p1), .val (.int p2), .val (.int p3), .val (.int p4), .val (.int p5), .val (.ref cn), .val (.ref row), .val (.ref r1), .val (.ref r2), .val (.int (2 : Int32)), .val (.ref ra), .val (.ref rb), .val (.ref rc), .val (.ref b), .val (.ref el), .unset] [(.int (1 : Int32))]))
  refine own_st (fun _ kS => XS.ifYes X931.here hx rfl (pc0 := 170) (pc' := 175) rfl (hb hby at_170) rfl ((if0 _ _).trans (feq (by decide)).2) (by decide) (by decide) kS) ?_
  show OFin p e below s _ _ _ (T931.setTop (mkF m 175 #[.val (.int p1), .val (.int p2), .val (.int p3), .val (.int p4), .val (.int p5), .val (.ref cn), .val (.ref row), .val (.ref r1), .val (.ref r2), .val (.int (2 : Int32)), .val (.ref ra), .val (.ref rb), .val (.ref rc), .val (.ref b), .val (.ref el), .unset] []))
  refine own_st (fun _ kS => XS.iload X931.here hx rfl (hb hby at_175) rfl kS) ?_
  show OFin p e below s _ _ _ (T931.setTop (mkF m 177 #[.val (.int p1), .val (.int p2), .val (.int p3), .val (.int p4), .val (.int p5), .val (.ref cn), .val (.ref row), .val (.ref r1), .val (.ref r2), .val (.int (2 : Int32)), .val (.ref ra), .val (.ref rb), .val (.ref rc), .val (.ref b), .val (.ref el), .unset] [(.int (2 : Int32))]))
  refine own_st (fun _ kS => XS.iconst X931.here hx rfl (hb hby at_177) kS) ?_
  show OFin p e below s _ _ _ (T931.setTop (mkF m 178 #[.val (.int p1), .val (.int p2), .val (.int p3), .val (.int p4), .val (.int p5), .val (.ref cn), .val (.ref row), .val (.ref r1), .val (.ref r2), .val (.int (2 : Int32)), .val (.ref ra), .val (.ref rb), .val (.ref rc), .val (.ref b), .val (.ref el), .unset] [(.int (1 : Int32)), (.int (2 : Int32))]))
  refine own_st (fun _ kS => XS.icmpNo X931.here hx rfl (hb hby at_178) rfl (flt (by decide)).1 kS) ?_
  show OFin p e below s _ _ _ (T931.setTop (mkF m 181 #[.val (.int p1), .val (.int p2), .val (.int p3), .val (.int p4), .val (.int p5), .val (.ref cn), .val (.ref row), .val (.ref r1), .val (.ref r2), .val (.int (2 : Int32)), .val (.ref ra), .val (.ref rb), .val (.ref rc), .val (.ref b), .val (.ref el), .unset] []))
  refine own_st (fun _ kS => XS.aload X931.here hx rfl (hb hby at_181) rfl rfl kS) ?_
  show OFin p e below s _ _ _ (T931.setTop (mkF m 183 #[.val (.int p1), .val (.int p2), .val (.int p3), .val (.int p4), .val (.int p5), .val (.ref cn), .val (.ref row), .val (.ref r1), .val (.ref r2), .val (.int (2 : Int32)), .val (.ref ra), .val (.ref rb), .val (.ref rc), .val (.ref b), .val (.ref el), .unset] [(.ref b)]))
  refine own_st (fun _ kS => XS.iconst X931.here hx rfl (hb hby at_183) kS) ?_
  show OFin p e below s _ _ _ (T931.setTop (mkF m 184 #[.val (.int p1), .val (.int p2), .val (.int p3), .val (.int p4), .val (.int p5), .val (.ref cn), .val (.ref row), .val (.ref r1), .val (.ref r2), .val (.int (2 : Int32)), .val (.ref ra), .val (.ref rb), .val (.ref rc), .val (.ref b), .val (.ref el), .unset] [(.int (0 : Int32)), (.ref b)]))
  obtain ⟨v932, T932, L932, X932, hQ932, st932⟩ := own_face X931 hx hZ (y := (⟨"java/util/List", "get", "(I)Ljava/lang/Object;"⟩ : MethodName)) (z := (⟨"java/util/ArrayList", "get", "(I)Ljava/lang/Object;"⟩ : MethodName)) (rm := ⟨2, 0, 0, 27⟩) (W := 0) (a := b) (argsL := [(.int (0 : Int32))]) (rest := []) hown (own_w hw 169 rfl) (own_w hw 170 rfl) (mvT hZ (own_w hw 171 rfl)) (own_w hw 172 rfl) (own_w hw 173 rfl) (own_w hw 174 rfl) (own_w hw 175 rfl) (own_w hw 127 rfl) (own_w hw 80 rfl) (own_w hw 176 rfl) (rmGet l Z a0 hw b (0 : Int32) T900.heap ar s1 (2 : Int32) (2 : Int32) (fun i => if i = 1 then .ref s2 else (fun i => if i = 0 then .ref s1 else (fun _ => .null) i) i) 0 ⟨f902, f907, f908, f909, f910⟩ (by decide) (by decide) rfl (by decide) rfl) e931 f902 (g := (mkF m 184 #[.val (.int p1), .val (.int p2), .val (.int p3), .val (.int p4), .val (.int p5), .val (.ref cn), .val (.ref row), .val (.ref r1), .val (.ref r2), .val (.int (2 : Int32)), .val (.ref ra), .val (.ref rb), .val (.ref rc), .val (.ref b), .val (.ref el), .unset] [(.int (0 : Int32)), (.ref b)])) rfl (by rw [hml]; rfl) (lenOf own_pd7 rfl) rfl (by show 2 * 0 + _ ≤ _; exact Nat.le_of_eq rfl) (hb hby at_184) (by decide) (by decide) (by decide) (by decide)
  obtain ⟨rfl, e932, rfl⟩ := hQ932
  rw [List.append_nil] at X932
  refine own_st (st932) ?_
  clear st932 X931 e931
  show OFin p e below s _ _ _ (T932.setTop (mkF m 189 #[.val (.int p1), .val (.int p2), .val (.int p3), .val (.int p4), .val (.int p5), .val (.ref cn), .val (.ref row), .val (.ref r1), .val (.ref r2), .val (.int (2 : Int32)), .val (.ref ra), .val (.ref rb), .val (.ref rc), .val (.ref b), .val (.ref el), .unset] [(.ref s1)]))
  obtain ⟨T933, X933, e933, st933⟩ := castY X932 hx hZ hown (own_w hw 190 rfl) e932 (Ins.self f903) (g := (mkF m 189 #[.val (.int p1), .val (.int p2), .val (.int p3), .val (.int p4), .val (.int p5), .val (.ref cn), .val (.ref row), .val (.ref r1), .val (.ref r2), .val (.int (2 : Int32)), .val (.ref ra), .val (.ref rb), .val (.ref rc), .val (.ref b), .val (.ref el), .unset] [(.ref s1)])) rfl rfl (hb hby at_189)
  refine own_st (st933) ?_
  clear st933 X932 e932
  show OFin p e below s _ _ _ (T933.setTop (mkF m 192 #[.val (.int p1), .val (.int p2), .val (.int p3), .val (.int p4), .val (.int p5), .val (.ref cn), .val (.ref row), .val (.ref r1), .val (.ref r2), .val (.int (2 : Int32)), .val (.ref ra), .val (.ref rb), .val (.ref rc), .val (.ref b), .val (.ref el), .unset] [(.ref s1)]))
  refine own_st (fun _ kS => XS.aload X933.here hx rfl (hb hby at_192) rfl rfl kS) ?_
  show OFin p e below s _ _ _ (T933.setTop (mkF m 194 #[.val (.int p1), .val (.int p2), .val (.int p3), .val (.int p4), .val (.int p5), .val (.ref cn), .val (.ref row), .val (.ref r1), .val (.ref r2), .val (.int (2 : Int32)), .val (.ref ra), .val (.ref rb), .val (.ref rc), .val (.ref b), .val (.ref el), .unset] [(.ref ra), (.ref s1)]))
  refine own_st (fun _ kS => XS.aload X933.here hx rfl (hb hby at_194) rfl rfl kS) ?_
  show OFin p e below s _ _ _ (T933.setTop (mkF m 196 #[.val (.int p1), .val (.int p2), .val (.int p3), .val (.int p4), .val (.int p5), .val (.ref cn), .val (.ref row), .val (.ref r1), .val (.ref r2), .val (.int (2 : Int32)), .val (.ref ra), .val (.ref rb), .val (.ref rc), .val (.ref b), .val (.ref el), .unset] [(.ref r1), (.ref ra), (.ref s1)]))
  obtain ⟨v934, T934, L934, X934, hQ934, st934⟩ := own_static X933 hx hZ (y := (⟨"com/example/notation_search/notationsearch/math/RowReleasePinLaw", "same", "(Lcom/example/notation_search/notationsearch/math/Row$Script;Lcom/example/notation_search/notationsearch/math/Relation;Lcom/example/notation_search/notationsearch/math/Row;)Z"⟩ : MethodName)) (rm := ⟨1, 0, 0, 12⟩) (W := 0) (argsL := [(.ref s1), (.ref ra), (.ref r1)]) (rest := []) hown (own_w hw 192 rfl) (own_w hw 193 rfl) (own_w hw 20 rfl) (own_w hw 194 rfl) (rmSame l Z a0 hw s1 ra r1 T900.heap ⟨f903, f904, f905, f906⟩) e933 (g := (mkF m 196 #[.val (.int p1), .val (.int p2), .val (.int p3), .val (.int p4), .val (.int p5), .val (.ref cn), .val (.ref row), .val (.ref r1), .val (.ref r2), .val (.int (2 : Int32)), .val (.ref ra), .val (.ref rb), .val (.ref rc), .val (.ref b), .val (.ref el), .unset] [(.ref r1), (.ref ra), (.ref s1)])) rfl (by rw [hml]; rfl) (lenOf own_pd15 rfl) rfl (by show 2 * 0 + _ ≤ _; exact Nat.le_of_eq rfl) (hb hby at_196) (by decide) (by decide) (by decide) (by decide)
  obtain ⟨rfl, e934, rfl⟩ := hQ934
  rw [List.append_nil] at X934
  refine own_st (st934) ?_
  clear st934 X933 e933
  show OFin p e below s _ _ _ (T934.setTop (mkF m 199 #[.val (.int p1), .val (.int p2), .val (.int p3), .val (.int p4), .val (.int p5), .val (.ref cn), .val (.ref row), .val (.ref r1), .val (.ref r2), .val (.int (2 : Int32)), .val (.ref ra), .val (.ref rb), .val (.ref rc), .val (.ref b), .val (.ref el), .unset] [(.int (1 : Int32))]))
  refine own_st (fun _ kS => XS.ifYes X934.here hx rfl (pc0 := 199) (pc' := 204) rfl (hb hby at_199) rfl ((if0 _ _).trans (feq (by decide)).2) (by decide) (by decide) kS) ?_
  show OFin p e below s _ _ _ (T934.setTop (mkF m 204 #[.val (.int p1), .val (.int p2), .val (.int p3), .val (.int p4), .val (.int p5), .val (.ref cn), .val (.ref row), .val (.ref r1), .val (.ref r2), .val (.int (2 : Int32)), .val (.ref ra), .val (.ref rb), .val (.ref rc), .val (.ref b), .val (.ref el), .unset] []))
  refine own_st (fun _ kS => XS.iload X934.here hx rfl (hb hby at_204) rfl kS) ?_
  show OFin p e below s _ _ _ (T934.setTop (mkF m 206 #[.val (.int p1), .val (.int p2), .val (.int p3), .val (.int p4), .val (.int p5), .val (.ref cn), .val (.ref row), .val (.ref r1), .val (.ref r2), .val (.int (2 : Int32)), .val (.ref ra), .val (.ref rb), .val (.ref rc), .val (.ref b), .val (.ref el), .unset] [(.int (2 : Int32))]))
  refine own_st (fun _ kS => XS.iconst X934.here hx rfl (hb hby at_206) kS) ?_
  show OFin p e below s _ _ _ (T934.setTop (mkF m 207 #[.val (.int p1), .val (.int p2), .val (.int p3), .val (.int p4), .val (.int p5), .val (.ref cn), .val (.ref row), .val (.ref r1), .val (.ref r2), .val (.int (2 : Int32)), .val (.ref ra), .val (.ref rb), .val (.ref rc), .val (.ref b), .val (.ref el), .unset] [(.int (2 : Int32)), (.int (2 : Int32))]))
  refine own_st (fun _ kS => XS.icmpNo X934.here hx rfl (hb hby at_207) rfl (flt (by decide)).1 kS) ?_
  show OFin p e below s _ _ _ (T934.setTop (mkF m 210 #[.val (.int p1), .val (.int p2), .val (.int p3), .val (.int p4), .val (.int p5), .val (.ref cn), .val (.ref row), .val (.ref r1), .val (.ref r2), .val (.int (2 : Int32)), .val (.ref ra), .val (.ref rb), .val (.ref rc), .val (.ref b), .val (.ref el), .unset] []))
  refine own_st (fun _ kS => XS.aload X934.here hx rfl (hb hby at_210) rfl rfl kS) ?_
  show OFin p e below s _ _ _ (T934.setTop (mkF m 212 #[.val (.int p1), .val (.int p2), .val (.int p3), .val (.int p4), .val (.int p5), .val (.ref cn), .val (.ref row), .val (.ref r1), .val (.ref r2), .val (.int (2 : Int32)), .val (.ref ra), .val (.ref rb), .val (.ref rc), .val (.ref b), .val (.ref el), .unset] [(.ref b)]))
  refine own_st (fun _ kS => XS.iconst X934.here hx rfl (hb hby at_212) kS) ?_
  show OFin p e below s _ _ _ (T934.setTop (mkF m 213 #[.val (.int p1), .val (.int p2), .val (.int p3), .val (.int p4), .val (.int p5), .val (.ref cn), .val (.ref row), .val (.ref r1), .val (.ref r2), .val (.int (2 : Int32)), .val (.ref ra), .val (.ref rb), .val (.ref rc), .val (.ref b), .val (.ref el), .unset] [(.int (1 : Int32)), (.ref b)]))
  obtain ⟨v935, T935, L935, X935, hQ935, st935⟩ := own_face X934 hx hZ (y := (⟨"java/util/List", "get", "(I)Ljava/lang/Object;"⟩ : MethodName)) (z := (⟨"java/util/ArrayList", "get", "(I)Ljava/lang/Object;"⟩ : MethodName)) (rm := ⟨2, 0, 0, 27⟩) (W := 0) (a := b) (argsL := [(.int (1 : Int32))]) (rest := []) hown (own_w hw 169 rfl) (own_w hw 170 rfl) (mvT hZ (own_w hw 171 rfl)) (own_w hw 172 rfl) (own_w hw 173 rfl) (own_w hw 174 rfl) (own_w hw 175 rfl) (own_w hw 127 rfl) (own_w hw 80 rfl) (own_w hw 176 rfl) (rmGet l Z a0 hw b (1 : Int32) T900.heap ar s2 (2 : Int32) (2 : Int32) (fun i => if i = 1 then .ref s2 else (fun i => if i = 0 then .ref s1 else (fun _ => .null) i) i) 1 ⟨f902, f907, f908, f909, f910⟩ (by decide) (by decide) rfl (by decide) rfl) e934 f902 (g := (mkF m 213 #[.val (.int p1), .val (.int p2), .val (.int p3), .val (.int p4), .val (.int p5), .val (.ref cn), .val (.ref row), .val (.ref r1), .val (.ref r2), .val (.int (2 : Int32)), .val (.ref ra), .val (.ref rb), .val (.ref rc), .val (.ref b), .val (.ref el), .unset] [(.int (1 : Int32)), (.ref b)])) rfl (by rw [hml]; rfl) (lenOf own_pd7 rfl) rfl (by show 2 * 0 + _ ≤ _; exact Nat.le_of_eq rfl) (hb hby at_213) (by decide) (by decide) (by decide) (by decide)
  obtain ⟨rfl, e935, rfl⟩ := hQ935
  rw [List.append_nil] at X935
  refine own_st (st935) ?_
  clear st935 X934 e934
  show OFin p e below s _ _ _ (T935.setTop (mkF m 218 #[.val (.int p1), .val (.int p2), .val (.int p3), .val (.int p4), .val (.int p5), .val (.ref cn), .val (.ref row), .val (.ref r1), .val (.ref r2), .val (.int (2 : Int32)), .val (.ref ra), .val (.ref rb), .val (.ref rc), .val (.ref b), .val (.ref el), .unset] [(.ref s2)]))
  obtain ⟨T936, X936, e936, st936⟩ := castY X935 hx hZ hown (own_w hw 190 rfl) e935 (Ins.self f911) (g := (mkF m 218 #[.val (.int p1), .val (.int p2), .val (.int p3), .val (.int p4), .val (.int p5), .val (.ref cn), .val (.ref row), .val (.ref r1), .val (.ref r2), .val (.int (2 : Int32)), .val (.ref ra), .val (.ref rb), .val (.ref rc), .val (.ref b), .val (.ref el), .unset] [(.ref s2)])) rfl rfl (hb hby at_218)
  refine own_st (st936) ?_
  clear st936 X935 e935
  show OFin p e below s _ _ _ (T936.setTop (mkF m 221 #[.val (.int p1), .val (.int p2), .val (.int p3), .val (.int p4), .val (.int p5), .val (.ref cn), .val (.ref row), .val (.ref r1), .val (.ref r2), .val (.int (2 : Int32)), .val (.ref ra), .val (.ref rb), .val (.ref rc), .val (.ref b), .val (.ref el), .unset] [(.ref s2)]))
  refine own_st (fun _ kS => XS.aload X936.here hx rfl (hb hby at_221) rfl rfl kS) ?_
  show OFin p e below s _ _ _ (T936.setTop (mkF m 223 #[.val (.int p1), .val (.int p2), .val (.int p3), .val (.int p4), .val (.int p5), .val (.ref cn), .val (.ref row), .val (.ref r1), .val (.ref r2), .val (.int (2 : Int32)), .val (.ref ra), .val (.ref rb), .val (.ref rc), .val (.ref b), .val (.ref el), .unset] [(.ref rb), (.ref s2)]))
  refine own_st (fun _ kS => XS.aload X936.here hx rfl (hb hby at_223) rfl rfl kS) ?_
  show OFin p e below s _ _ _ (T936.setTop (mkF m 225 #[.val (.int p1), .val (.int p2), .val (.int p3), .val (.int p4), .val (.int p5), .val (.ref cn), .val (.ref row), .val (.ref r1), .val (.ref r2), .val (.int (2 : Int32)), .val (.ref ra), .val (.ref rb), .val (.ref rc), .val (.ref b), .val (.ref el), .unset] [(.ref r2), (.ref rb), (.ref s2)]))
  obtain ⟨v937, T937, L937, X937, hQ937, st937⟩ := own_static X936 hx hZ (y := (⟨"com/example/notation_search/notationsearch/math/RowReleasePinLaw", "same", "(Lcom/example/notation_search/notationsearch/math/Row$Script;Lcom/example/notation_search/notationsearch/math/Relation;Lcom/example/notation_search/notationsearch/math/Row;)Z"⟩ : MethodName)) (rm := ⟨1, 0, 0, 12⟩) (W := 0) (argsL := [(.ref s2), (.ref rb), (.ref r2)]) (rest := []) hown (own_w hw 192 rfl) (own_w hw 193 rfl) (own_w hw 20 rfl) (own_w hw 194 rfl) (rmSame l Z a0 hw s2 rb r2 T900.heap ⟨f911, f912, f913, f914⟩) e936 (g := (mkF m 225 #[.val (.int p1), .val (.int p2), .val (.int p3), .val (.int p4), .val (.int p5), .val (.ref cn), .val (.ref row), .val (.ref r1), .val (.ref r2), .val (.int (2 : Int32)), .val (.ref ra), .val (.ref rb), .val (.ref rc), .val (.ref b), .val (.ref el), .unset] [(.ref r2), (.ref rb), (.ref s2)])) rfl (by rw [hml]; rfl) (lenOf own_pd15 rfl) rfl (by show 2 * 0 + _ ≤ _; exact Nat.le_of_eq rfl) (hb hby at_225) (by decide) (by decide) (by decide) (by decide)
  obtain ⟨rfl, e937, rfl⟩ := hQ937
  rw [List.append_nil] at X937
  refine own_st (st937) ?_
  clear st937 X936 e936
  show OFin p e below s _ _ _ (T937.setTop (mkF m 228 #[.val (.int p1), .val (.int p2), .val (.int p3), .val (.int p4), .val (.int p5), .val (.ref cn), .val (.ref row), .val (.ref r1), .val (.ref r2), .val (.int (2 : Int32)), .val (.ref ra), .val (.ref rb), .val (.ref rc), .val (.ref b), .val (.ref el), .unset] [(.int (1 : Int32))]))
  refine own_st (fun _ kS => XS.ifYes X937.here hx rfl (pc0 := 228) (pc' := 233) rfl (hb hby at_228) rfl ((if0 _ _).trans (feq (by decide)).2) (by decide) (by decide) kS) ?_
  show OFin p e below s _ _ _ (T937.setTop (mkF m 233 #[.val (.int p1), .val (.int p2), .val (.int p3), .val (.int p4), .val (.int p5), .val (.ref cn), .val (.ref row), .val (.ref r1), .val (.ref r2), .val (.int (2 : Int32)), .val (.ref ra), .val (.ref rb), .val (.ref rc), .val (.ref b), .val (.ref el), .unset] []))
  refine own_st (fun _ kS => XS.iload X937.here hx rfl (hb hby at_233) rfl kS) ?_
  show OFin p e below s _ _ _ (T937.setTop (mkF m 235 #[.val (.int p1), .val (.int p2), .val (.int p3), .val (.int p4), .val (.int p5), .val (.ref cn), .val (.ref row), .val (.ref r1), .val (.ref r2), .val (.int (2 : Int32)), .val (.ref ra), .val (.ref rb), .val (.ref rc), .val (.ref b), .val (.ref el), .unset] [(.int (2 : Int32))]))
  refine own_st (fun _ kS => XS.iconst X937.here hx rfl (hb hby at_235) kS) ?_
  show OFin p e below s _ _ _ (T937.setTop (mkF m 236 #[.val (.int p1), .val (.int p2), .val (.int p3), .val (.int p4), .val (.int p5), .val (.ref cn), .val (.ref row), .val (.ref r1), .val (.ref r2), .val (.int (2 : Int32)), .val (.ref ra), .val (.ref rb), .val (.ref rc), .val (.ref b), .val (.ref el), .unset] [(.int (3 : Int32)), (.int (2 : Int32))]))
  refine own_st (fun _ kS => XS.icmpYes X937.here hx rfl (pc0 := 236) (pc' := 262) rfl (hb hby at_236) rfl (tlt (by decide)).1 (by decide) (by decide) kS) ?_
  show OFin p e below s _ _ _ (T937.setTop (mkF m 262 #[.val (.int p1), .val (.int p2), .val (.int p3), .val (.int p4), .val (.int p5), .val (.ref cn), .val (.ref row), .val (.ref r1), .val (.ref r2), .val (.int (2 : Int32)), .val (.ref ra), .val (.ref rb), .val (.ref rc), .val (.ref b), .val (.ref el), .unset] []))
  exact own_c2 hw hC0 X937 e937 n0 sz900 p1 p2 p3 p4 p5 cn row r1 r2 ra rb rc el em dc S_el E_el F_el A_em S_dc A_dc fr900 od900 g_row ⟨u921, u922, u923, u924, u925, u926, u927⟩ b f902 f909 ne_row_b rfl rfl
set_option maxRecDepth 65536 in
set_option maxHeartbeats 40000000 in
theorem own_a2 {l : Launch} {Z : State} {a0 : Array Value} (hw : ∀ d ∈ tables_1, d.before a0 Z = true) {p : Program} {e : Env} {s : State} {m : MethodId} {args : Array Value} {below : List Frame} {meth : Method} {c : Code} (hC : OCtx Z p s m meth c "com/example/notation_search/notationsearch/math/RowReleasePinLaw" "law" code maxLocals ret) {T0 : State} {locs : List Loc} {cells slots : Nat} (X0 : Stand p l e room_1 s m args below meth c T0 locs cells slots) {h0 : Heap} (e0 : T0.heap = h0) (n0 : Nat) (Z0 : n0 ≤ h0.size) (p1 p2 p3 p4 p5 : Int32) (cn row r1 r2 ra rb rc : Addr) (el em dc : Addr) (S_el : Sta Z Z.heap "java/util/ImmutableCollections" "EMPTY_LIST" "Ljava/util/ImmutableCollections$ListN;" (.ref el)) (E_el : Exa Z Z.heap el "java/util/ImmutableCollections$ListN") (F_el : Fld Z Z.heap el "java/util/ImmutableCollections$ListN" "elements" "[Ljava/lang/Object;" (.ref em)) (A_em : OArr Z Z.heap em (.object "java/lang/Object") 0 (fun _ => .null)) (S_dc : Sta Z Z.heap "java/util/ArrayList" "DEFAULTCAPACITY_EMPTY_ELEMENTDATA" "[Ljava/lang/Object;" (.ref dc)) (A_dc : OArr Z Z.heap dc (.object "java/lang/Object") 0 (fun _ => .null)) (N0 : Fr n0 locs) (O : Old Z n0 h0) (g_row : n0 ≤ row) (B_r : BR Z h0 row cn .null) (F_2 : Fld Z h0 r2 "com/example/notation_search/notationsearch/math/Row" "first" "Lcom/example/notation_search/notationsearch/math/Symbol;" .null) (ne_row_r2 : row ≠ r2) (hcs : cells = 4) (hss : slots = 20) :
    OFin p e below s room_1.cells room_1.slots (fun v h L => v = some (.int (1 : Int32)) ∧ Fr n0 L) (T0.setTop (mkF m 65 #[.val (.int p1), .val (.int p2), .val (.int p3), .val (.int p4), .val (.int p5), .val (.ref cn), .val (.ref row), .val (.ref r1), .val (.ref r2), .val (.int (2 : Int32)), .val (.ref ra), .val (.ref rb), .val (.ref rc), .unset, .unset, .unset] [])) := by
  have hC0 := hC
  obtain ⟨hx, hZ, hby, hml, hown, hret, hlk, hnm⟩ := hC
  subst hcs hss
  obtain ⟨u938, u939, u940, u941, u942, u943, u944⟩ := B_r
  refine own_st (fun _ kS => XS.iload X0.here hx rfl (hb hby at_65) rfl kS) ?_
  show OFin p e below s _ _ _ (T0.setTop (mkF m 67 #[.val (.int p1), .val (.int p2), .val (.int p3), .val (.int p4), .val (.int p5), .val (.ref cn), .val (.ref row), .val (.ref r1), .val (.ref r2), .val (.int (2 : Int32)), .val (.ref ra), .val (.ref rb), .val (.ref rc), .unset, .unset, .unset] [(.int (2 : Int32))]))
  refine own_st (fun _ kS => XS.iconst X0.here hx rfl (hb hby at_67) kS) ?_
  show OFin p e below s _ _ _ (T0.setTop (mkF m 68 #[.val (.int p1), .val (.int p2), .val (.int p3), .val (.int p4), .val (.int p5), .val (.ref cn), .val (.ref row), .val (.ref r1), .val (.ref r2), .val (.int (2 : Int32)), .val (.ref ra), .val (.ref rb), .val (.ref rc), .unset, .unset, .unset] [(.int (1 : Int32)), (.int (2 : Int32))]))
  refine own_st (fun _ kS => XS.icmpNo X0.here hx rfl (hb hby at_68) rfl (flt (by decide)).1 kS) ?_
  show OFin p e below s _ _ _ (T0.setTop (mkF m 71 #[.val (.int p1), .val (.int p2), .val (.int p3), .val (.int p4), .val (.int p5), .val (.ref cn), .val (.ref row), .val (.ref r1), .val (.ref r2), .val (.int (2 : Int32)), .val (.ref ra), .val (.ref rb), .val (.ref rc), .unset, .unset, .unset] []))
  refine own_st (fun _ kS => XS.aload X0.here hx rfl (hb hby at_71) rfl rfl kS) ?_
  show OFin p e below s _ _ _ (T0.setTop (mkF m 73 #[.val (.int p1), .val (.int p2), .val (.int p3), .val (.int p4), .val (.int p5), .val (.ref cn), .val (.ref row), .val (.ref r1), .val (.ref r2), .val (.int (2 : Int32)), .val (.ref ra), .val (.ref rb), .val (.ref rc), .unset, .unset, .unset] [(.ref row)]))
  refine own_st (fun _ kS => XS.aload X0.here hx rfl (hb hby at_73) rfl rfl kS) ?_
  show OFin p e below s _ _ _ (T0.setTop (mkF m 75 #[.val (.int p1), .val (.int p2), .val (.int p3), .val (.int p4), .val (.int p5), .val (.ref cn), .val (.ref row), .val (.ref r1), .val (.ref r2), .val (.int (2 : Int32)), .val (.ref ra), .val (.ref rb), .val (.ref rc), .unset, .unset, .unset] [(.ref ra), (.ref row)]))
  refine own_st (fun _ kS => XS.aload X0.here hx rfl (hb hby at_75) rfl rfl kS) ?_
  show OFin p e below s _ _ _ (T0.setTop (mkF m 77 #[.val (.int p1), .val (.int p2), .val (.int p3), .val (.int p4), .val (.int p5), .val (.ref cn), .val (.ref row), .val (.ref r1), .val (.ref r2), .val (.int (2 : Int32)), .val (.ref ra), .val (.ref rb), .val (.ref rc), .unset, .unset, .unset] [(.ref r1), (.ref ra), (.ref row)]))
  obtain ⟨v945, T945, L945, X945, hQ945, st945⟩ := own_virtual X0 hx hZ (y := (⟨"com/example/notation_search/notationsearch/math/Row", "hold", "(Lcom/example/notation_search/notationsearch/math/Relation;Lcom/example/notation_search/notationsearch/math/Row;)V"⟩ : MethodName)) (z := (⟨"com/example/notation_search/notationsearch/math/Row", "hold", "(Lcom/example/notation_search/notationsearch/math/Relation;Lcom/example/notation_search/notationsearch/math/Row;)V"⟩ : MethodName)) (rm := ⟨5, 3, 16, 69⟩) (W := 0) (a := row) (argsL := [(.ref ra), (.ref r1)]) (rest := []) hown (own_w hw 73 rfl) (own_w hw 74 rfl) (notFace_of_selects (args := #[]) (mvT hZ (own_w hw 76 rfl))) (own_w hw 76 rfl) (own_w hw 75 rfl) (own_w hw 11 rfl) (own_w hw 77 rfl) (rmH0 l Z a0 hw row ra r1 h0 n0 Z0 cn dc ⟨u938, u939, u940, u941, u942, u943, u944⟩ g_row O S_dc A_dc) e0 u938 (g := (mkF m 77 #[.val (.int p1), .val (.int p2), .val (.int p3), .val (.int p4), .val (.int p5), .val (.ref cn), .val (.ref row), .val (.ref r1), .val (.ref r2), .val (.int (2 : Int32)), .val (.ref ra), .val (.ref rb), .val (.ref rc), .unset, .unset, .unset] [(.ref r1), (.ref ra), (.ref row)])) rfl (by rw [hml]; rfl) (lenOf own_pd13 rfl) rfl (by show 2 * 0 + _ ≤ _; exact Nat.le_of_eq rfl) (hb hby at_77) (by decide) (by decide) (by decide) (by decide)
  obtain ⟨rfl, N945, K945, b, ge_b, ar, ge_ar, s1, ge_s1, ne_b_ar, ne_b_s1, ne_ar_s1, B945_0, B945_1, B945_2⟩ := hQ945
  have ne_r2_b : r2 ≠ b := Nat.ne_of_lt (Nat.lt_of_lt_of_le F_2.lt ge_b)
  have ne_row_b : row ≠ b := Nat.ne_of_lt (Nat.lt_of_lt_of_le u938.lt ge_b)
  have g_b : n0 ≤ b := Nat.le_trans Z0 ge_b
  have ne_r2_ar : r2 ≠ ar := Nat.ne_of_lt (Nat.lt_of_lt_of_le F_2.lt ge_ar)
  have ne_row_ar : row ≠ ar := Nat.ne_of_lt (Nat.lt_of_lt_of_le u938.lt ge_ar)
  have g_ar : n0 ≤ ar := Nat.le_trans Z0 ge_ar
  have ne_r2_s1 : r2 ≠ s1 := Nat.ne_of_lt (Nat.lt_of_lt_of_le F_2.lt ge_s1)
  have ne_row_s1 : row ≠ s1 := Nat.ne_of_lt (Nat.lt_of_lt_of_le u938.lt ge_s1)
  have g_s1 : n0 ≤ s1 := Nat.le_trans Z0 ge_s1
  have fr945 := Fr.app N0 N945
  clear N0 N945
  have od945 := O.keep K945 (allS g_row all0)
  have f946 := u938.keep K945
  clear u938
  clear u939
  clear u940
  clear u941
  clear u942
  clear u943
  clear u944
  have f953 := F_2.keep K945 (ninS (Ne.symm ne_row_r2) nin0)
  have sz945 : n0 ≤ T945.heap.size := Nat.le_trans Z0 K945.1
  clear K945
  obtain ⟨u954, u955, u956, u957, u958, u959, u960⟩ := B945_0
  obtain ⟨u961, u962, u963, u964, u965⟩ := B945_1
  obtain ⟨u966, u967, u968, u969⟩ := B945_2
  refine own_st (st945) ?_
  clear st945 X0 e0
  show OFin p e below s _ _ _ (T945.setTop (mkF m 80 #[.val (.int p1), .val (.int p2), .val (.int p3), .val (.int p4), .val (.int p5), .val (.ref cn), .val (.ref row), .val (.ref r1), .val (.ref r2), .val (.int (2 : Int32)), .val (.ref ra), .val (.ref rb), .val (.ref rc), .unset, .unset, .unset] []))
  refine own_st (fun _ kS => XS.iload X945.here hx rfl (hb hby at_80) rfl kS) ?_
  show OFin p e below s _ _ _ (T945.setTop (mkF m 82 #[.val (.int p1), .val (.int p2), .val (.int p3), .val (.int p4), .val (.int p5), .val (.ref cn), .val (.ref row), .val (.ref r1), .val (.ref r2), .val (.int (2 : Int32)), .val (.ref ra), .val (.ref rb), .val (.ref rc), .unset, .unset, .unset] [(.int p5)]))
  refine own_st (fun _ kS => XS.iconst X945.here hx rfl (hb hby at_82) kS) ?_
  show OFin p e below s _ _ _ (T945.setTop (mkF m 83 #[.val (.int p1), .val (.int p2), .val (.int p3), .val (.int p4), .val (.int p5), .val (.ref cn), .val (.ref row), .val (.ref r1), .val (.ref r2), .val (.int (2 : Int32)), .val (.ref ra), .val (.ref rb), .val (.ref rc), .unset, .unset, .unset] [(.int (1 : Int32)), (.int p5)]))
  refine own_st (fun _ kS => XS.iand X945.here hx rfl (hb hby at_83) rfl kS) ?_
  show OFin p e below s _ _ _ (T945.setTop (mkF m 84 #[.val (.int p1), .val (.int p2), .val (.int p3), .val (.int p4), .val (.int p5), .val (.ref cn), .val (.ref row), .val (.ref r1), .val (.ref r2), .val (.int (2 : Int32)), .val (.ref ra), .val (.ref rb), .val (.ref rc), .unset, .unset, .unset] [(.int (p5 &&& (1 : Int32)))]))
  by_cases c1 : (p5 &&& (1 : Int32)) = (0 : Int32)
  · refine own_st (fun _ kS => XS.ifYes X945.here hx rfl (pc0 := 84) (pc' := 94) rfl (hb hby at_84) rfl ((if0 _ _).trans (teq c1).1) (by decide) (by decide) kS) ?_
    show OFin p e below s _ _ _ (T945.setTop (mkF m 94 #[.val (.int p1), .val (.int p2), .val (.int p3), .val (.int p4), .val (.int p5), .val (.ref cn), .val (.ref row), .val (.ref r1), .val (.ref r2), .val (.int (2 : Int32)), .val (.ref ra), .val (.ref rb), .val (.ref rc), .unset, .unset, .unset] []))
    exact own_b2 hw hC0 X945 rfl n0 sz945 p1 p2 p3 p4 p5 cn row r1 r2 ra rb rc el em dc S_el E_el F_el A_em S_dc A_dc fr945 od945 g_row b ar s1 ⟨u954, u955, u956, u957, u958, u959, u960⟩ ⟨u961, u962, u963, u964, u965⟩ ⟨u966, u967, u968, u969⟩ ne_row_b ne_row_ar ne_row_s1 ne_b_ar ne_b_s1 ne_ar_s1 g_b g_ar rfl rfl
  · refine own_st (fun _ kS => XS.ifNo X945.here hx rfl (hb hby at_84) rfl ((if0 _ _).trans (feq c1).1) kS) ?_
    show OFin p e below s _ _ _ (T945.setTop (mkF m 87 #[.val (.int p1), .val (.int p2), .val (.int p3), .val (.int p4), .val (.int p5), .val (.ref cn), .val (.ref row), .val (.ref r1), .val (.ref r2), .val (.int (2 : Int32)), .val (.ref ra), .val (.ref rb), .val (.ref rc), .unset, .unset, .unset] []))
    refine own_st (fun _ kS => XS.aload X945.here hx rfl (hb hby at_87) rfl rfl kS) ?_
    show OFin p e below s _ _ _ (T945.setTop (mkF m 89 #[.val (.int p1), .val (.int p2), .val (.int p3), .val (.int p4), .val (.int p5), .val (.ref cn), .val (.ref row), .val (.ref r1), .val (.ref r2), .val (.int (2 : Int32)), .val (.ref ra), .val (.ref rb), .val (.ref rc), .unset, .unset, .unset] [(.ref row)]))
    refine own_st (fun _ kS => XS.aload X945.here hx rfl (hb hby at_89) rfl rfl kS) ?_
    show OFin p e below s _ _ _ (T945.setTop (mkF m 91 #[.val (.int p1), .val (.int p2), .val (.int p3), .val (.int p4), .val (.int p5), .val (.ref cn), .val (.ref row), .val (.ref r1), .val (.ref r2), .val (.int (2 : Int32)), .val (.ref ra), .val (.ref rb), .val (.ref rc), .unset, .unset, .unset] [(.ref r2), (.ref row)]))
    obtain ⟨v970, T970, L970, X970, hQ970, st970⟩ := own_virtual X945 hx hZ (y := (⟨"com/example/notation_search/notationsearch/math/Row", "append", "(Lcom/example/notation_search/notationsearch/math/Row;)V"⟩ : MethodName)) (z := (⟨"com/example/notation_search/notationsearch/math/Row", "append", "(Lcom/example/notation_search/notationsearch/math/Row;)V"⟩ : MethodName)) (rm := ⟨0, 0, 0, 0⟩) (W := 0) (a := row) (argsL := [(.ref r2)]) (rest := []) hown (own_w hw 155 rfl) (own_w hw 156 rfl) (notFace_of_selects (args := #[]) (mvT hZ (own_w hw 158 rfl))) (own_w hw 158 rfl) (own_w hw 157 rfl) (own_w hw 11 rfl) (own_w hw 159 rfl) (rmAp l Z a0 hw row r2 T945.heap n0 cn _ ⟨u954, u955, u956, u957, u958, u959, u960⟩ g_row f953) rfl u954 (g := (mkF m 91 #[.val (.int p1), .val (.int p2), .val (.int p3), .val (.int p4), .val (.int p5), .val (.ref cn), .val (.ref row), .val (.ref r1), .val (.ref r2), .val (.int (2 : Int32)), .val (.ref ra), .val (.ref rb), .val (.ref rc), .unset, .unset, .unset] [(.ref r2), (.ref row)])) rfl (by rw [hml]; rfl) (lenOf own_pd17 rfl) rfl (by show 2 * 0 + _ ≤ _; exact Nat.le_of_eq rfl) (hb hby at_91) (by decide) (by decide) (by decide) (by decide)
    obtain ⟨rfl, N970, K970, B970_0⟩ := hQ970
    have fr970 := Fr.app fr945 N970
    clear fr945 N970
    have od970 := od945.keep K970 (allS g_row all0)
    clear od945
    have f971 := u954.keep K970
    clear u954
    have f972 := f953.keep K970 (ninS (Ne.symm ne_row_r2) nin0)
    clear f953
    clear u955
    clear u956
    clear u957
    clear u958
    clear u959
    clear u960
    have f979 := u961.keep K970
    clear u961
    have f980 := u962.keep K970 (ninS (Ne.symm ne_row_b) nin0)
    clear u962
    have f981 := u963.keep K970 (ninS (Ne.symm ne_row_b) nin0)
    clear u963
    have f982 := u964.keep K970 (ninS (Ne.symm ne_row_b) nin0)
    clear u964
    have f983 := u965.keep K970 (ninS (Ne.symm ne_row_ar) nin0)
    clear u965
    have f984 := u966.keep K970
    clear u966
    have f985 := u967.keep K970 (ninS (Ne.symm ne_row_s1) nin0)
    clear u967
    have f986 := u968.keep K970 (ninS (Ne.symm ne_row_s1) nin0)
    clear u968
    have f987 := u969.keep K970 (ninS (Ne.symm ne_row_s1) nin0)
    clear u969
    have sz970 : n0 ≤ T970.heap.size := Nat.le_trans sz945 K970.1
    clear sz945
    clear K970
    obtain ⟨u988, u989, u990, u991, u992, u993, u994⟩ := B970_0
    refine own_st (st970) ?_
    clear st970 X945
    show OFin p e below s _ _ _ (T970.setTop (mkF m 94 #[.val (.int p1), .val (.int p2), .val (.int p3), .val (.int p4), .val (.int p5), .val (.ref cn), .val (.ref row), .val (.ref r1), .val (.ref r2), .val (.int (2 : Int32)), .val (.ref ra), .val (.ref rb), .val (.ref rc), .unset, .unset, .unset] []))
    exact own_b2 hw hC0 X970 rfl n0 sz970 p1 p2 p3 p4 p5 cn row r1 r2 ra rb rc el em dc S_el E_el F_el A_em S_dc A_dc fr970 od970 g_row b ar s1 ⟨u988, u989, u990, u991, u992, u993, u994⟩ ⟨f979, f980, f981, f982, f983⟩ ⟨f984, f985, f986, f987⟩ ne_row_b ne_row_ar ne_row_s1 ne_b_ar ne_b_s1 ne_ar_s1 g_b g_ar rfl rfl
set_option maxRecDepth 65536 in
set_option maxHeartbeats 40000000 in
theorem own_c3 {l : Launch} {Z : State} {a0 : Array Value} (hw : ∀ d ∈ tables_1, d.before a0 Z = true) {p : Program} {e : Env} {s : State} {m : MethodId} {args : Array Value} {below : List Frame} {meth : Method} {c : Code} (hC : OCtx Z p s m meth c "com/example/notation_search/notationsearch/math/RowReleasePinLaw" "law" code maxLocals ret) {T0 : State} {locs : List Loc} {cells slots : Nat} (X0 : Stand p l e room_1 s m args below meth c T0 locs cells slots) {h0 : Heap} (e0 : T0.heap = h0) (n0 : Nat) (Z0 : n0 ≤ h0.size) (p1 p2 p3 p4 p5 : Int32) (cn row r1 r2 ra rb rc : Addr) (el em dc : Addr) (S_el : Sta Z Z.heap "java/util/ImmutableCollections" "EMPTY_LIST" "Ljava/util/ImmutableCollections$ListN;" (.ref el)) (E_el : Exa Z Z.heap el "java/util/ImmutableCollections$ListN") (F_el : Fld Z Z.heap el "java/util/ImmutableCollections$ListN" "elements" "[Ljava/lang/Object;" (.ref em)) (A_em : OArr Z Z.heap em (.object "java/lang/Object") 0 (fun _ => .null)) (S_dc : Sta Z Z.heap "java/util/ArrayList" "DEFAULTCAPACITY_EMPTY_ELEMENTDATA" "[Ljava/lang/Object;" (.ref dc)) (A_dc : OArr Z Z.heap dc (.object "java/lang/Object") 0 (fun _ => .null)) (N0 : Fr n0 locs) (O : Old Z n0 h0) (g_row : n0 ≤ row) (B_r : BR Z h0 row cn .null) (b : Addr) (E_b : Exa Z h0 b "java/util/ArrayList") (F_s : Fld Z h0 b "java/util/ArrayList" "size" "I" (.int (3 : Int32))) (ne_row_b : row ≠ b) (hcs : cells = 9) (hss : slots = 42) :
    OFin p e below s room_1.cells room_1.slots (fun v h L => v = some (.int (1 : Int32)) ∧ Fr n0 L) (T0.setTop (mkF m 262 #[.val (.int p1), .val (.int p2), .val (.int p3), .val (.int p4), .val (.int p5), .val (.ref cn), .val (.ref row), .val (.ref r1), .val (.ref r2), .val (.int (3 : Int32)), .val (.ref ra), .val (.ref rb), .val (.ref rc), .val (.ref b), .val (.ref el), .unset] [])) := by
  have hC0 := hC
  obtain ⟨hx, hZ, hby, hml, hown, hret, hlk, hnm⟩ := hC
  subst hcs hss
  obtain ⟨u995, u996, u997, u998, u999, u1000, u1001⟩ := B_r
  refine own_st (fun _ kS => XS.iload X0.here hx rfl (hb hby at_262) rfl kS) ?_
  show OFin p e below s _ _ _ (T0.setTop (mkF m 264 #[.val (.int p1), .val (.int p2), .val (.int p3), .val (.int p4), .val (.int p5), .val (.ref cn), .val (.ref row), .val (.ref r1), .val (.ref r2), .val (.int (3 : Int32)), .val (.ref ra), .val (.ref rb), .val (.ref rc), .val (.ref b), .val (.ref el), .unset] [(.int p5)]))
  refine own_st (fun _ kS => XS.iconst X0.here hx rfl (hb hby at_264) kS) ?_
  show OFin p e below s _ _ _ (T0.setTop (mkF m 265 #[.val (.int p1), .val (.int p2), .val (.int p3), .val (.int p4), .val (.int p5), .val (.ref cn), .val (.ref row), .val (.ref r1), .val (.ref r2), .val (.int (3 : Int32)), .val (.ref ra), .val (.ref rb), .val (.ref rc), .val (.ref b), .val (.ref el), .unset] [(.int (2 : Int32)), (.int p5)]))
  refine own_st (fun _ kS => XS.iand X0.here hx rfl (hb hby at_265) rfl kS) ?_
  show OFin p e below s _ _ _ (T0.setTop (mkF m 266 #[.val (.int p1), .val (.int p2), .val (.int p3), .val (.int p4), .val (.int p5), .val (.ref cn), .val (.ref row), .val (.ref r1), .val (.ref r2), .val (.int (3 : Int32)), .val (.ref ra), .val (.ref rb), .val (.ref rc), .val (.ref b), .val (.ref el), .unset] [(.int (p5 &&& (2 : Int32)))]))
  by_cases c1 : (p5 &&& (2 : Int32)) = (0 : Int32)
  · refine own_st (fun _ kS => XS.ifYes X0.here hx rfl (pc0 := 266) (pc' := 331) rfl (hb hby at_266) rfl ((if0 _ _).trans (teq c1).1) (by decide) (by decide) kS) ?_
    show OFin p e below s _ _ _ (T0.setTop (mkF m 331 #[.val (.int p1), .val (.int p2), .val (.int p3), .val (.int p4), .val (.int p5), .val (.ref cn), .val (.ref row), .val (.ref r1), .val (.ref r2), .val (.int (3 : Int32)), .val (.ref ra), .val (.ref rb), .val (.ref rc), .val (.ref b), .val (.ref el), .unset] []))
    refine own_st (fun _ kS => XS.iconst X0.here hx rfl (hb hby at_331) kS) ?_
    show OFin p e below s _ _ _ (T0.setTop (mkF m 332 #[.val (.int p1), .val (.int p2), .val (.int p3), .val (.int p4), .val (.int p5), .val (.ref cn), .val (.ref row), .val (.ref r1), .val (.ref r2), .val (.int (3 : Int32)), .val (.ref ra), .val (.ref rb), .val (.ref rc), .val (.ref b), .val (.ref el), .unset] [(.int (1 : Int32))]))
    exact own_ret X0 hx (t := .boolean) hret hlk rfl (Or.inl ⟨rfl, by simp, _, rfl⟩) (hb hby at_332) (by decide) (by decide) ⟨rfl, N0⟩
  · refine own_st (fun _ kS => XS.ifNo X0.here hx rfl (hb hby at_266) rfl ((if0 _ _).trans (feq c1).1) kS) ?_
    show OFin p e below s _ _ _ (T0.setTop (mkF m 269 #[.val (.int p1), .val (.int p2), .val (.int p3), .val (.int p4), .val (.int p5), .val (.ref cn), .val (.ref row), .val (.ref r1), .val (.ref r2), .val (.int (3 : Int32)), .val (.ref ra), .val (.ref rb), .val (.ref rc), .val (.ref b), .val (.ref el), .unset] []))
    refine own_st (fun _ kS => XS.aload X0.here hx rfl (hb hby at_269) rfl rfl kS) ?_
    show OFin p e below s _ _ _ (T0.setTop (mkF m 271 #[.val (.int p1), .val (.int p2), .val (.int p3), .val (.int p4), .val (.int p5), .val (.ref cn), .val (.ref row), .val (.ref r1), .val (.ref r2), .val (.int (3 : Int32)), .val (.ref ra), .val (.ref rb), .val (.ref rc), .val (.ref b), .val (.ref el), .unset] [(.ref row)]))
    refine own_st (fun _ kS => XS.aload X0.here hx rfl (hb hby at_271) rfl rfl kS) ?_
    show OFin p e below s _ _ _ (T0.setTop (mkF m 273 #[.val (.int p1), .val (.int p2), .val (.int p3), .val (.int p4), .val (.int p5), .val (.ref cn), .val (.ref row), .val (.ref r1), .val (.ref r2), .val (.int (3 : Int32)), .val (.ref ra), .val (.ref rb), .val (.ref rc), .val (.ref b), .val (.ref el), .unset] [(.ref rc), (.ref row)]))
    refine own_st (fun _ kS => XS.aload X0.here hx rfl (hb hby at_273) rfl rfl kS) ?_
    show OFin p e below s _ _ _ (T0.setTop (mkF m 275 #[.val (.int p1), .val (.int p2), .val (.int p3), .val (.int p4), .val (.int p5), .val (.ref cn), .val (.ref row), .val (.ref r1), .val (.ref r2), .val (.int (3 : Int32)), .val (.ref ra), .val (.ref rb), .val (.ref rc), .val (.ref b), .val (.ref el), .unset] [(.ref r1), (.ref rc), (.ref row)]))
    obtain ⟨v1002, T1002, L1002, X1002, hQ1002, st1002⟩ := own_virtual X0 hx hZ (y := (⟨"com/example/notation_search/notationsearch/math/Row", "hold", "(Lcom/example/notation_search/notationsearch/math/Relation;Lcom/example/notation_search/notationsearch/math/Row;)V"⟩ : MethodName)) (z := (⟨"com/example/notation_search/notationsearch/math/Row", "hold", "(Lcom/example/notation_search/notationsearch/math/Relation;Lcom/example/notation_search/notationsearch/math/Row;)V"⟩ : MethodName)) (rm := ⟨5, 3, 16, 69⟩) (W := 0) (a := row) (argsL := [(.ref rc), (.ref r1)]) (rest := []) hown (own_w hw 73 rfl) (own_w hw 74 rfl) (notFace_of_selects (args := #[]) (mvT hZ (own_w hw 76 rfl))) (own_w hw 76 rfl) (own_w hw 75 rfl) (own_w hw 11 rfl) (own_w hw 77 rfl) (rmH0 l Z a0 hw row rc r1 h0 n0 Z0 cn dc ⟨u995, u996, u997, u998, u999, u1000, u1001⟩ g_row O S_dc A_dc) e0 u995 (g := (mkF m 275 #[.val (.int p1), .val (.int p2), .val (.int p3), .val (.int p4), .val (.int p5), .val (.ref cn), .val (.ref row), .val (.ref r1), .val (.ref r2), .val (.int (3 : Int32)), .val (.ref ra), .val (.ref rb), .val (.ref rc), .val (.ref b), .val (.ref el), .unset] [(.ref r1), (.ref rc), (.ref row)])) rfl (by rw [hml]; rfl) (lenOf own_pd13 rfl) rfl (by show 2 * 0 + _ ≤ _; exact Nat.le_of_eq rfl) (hb hby at_275) (by decide) (by decide) (by decide) (by decide)
    obtain ⟨rfl, N1002, K1002, b2, ge_b2, ar2, ge_ar2, s2, ge_s2, ne_b2_ar2, ne_b2_s2, ne_ar2_s2, B1002_0, B1002_1, B1002_2⟩ := hQ1002
    have ne_b_b2 : b ≠ b2 := Nat.ne_of_lt (Nat.lt_of_lt_of_le E_b.lt ge_b2)
    have ne_row_b2 : row ≠ b2 := Nat.ne_of_lt (Nat.lt_of_lt_of_le u995.lt ge_b2)
    have g_b2 : n0 ≤ b2 := Nat.le_trans Z0 ge_b2
    have ne_b_ar2 : b ≠ ar2 := Nat.ne_of_lt (Nat.lt_of_lt_of_le E_b.lt ge_ar2)
    have ne_row_ar2 : row ≠ ar2 := Nat.ne_of_lt (Nat.lt_of_lt_of_le u995.lt ge_ar2)
    have g_ar2 : n0 ≤ ar2 := Nat.le_trans Z0 ge_ar2
    have ne_b_s2 : b ≠ s2 := Nat.ne_of_lt (Nat.lt_of_lt_of_le E_b.lt ge_s2)
    have ne_row_s2 : row ≠ s2 := Nat.ne_of_lt (Nat.lt_of_lt_of_le u995.lt ge_s2)
    have g_s2 : n0 ≤ s2 := Nat.le_trans Z0 ge_s2
    have fr1002 := Fr.app N0 N1002
    clear N0 N1002
    have od1002 := O.keep K1002 (allS g_row all0)
    have f1003 := u995.keep K1002
    clear u995
    clear u996
    clear u997
    clear u998
    clear u999
    clear u1000
    clear u1001
    have f1010 := E_b.keep K1002
    have f1011 := F_s.keep K1002 (ninS (Ne.symm ne_row_b) nin0)
    have sz1002 : n0 ≤ T1002.heap.size := Nat.le_trans Z0 K1002.1
    clear K1002
    obtain ⟨u1012, u1013, u1014, u1015, u1016, u1017, u1018⟩ := B1002_0
    obtain ⟨u1019, u1020, u1021, u1022, u1023⟩ := B1002_1
    obtain ⟨u1024, u1025, u1026, u1027⟩ := B1002_2
    refine own_st (st1002) ?_
    clear st1002 X0 e0
    show OFin p e below s _ _ _ (T1002.setTop (mkF m 278 #[.val (.int p1), .val (.int p2), .val (.int p3), .val (.int p4), .val (.int p5), .val (.ref cn), .val (.ref row), .val (.ref r1), .val (.ref r2), .val (.int (3 : Int32)), .val (.ref ra), .val (.ref rb), .val (.ref rc), .val (.ref b), .val (.ref el), .unset] []))
    refine own_st (fun _ kS => XS.aload X1002.here hx rfl (hb hby at_278) rfl rfl kS) ?_
    show OFin p e below s _ _ _ (T1002.setTop (mkF m 280 #[.val (.int p1), .val (.int p2), .val (.int p3), .val (.int p4), .val (.int p5), .val (.ref cn), .val (.ref row), .val (.ref r1), .val (.ref r2), .val (.int (3 : Int32)), .val (.ref ra), .val (.ref rb), .val (.ref rc), .val (.ref b), .val (.ref el), .unset] [(.ref row)]))
    obtain ⟨v1028, T1028, L1028, X1028, hQ1028, st1028⟩ := own_virtual X1002 hx hZ (y := (⟨"com/example/notation_search/notationsearch/math/Row", "release", "()Ljava/util/List;"⟩ : MethodName)) (z := (⟨"com/example/notation_search/notationsearch/math/Row", "release", "()Ljava/util/List;"⟩ : MethodName)) (rm := ⟨0, 0, 0, 0⟩) (W := 0) (a := row) (argsL := []) (rest := []) hown (own_w hw 29 rfl) (own_w hw 30 rfl) (notFace_of_selects (args := #[]) (mvT hZ (own_w hw 32 rfl))) (own_w hw 32 rfl) (own_w hw 31 rfl) (own_w hw 11 rfl) (own_w hw 33 rfl) (rmRW l Z a0 hw row T1002.heap n0 cn b2 ⟨u1012, u1013, u1014, u1015, u1016, u1017, u1018⟩ g_row) rfl u1012 (g := (mkF m 280 #[.val (.int p1), .val (.int p2), .val (.int p3), .val (.int p4), .val (.int p5), .val (.ref cn), .val (.ref row), .val (.ref r1), .val (.ref r2), .val (.int (3 : Int32)), .val (.ref ra), .val (.ref rb), .val (.ref rc), .val (.ref b), .val (.ref el), .unset] [(.ref row)])) rfl (by rw [hml]; rfl) (lenOf own_pd1 rfl) rfl (by show 2 * 0 + _ ≤ _; exact Nat.le_of_eq rfl) (hb hby at_280) (by decide) (by decide) (by decide) (by decide)
    obtain ⟨rfl, N1028, K1028, B1028_0⟩ := hQ1028
    have fr1028 := Fr.app fr1002 N1028
    clear fr1002 N1028
    have od1028 := od1002.keep K1028 (allS g_row all0)
    clear od1002
    have f1029 := u1012.keep K1028
    clear u1012
    have f1030 := f1010.keep K1028
    clear f1010
    have f1031 := f1011.keep K1028 (ninS (Ne.symm ne_row_b) nin0)
    clear f1011
    clear u1013
    clear u1014
    clear u1015
    clear u1016
    clear u1017
    clear u1018
    have f1038 := u1019.keep K1028
    clear u1019
    have f1039 := u1020.keep K1028 (ninS (Ne.symm ne_row_b2) nin0)
    clear u1020
    have f1040 := u1021.keep K1028 (ninS (Ne.symm ne_row_b2) nin0)
    clear u1021
    have f1041 := u1022.keep K1028 (ninS (Ne.symm ne_row_b2) nin0)
    clear u1022
    have f1042 := u1023.keep K1028 (ninS (Ne.symm ne_row_ar2) nin0)
    clear u1023
    have f1043 := u1024.keep K1028
    clear u1024
    have f1044 := u1025.keep K1028 (ninS (Ne.symm ne_row_s2) nin0)
    clear u1025
    have f1045 := u1026.keep K1028 (ninS (Ne.symm ne_row_s2) nin0)
    clear u1026
    have f1046 := u1027.keep K1028 (ninS (Ne.symm ne_row_s2) nin0)
    clear u1027
    have sz1028 : n0 ≤ T1028.heap.size := Nat.le_trans sz1002 K1028.1
    clear sz1002
    clear K1028
    obtain ⟨u1047, u1048, u1049, u1050, u1051, u1052, u1053⟩ := B1028_0
    refine own_st (st1028) ?_
    clear st1028 X1002
    show OFin p e below s _ _ _ (T1028.setTop (mkF m 283 #[.val (.int p1), .val (.int p2), .val (.int p3), .val (.int p4), .val (.int p5), .val (.ref cn), .val (.ref row), .val (.ref r1), .val (.ref r2), .val (.int (3 : Int32)), .val (.ref ra), .val (.ref rb), .val (.ref rc), .val (.ref b), .val (.ref el), .unset] [(.ref b2)]))
    refine own_st (fun _ kS => XS.astore X1028.here hx rfl (hb hby at_283) rfl rfl (l' := #[.val (.int p1), .val (.int p2), .val (.int p3), .val (.int p4), .val (.int p5), .val (.ref cn), .val (.ref row), .val (.ref r1), .val (.ref r2), .val (.int (3 : Int32)), .val (.ref ra), .val (.ref rb), .val (.ref rc), .val (.ref b), .val (.ref el), .val (.ref b2)]) rfl kS) ?_
    show OFin p e below s _ _ _ (T1028.setTop (mkF m 285 #[.val (.int p1), .val (.int p2), .val (.int p3), .val (.int p4), .val (.int p5), .val (.ref cn), .val (.ref row), .val (.ref r1), .val (.ref r2), .val (.int (3 : Int32)), .val (.ref ra), .val (.ref rb), .val (.ref rc), .val (.ref b), .val (.ref el), .val (.ref b2)] []))
    refine own_st (fun _ kS => XS.aload X1028.here hx rfl (hb hby at_285) rfl rfl kS) ?_
    show OFin p e below s _ _ _ (T1028.setTop (mkF m 287 #[.val (.int p1), .val (.int p2), .val (.int p3), .val (.int p4), .val (.int p5), .val (.ref cn), .val (.ref row), .val (.ref r1), .val (.ref r2), .val (.int (3 : Int32)), .val (.ref ra), .val (.ref rb), .val (.ref rc), .val (.ref b), .val (.ref el), .val (.ref b2)] [(.ref b2)]))
    obtain ⟨v1054, T1054, L1054, X1054, hQ1054, st1054⟩ := own_face X1028 hx hZ (y := (⟨"java/util/List", "size", "()I"⟩ : MethodName)) (z := (⟨"java/util/ArrayList", "size", "()I"⟩ : MethodName)) (rm := ⟨0, 0, 0, 0⟩) (W := 0) (a := b2) (argsL := []) (rest := []) hown (own_w hw 42 rfl) (own_w hw 43 rfl) (mvT hZ (own_w hw 44 rfl)) (own_w hw 164 rfl) (own_w hw 165 rfl) (own_w hw 166 rfl) (own_w hw 167 rfl) (own_w hw 127 rfl) (own_w hw 80 rfl) (own_w hw 168 rfl) (rmSz l Z a0 hw b2 T1028.heap (1 : Int32) f1041) rfl f1038 (g := (mkF m 287 #[.val (.int p1), .val (.int p2), .val (.int p3), .val (.int p4), .val (.int p5), .val (.ref cn), .val (.ref row), .val (.ref r1), .val (.ref r2), .val (.int (3 : Int32)), .val (.ref ra), .val (.ref rb), .val (.ref rc), .val (.ref b), .val (.ref el), .val (.ref b2)] [(.ref b2)])) rfl (by rw [hml]; rfl) (lenOf own_pd14 rfl) rfl (by show 2 * 0 + _ ≤ _; exact Nat.le_of_eq rfl) (hb hby at_287) (by decide) (by decide) (by decide) (by decide)
    obtain ⟨rfl, e1054, rfl⟩ := hQ1054
    rw [List.append_nil] at X1054
    refine own_st (st1054) ?_
    clear st1054 X1028
    show OFin p e below s _ _ _ (T1054.setTop (mkF m 292 #[.val (.int p1), .val (.int p2), .val (.int p3), .val (.int p4), .val (.int p5), .val (.ref cn), .val (.ref row), .val (.ref r1), .val (.ref r2), .val (.int (3 : Int32)), .val (.ref ra), .val (.ref rb), .val (.ref rc), .val (.ref b), .val (.ref el), .val (.ref b2)] [(.int (1 : Int32))]))
    refine own_st (fun _ kS => XS.iconst X1054.here hx rfl (hb hby at_292) kS) ?_
    show OFin p e below s _ _ _ (T1054.setTop (mkF m 293 #[.val (.int p1), .val (.int p2), .val (.int p3), .val (.int p4), .val (.int p5), .val (.ref cn), .val (.ref row), .val (.ref r1), .val (.ref r2), .val (.int (3 : Int32)), .val (.ref ra), .val (.ref rb), .val (.ref rc), .val (.ref b), .val (.ref el), .val (.ref b2)] [(.int (1 : Int32)), (.int (1 : Int32))]))
    refine own_st (fun _ kS => XS.icmpNo X1054.here hx rfl (hb hby at_293) rfl (teq rfl).2 kS) ?_
    show OFin p e below s _ _ _ (T1054.setTop (mkF m 296 #[.val (.int p1), .val (.int p2), .val (.int p3), .val (.int p4), .val (.int p5), .val (.ref cn), .val (.ref row), .val (.ref r1), .val (.ref r2), .val (.int (3 : Int32)), .val (.ref ra), .val (.ref rb), .val (.ref rc), .val (.ref b), .val (.ref el), .val (.ref b2)] []))
    refine own_st (fun _ kS => XS.aload X1054.here hx rfl (hb hby at_296) rfl rfl kS) ?_
    show OFin p e below s _ _ _ (T1054.setTop (mkF m 298 #[.val (.int p1), .val (.int p2), .val (.int p3), .val (.int p4), .val (.int p5), .val (.ref cn), .val (.ref row), .val (.ref r1), .val (.ref r2), .val (.int (3 : Int32)), .val (.ref ra), .val (.ref rb), .val (.ref rc), .val (.ref b), .val (.ref el), .val (.ref b2)] [(.ref b2)]))
    refine own_st (fun _ kS => XS.iconst X1054.here hx rfl (hb hby at_298) kS) ?_
    show OFin p e below s _ _ _ (T1054.setTop (mkF m 299 #[.val (.int p1), .val (.int p2), .val (.int p3), .val (.int p4), .val (.int p5), .val (.ref cn), .val (.ref row), .val (.ref r1), .val (.ref r2), .val (.int (3 : Int32)), .val (.ref ra), .val (.ref rb), .val (.ref rc), .val (.ref b), .val (.ref el), .val (.ref b2)] [(.int (0 : Int32)), (.ref b2)]))
    obtain ⟨v1055, T1055, L1055, X1055, hQ1055, st1055⟩ := own_face X1054 hx hZ (y := (⟨"java/util/List", "get", "(I)Ljava/lang/Object;"⟩ : MethodName)) (z := (⟨"java/util/ArrayList", "get", "(I)Ljava/lang/Object;"⟩ : MethodName)) (rm := ⟨2, 0, 0, 27⟩) (W := 0) (a := b2) (argsL := [(.int (0 : Int32))]) (rest := []) hown (own_w hw 169 rfl) (own_w hw 170 rfl) (mvT hZ (own_w hw 171 rfl)) (own_w hw 172 rfl) (own_w hw 173 rfl) (own_w hw 174 rfl) (own_w hw 175 rfl) (own_w hw 127 rfl) (own_w hw 80 rfl) (own_w hw 176 rfl) (rmGet l Z a0 hw b2 (0 : Int32) T1028.heap ar2 s2 (1 : Int32) (1 : Int32) (fun i => if i = 0 then .ref s2 else (fun _ => .null) i) 0 ⟨f1038, f1039, f1040, f1041, f1042⟩ (by decide) (by decide) rfl (by decide) rfl) e1054 f1038 (g := (mkF m 299 #[.val (.int p1), .val (.int p2), .val (.int p3), .val (.int p4), .val (.int p5), .val (.ref cn), .val (.ref row), .val (.ref r1), .val (.ref r2), .val (.int (3 : Int32)), .val (.ref ra), .val (.ref rb), .val (.ref rc), .val (.ref b), .val (.ref el), .val (.ref b2)] [(.int (0 : Int32)), (.ref b2)])) rfl (by rw [hml]; rfl) (lenOf own_pd7 rfl) rfl (by show 2 * 0 + _ ≤ _; exact Nat.le_of_eq rfl) (hb hby at_299) (by decide) (by decide) (by decide) (by decide)
    obtain ⟨rfl, e1055, rfl⟩ := hQ1055
    rw [List.append_nil] at X1055
    refine own_st (st1055) ?_
    clear st1055 X1054 e1054
    show OFin p e below s _ _ _ (T1055.setTop (mkF m 304 #[.val (.int p1), .val (.int p2), .val (.int p3), .val (.int p4), .val (.int p5), .val (.ref cn), .val (.ref row), .val (.ref r1), .val (.ref r2), .val (.int (3 : Int32)), .val (.ref ra), .val (.ref rb), .val (.ref rc), .val (.ref b), .val (.ref el), .val (.ref b2)] [(.ref s2)]))
    obtain ⟨T1056, X1056, e1056, st1056⟩ := castY X1055 hx hZ hown (own_w hw 190 rfl) e1055 (Ins.self f1043) (g := (mkF m 304 #[.val (.int p1), .val (.int p2), .val (.int p3), .val (.int p4), .val (.int p5), .val (.ref cn), .val (.ref row), .val (.ref r1), .val (.ref r2), .val (.int (3 : Int32)), .val (.ref ra), .val (.ref rb), .val (.ref rc), .val (.ref b), .val (.ref el), .val (.ref b2)] [(.ref s2)])) rfl rfl (hb hby at_304)
    refine own_st (st1056) ?_
    clear st1056 X1055 e1055
    show OFin p e below s _ _ _ (T1056.setTop (mkF m 307 #[.val (.int p1), .val (.int p2), .val (.int p3), .val (.int p4), .val (.int p5), .val (.ref cn), .val (.ref row), .val (.ref r1), .val (.ref r2), .val (.int (3 : Int32)), .val (.ref ra), .val (.ref rb), .val (.ref rc), .val (.ref b), .val (.ref el), .val (.ref b2)] [(.ref s2)]))
    refine own_st (fun _ kS => XS.aload X1056.here hx rfl (hb hby at_307) rfl rfl kS) ?_
    show OFin p e below s _ _ _ (T1056.setTop (mkF m 309 #[.val (.int p1), .val (.int p2), .val (.int p3), .val (.int p4), .val (.int p5), .val (.ref cn), .val (.ref row), .val (.ref r1), .val (.ref r2), .val (.int (3 : Int32)), .val (.ref ra), .val (.ref rb), .val (.ref rc), .val (.ref b), .val (.ref el), .val (.ref b2)] [(.ref rc), (.ref s2)]))
    refine own_st (fun _ kS => XS.aload X1056.here hx rfl (hb hby at_309) rfl rfl kS) ?_
    show OFin p e below s _ _ _ (T1056.setTop (mkF m 311 #[.val (.int p1), .val (.int p2), .val (.int p3), .val (.int p4), .val (.int p5), .val (.ref cn), .val (.ref row), .val (.ref r1), .val (.ref r2), .val (.int (3 : Int32)), .val (.ref ra), .val (.ref rb), .val (.ref rc), .val (.ref b), .val (.ref el), .val (.ref b2)] [(.ref r1), (.ref rc), (.ref s2)]))
    obtain ⟨v1057, T1057, L1057, X1057, hQ1057, st1057⟩ := own_static X1056 hx hZ (y := (⟨"com/example/notation_search/notationsearch/math/RowReleasePinLaw", "same", "(Lcom/example/notation_search/notationsearch/math/Row$Script;Lcom/example/notation_search/notationsearch/math/Relation;Lcom/example/notation_search/notationsearch/math/Row;)Z"⟩ : MethodName)) (rm := ⟨1, 0, 0, 12⟩) (W := 0) (argsL := [(.ref s2), (.ref rc), (.ref r1)]) (rest := []) hown (own_w hw 192 rfl) (own_w hw 193 rfl) (own_w hw 20 rfl) (own_w hw 194 rfl) (rmSame l Z a0 hw s2 rc r1 T1028.heap ⟨f1043, f1044, f1045, f1046⟩) e1056 (g := (mkF m 311 #[.val (.int p1), .val (.int p2), .val (.int p3), .val (.int p4), .val (.int p5), .val (.ref cn), .val (.ref row), .val (.ref r1), .val (.ref r2), .val (.int (3 : Int32)), .val (.ref ra), .val (.ref rb), .val (.ref rc), .val (.ref b), .val (.ref el), .val (.ref b2)] [(.ref r1), (.ref rc), (.ref s2)])) rfl (by rw [hml]; rfl) (lenOf own_pd15 rfl) rfl (by show 2 * 0 + _ ≤ _; exact Nat.le_of_eq rfl) (hb hby at_311) (by decide) (by decide) (by decide) (by decide)
    obtain ⟨rfl, e1057, rfl⟩ := hQ1057
    rw [List.append_nil] at X1057
    refine own_st (st1057) ?_
    clear st1057 X1056 e1056
    show OFin p e below s _ _ _ (T1057.setTop (mkF m 314 #[.val (.int p1), .val (.int p2), .val (.int p3), .val (.int p4), .val (.int p5), .val (.ref cn), .val (.ref row), .val (.ref r1), .val (.ref r2), .val (.int (3 : Int32)), .val (.ref ra), .val (.ref rb), .val (.ref rc), .val (.ref b), .val (.ref el), .val (.ref b2)] [(.int (1 : Int32))]))
    refine own_st (fun _ kS => XS.ifNo X1057.here hx rfl (hb hby at_314) rfl ((if0 _ _).trans (feq (by decide)).1) kS) ?_
    show OFin p e below s _ _ _ (T1057.setTop (mkF m 317 #[.val (.int p1), .val (.int p2), .val (.int p3), .val (.int p4), .val (.int p5), .val (.ref cn), .val (.ref row), .val (.ref r1), .val (.ref r2), .val (.int (3 : Int32)), .val (.ref ra), .val (.ref rb), .val (.ref rc), .val (.ref b), .val (.ref el), .val (.ref b2)] []))
    refine own_st (fun _ kS => XS.aload X1057.here hx rfl (hb hby at_317) rfl rfl kS) ?_
    show OFin p e below s _ _ _ (T1057.setTop (mkF m 319 #[.val (.int p1), .val (.int p2), .val (.int p3), .val (.int p4), .val (.int p5), .val (.ref cn), .val (.ref row), .val (.ref r1), .val (.ref r2), .val (.int (3 : Int32)), .val (.ref ra), .val (.ref rb), .val (.ref rc), .val (.ref b), .val (.ref el), .val (.ref b2)] [(.ref b)]))
    obtain ⟨v1058, T1058, L1058, X1058, hQ1058, st1058⟩ := own_face X1057 hx hZ (y := (⟨"java/util/List", "size", "()I"⟩ : MethodName)) (z := (⟨"java/util/ArrayList", "size", "()I"⟩ : MethodName)) (rm := ⟨0, 0, 0, 0⟩) (W := 0) (a := b) (argsL := []) (rest := []) hown (own_w hw 42 rfl) (own_w hw 43 rfl) (mvT hZ (own_w hw 44 rfl)) (own_w hw 164 rfl) (own_w hw 165 rfl) (own_w hw 166 rfl) (own_w hw 167 rfl) (own_w hw 127 rfl) (own_w hw 80 rfl) (own_w hw 168 rfl) (rmSz l Z a0 hw b T1028.heap (3 : Int32) f1031) e1057 f1030 (g := (mkF m 319 #[.val (.int p1), .val (.int p2), .val (.int p3), .val (.int p4), .val (.int p5), .val (.ref cn), .val (.ref row), .val (.ref r1), .val (.ref r2), .val (.int (3 : Int32)), .val (.ref ra), .val (.ref rb), .val (.ref rc), .val (.ref b), .val (.ref el), .val (.ref b2)] [(.ref b)])) rfl (by rw [hml]; rfl) (lenOf own_pd14 rfl) rfl (by show 2 * 0 + _ ≤ _; exact Nat.le_of_eq rfl) (hb hby at_319) (by decide) (by decide) (by decide) (by decide)
    obtain ⟨rfl, e1058, rfl⟩ := hQ1058
    rw [List.append_nil] at X1058
    refine own_st (st1058) ?_
    clear st1058 X1057 e1057
    show OFin p e below s _ _ _ (T1058.setTop (mkF m 324 #[.val (.int p1), .val (.int p2), .val (.int p3), .val (.int p4), .val (.int p5), .val (.ref cn), .val (.ref row), .val (.ref r1), .val (.ref r2), .val (.int (3 : Int32)), .val (.ref ra), .val (.ref rb), .val (.ref rc), .val (.ref b), .val (.ref el), .val (.ref b2)] [(.int (3 : Int32))]))
    refine own_st (fun _ kS => XS.iload X1058.here hx rfl (hb hby at_324) rfl kS) ?_
    show OFin p e below s _ _ _ (T1058.setTop (mkF m 326 #[.val (.int p1), .val (.int p2), .val (.int p3), .val (.int p4), .val (.int p5), .val (.ref cn), .val (.ref row), .val (.ref r1), .val (.ref r2), .val (.int (3 : Int32)), .val (.ref ra), .val (.ref rb), .val (.ref rc), .val (.ref b), .val (.ref el), .val (.ref b2)] [(.int (3 : Int32)), (.int (3 : Int32))]))
    refine own_st (fun _ kS => XS.icmpYes X1058.here hx rfl (pc0 := 326) (pc' := 331) rfl (hb hby at_326) rfl (teq rfl).1 (by decide) (by decide) kS) ?_
    show OFin p e below s _ _ _ (T1058.setTop (mkF m 331 #[.val (.int p1), .val (.int p2), .val (.int p3), .val (.int p4), .val (.int p5), .val (.ref cn), .val (.ref row), .val (.ref r1), .val (.ref r2), .val (.int (3 : Int32)), .val (.ref ra), .val (.ref rb), .val (.ref rc), .val (.ref b), .val (.ref el), .val (.ref b2)] []))
    refine own_st (fun _ kS => XS.iconst X1058.here hx rfl (hb hby at_331) kS) ?_
    show OFin p e below s _ _ _ (T1058.setTop (mkF m 332 #[.val (.int p1), .val (.int p2), .val (.int p3), .val (.int p4), .val (.int p5), .val (.ref cn), .val (.ref row), .val (.ref r1), .val (.ref r2), .val (.int (3 : Int32)), .val (.ref ra), .val (.ref rb), .val (.ref rc), .val (.ref b), .val (.ref el), .val (.ref b2)] [(.int (1 : Int32))]))
    exact own_ret X1058 hx (t := .boolean) hret hlk rfl (Or.inl ⟨rfl, by simp, _, rfl⟩) (hb hby at_332) (by decide) (by decide) ⟨rfl, fr1028⟩
set_option maxRecDepth 65536 in
set_option maxHeartbeats 40000000 in
theorem own_b3 {l : Launch} {Z : State} {a0 : Array Value} (hw : ∀ d ∈ tables_1, d.before a0 Z = true) {p : Program} {e : Env} {s : State} {m : MethodId} {args : Array Value} {below : List Frame} {meth : Method} {c : Code} (hC : OCtx Z p s m meth c "com/example/notation_search/notationsearch/math/RowReleasePinLaw" "law" code maxLocals ret) {T0 : State} {locs : List Loc} {cells slots : Nat} (X0 : Stand p l e room_1 s m args below meth c T0 locs cells slots) {h0 : Heap} (e0 : T0.heap = h0) (n0 : Nat) (Z0 : n0 ≤ h0.size) (p1 p2 p3 p4 p5 : Int32) (cn row r1 r2 ra rb rc : Addr) (el em dc : Addr) (S_el : Sta Z Z.heap "java/util/ImmutableCollections" "EMPTY_LIST" "Ljava/util/ImmutableCollections$ListN;" (.ref el)) (E_el : Exa Z Z.heap el "java/util/ImmutableCollections$ListN") (F_el : Fld Z Z.heap el "java/util/ImmutableCollections$ListN" "elements" "[Ljava/lang/Object;" (.ref em)) (A_em : OArr Z Z.heap em (.object "java/lang/Object") 0 (fun _ => .null)) (S_dc : Sta Z Z.heap "java/util/ArrayList" "DEFAULTCAPACITY_EMPTY_ELEMENTDATA" "[Ljava/lang/Object;" (.ref dc)) (A_dc : OArr Z Z.heap dc (.object "java/lang/Object") 0 (fun _ => .null)) (N0 : Fr n0 locs) (O : Old Z n0 h0) (g_row : n0 ≤ row) (b ar s1 : Addr) (B_r : BR Z h0 row cn (.ref b)) (B_b : BL Z h0 b ar (1 : Int32) (1 : Int32) (fun i => if i = 0 then .ref s1 else (fun _ => .null) i)) (B_s : BS Z h0 s1 ra r1) (ne_row_b : row ≠ b) (ne_row_ar : row ≠ ar) (ne_row_s1 : row ≠ s1) (ne_b_ar : b ≠ ar) (ne_b_s1 : b ≠ s1) (ne_ar_s1 : ar ≠ s1) (g_b : n0 ≤ b) (g_ar : n0 ≤ ar) (hcs : cells = 7) (hss : slots = 36) :
    OFin p e below s room_1.cells room_1.slots (fun v h L => v = some (.int (1 : Int32)) ∧ Fr n0 L) (T0.setTop (mkF m 94 #[.val (.int p1), .val (.int p2), .val (.int p3), .val (.int p4), .val (.int p5), .val (.ref cn), .val (.ref row), .val (.ref r1), .val (.ref r2), .val (.int (3 : Int32)), .val (.ref ra), .val (.ref rb), .val (.ref rc), .unset, .unset, .unset] [])) := by
  have hC0 := hC
  obtain ⟨hx, hZ, hby, hml, hown, hret, hlk, hnm⟩ := hC
  subst hcs hss
  obtain ⟨u1059, u1060, u1061, u1062, u1063, u1064, u1065⟩ := B_r
  obtain ⟨u1066, u1067, u1068, u1069, u1070⟩ := B_b
  obtain ⟨u1071, u1072, u1073, u1074⟩ := B_s
  refine own_st (fun _ kS => XS.iload X0.here hx rfl (hb hby at_94) rfl kS) ?_
  show OFin p e below s _ _ _ (T0.setTop (mkF m 96 #[.val (.int p1), .val (.int p2), .val (.int p3), .val (.int p4), .val (.int p5), .val (.ref cn), .val (.ref row), .val (.ref r1), .val (.ref r2), .val (.int (3 : Int32)), .val (.ref ra), .val (.ref rb), .val (.ref rc), .unset, .unset, .unset] [(.int (3 : Int32))]))
  refine own_st (fun _ kS => XS.iconst X0.here hx rfl (hb hby at_96) kS) ?_
  show OFin p e below s _ _ _ (T0.setTop (mkF m 97 #[.val (.int p1), .val (.int p2), .val (.int p3), .val (.int p4), .val (.int p5), .val (.ref cn), .val (.ref row), .val (.ref r1), .val (.ref r2), .val (.int (3 : Int32)), .val (.ref ra), .val (.ref rb), .val (.ref rc), .unset, .unset, .unset] [(.int (2 : Int32)), (.int (3 : Int32))]))
  refine own_st (fun _ kS => XS.icmpNo X0.here hx rfl (hb hby at_97) rfl (flt (by decide)).1 kS) ?_
  show OFin p e below s _ _ _ (T0.setTop (mkF m 100 #[.val (.int p1), .val (.int p2), .val (.int p3), .val (.int p4), .val (.int p5), .val (.ref cn), .val (.ref row), .val (.ref r1), .val (.ref r2), .val (.int (3 : Int32)), .val (.ref ra), .val (.ref rb), .val (.ref rc), .unset, .unset, .unset] []))
  refine own_st (fun _ kS => XS.aload X0.here hx rfl (hb hby at_100) rfl rfl kS) ?_
  show OFin p e below s _ _ _ (T0.setTop (mkF m 102 #[.val (.int p1), .val (.int p2), .val (.int p3), .val (.int p4), .val (.int p5), .val (.ref cn), .val (.ref row), .val (.ref r1), .val (.ref r2), .val (.int (3 : Int32)), .val (.ref ra), .val (.ref rb), .val (.ref rc), .unset, .unset, .unset] [(.ref row)]))
  refine own_st (fun _ kS => XS.aload X0.here hx rfl (hb hby at_102) rfl rfl kS) ?_
  show OFin p e below s _ _ _ (T0.setTop (mkF m 104 #[.val (.int p1), .val (.int p2), .val (.int p3), .val (.int p4), .val (.int p5), .val (.ref cn), .val (.ref row), .val (.ref r1), .val (.ref r2), .val (.int (3 : Int32)), .val (.ref ra), .val (.ref rb), .val (.ref rc), .unset, .unset, .unset] [(.ref rb), (.ref row)]))
  refine own_st (fun _ kS => XS.aload X0.here hx rfl (hb hby at_104) rfl rfl kS) ?_
  show OFin p e below s _ _ _ (T0.setTop (mkF m 106 #[.val (.int p1), .val (.int p2), .val (.int p3), .val (.int p4), .val (.int p5), .val (.ref cn), .val (.ref row), .val (.ref r1), .val (.ref r2), .val (.int (3 : Int32)), .val (.ref ra), .val (.ref rb), .val (.ref rc), .unset, .unset, .unset] [(.ref r2), (.ref rb), (.ref row)]))
  obtain ⟨v1075, T1075, L1075, X1075, hQ1075, st1075⟩ := own_virtual X0 hx hZ (y := (⟨"com/example/notation_search/notationsearch/math/Row", "hold", "(Lcom/example/notation_search/notationsearch/math/Relation;Lcom/example/notation_search/notationsearch/math/Row;)V"⟩ : MethodName)) (z := (⟨"com/example/notation_search/notationsearch/math/Row", "hold", "(Lcom/example/notation_search/notationsearch/math/Relation;Lcom/example/notation_search/notationsearch/math/Row;)V"⟩ : MethodName)) (rm := ⟨3, 1, 3, 41⟩) (W := 0) (a := row) (argsL := [(.ref rb), (.ref r2)]) (rest := []) hown (own_w hw 73 rfl) (own_w hw 74 rfl) (notFace_of_selects (args := #[]) (mvT hZ (own_w hw 76 rfl))) (own_w hw 76 rfl) (own_w hw 75 rfl) (own_w hw 11 rfl) (own_w hw 77 rfl) (rmHn l Z a0 hw row rb r2 h0 n0 Z0 cn b ar (1 : Int32) (2 : Int32) (fun i => if i = 0 then .ref s1 else (fun _ => .null) i) 1 (by decide) rfl (by decide) (by decide) rfl ⟨u1059, u1060, u1061, u1062, u1063, u1064, u1065⟩ ⟨u1066, u1067, u1068, u1069, u1070⟩ ne_row_b ne_row_ar ne_b_ar g_b g_ar) e0 u1059 (g := (mkF m 106 #[.val (.int p1), .val (.int p2), .val (.int p3), .val (.int p4), .val (.int p5), .val (.ref cn), .val (.ref row), .val (.ref r1), .val (.ref r2), .val (.int (3 : Int32)), .val (.ref ra), .val (.ref rb), .val (.ref rc), .unset, .unset, .unset] [(.ref r2), (.ref rb), (.ref row)])) rfl (by rw [hml]; rfl) (lenOf own_pd13 rfl) rfl (by show 2 * 0 + _ ≤ _; exact Nat.le_of_eq rfl) (hb hby at_106) (by decide) (by decide) (by decide) (by decide)
  obtain ⟨rfl, N1075, K1075, s2, ge_s2, B1075_0, B1075_1⟩ := hQ1075
  have ne_ar_s2 : ar ≠ s2 := Nat.ne_of_lt (Nat.lt_of_lt_of_le u1070.lt ge_s2)
  have ne_b_s2 : b ≠ s2 := Nat.ne_of_lt (Nat.lt_of_lt_of_le u1066.lt ge_s2)
  have ne_row_s2 : row ≠ s2 := Nat.ne_of_lt (Nat.lt_of_lt_of_le u1059.lt ge_s2)
  have ne_s1_s2 : s1 ≠ s2 := Nat.ne_of_lt (Nat.lt_of_lt_of_le u1071.lt ge_s2)
  have g_s2 : n0 ≤ s2 := Nat.le_trans Z0 ge_s2
  have fr1075 := Fr.app N0 N1075
  clear N0 N1075
  have od1075 := O.keep K1075 (allS g_b (allS g_ar all0))
  have f1076 := u1059.keep K1075
  clear u1059
  have f1077 := u1060.keep K1075 (ninS ne_row_b (ninS ne_row_ar nin0))
  clear u1060
  have f1078 := u1061.keep K1075 (ninS ne_row_b (ninS ne_row_ar nin0))
  clear u1061
  have f1079 := u1062.keep K1075 (ninS ne_row_b (ninS ne_row_ar nin0))
  clear u1062
  have f1080 := u1063.keep K1075 (ninS ne_row_b (ninS ne_row_ar nin0))
  clear u1063
  have f1081 := u1064.keep K1075 (ninS ne_row_b (ninS ne_row_ar nin0))
  clear u1064
  have f1082 := u1065.keep K1075 (ninS ne_row_b (ninS ne_row_ar nin0))
  clear u1065
  have f1083 := u1066.keep K1075
  clear u1066
  clear u1067
  clear u1068
  clear u1069
  clear u1070
  have f1088 := u1071.keep K1075
  clear u1071
  have f1089 := u1072.keep K1075 (ninS (Ne.symm ne_b_s1) (ninS (Ne.symm ne_ar_s1) nin0))
  clear u1072
  have f1090 := u1073.keep K1075 (ninS (Ne.symm ne_b_s1) (ninS (Ne.symm ne_ar_s1) nin0))
  clear u1073
  have f1091 := u1074.keep K1075 (ninS (Ne.symm ne_b_s1) (ninS (Ne.symm ne_ar_s1) nin0))
  clear u1074
  have sz1075 : n0 ≤ T1075.heap.size := Nat.le_trans Z0 K1075.1
  clear K1075
  obtain ⟨u1092, u1093, u1094, u1095, u1096⟩ := B1075_0
  obtain ⟨u1097, u1098, u1099, u1100⟩ := B1075_1
  refine own_st (st1075) ?_
  clear st1075 X0 e0
  show OFin p e below s _ _ _ (T1075.setTop (mkF m 109 #[.val (.int p1), .val (.int p2), .val (.int p3), .val (.int p4), .val (.int p5), .val (.ref cn), .val (.ref row), .val (.ref r1), .val (.ref r2), .val (.int (3 : Int32)), .val (.ref ra), .val (.ref rb), .val (.ref rc), .unset, .unset, .unset] []))
  refine own_st (fun _ kS => XS.iload X1075.here hx rfl (hb hby at_109) rfl kS) ?_
  show OFin p e below s _ _ _ (T1075.setTop (mkF m 111 #[.val (.int p1), .val (.int p2), .val (.int p3), .val (.int p4), .val (.int p5), .val (.ref cn), .val (.ref row), .val (.ref r1), .val (.ref r2), .val (.int (3 : Int32)), .val (.ref ra), .val (.ref rb), .val (.ref rc), .unset, .unset, .unset] [(.int (3 : Int32))]))
  refine own_st (fun _ kS => XS.iconst X1075.here hx rfl (hb hby at_111) kS) ?_
  show OFin p e below s _ _ _ (T1075.setTop (mkF m 112 #[.val (.int p1), .val (.int p2), .val (.int p3), .val (.int p4), .val (.int p5), .val (.ref cn), .val (.ref row), .val (.ref r1), .val (.ref r2), .val (.int (3 : Int32)), .val (.ref ra), .val (.ref rb), .val (.ref rc), .unset, .unset, .unset] [(.int (3 : Int32)), (.int (3 : Int32))]))
  refine own_st (fun _ kS => XS.icmpNo X1075.here hx rfl (hb hby at_112) rfl (flt (by decide)).1 kS) ?_
  show OFin p e below s _ _ _ (T1075.setTop (mkF m 115 #[.val (.int p1), .val (.int p2), .val (.int p3), .val (.int p4), .val (.int p5), .val (.ref cn), .val (.ref row), .val (.ref r1), .val (.ref r2), .val (.int (3 : Int32)), .val (.ref ra), .val (.ref rb), .val (.ref rc), .unset, .unset, .unset] []))
  refine own_st (fun _ kS => XS.aload X1075.here hx rfl (hb hby at_115) rfl rfl kS) ?_
  show OFin p e below s _ _ _ (T1075.setTop (mkF m 117 #[.val (.int p1), .val (.int p2), .val (.int p3), .val (.int p4), .val (.int p5), .val (.ref cn), .val (.ref row), .val (.ref r1), .val (.ref r2), .val (.int (3 : Int32)), .val (.ref ra), .val (.ref rb), .val (.ref rc), .unset, .unset, .unset] [(.ref row)]))
  refine own_st (fun _ kS => XS.aload X1075.here hx rfl (hb hby at_117) rfl rfl kS) ?_
  show OFin p e below s _ _ _ (T1075.setTop (mkF m 119 #[.val (.int p1), .val (.int p2), .val (.int p3), .val (.int p4), .val (.int p5), .val (.ref cn), .val (.ref row), .val (.ref r1), .val (.ref r2), .val (.int (3 : Int32)), .val (.ref ra), .val (.ref rb), .val (.ref rc), .unset, .unset, .unset] [(.ref rc), (.ref row)]))
  refine own_st (fun _ kS => XS.aload X1075.here hx rfl (hb hby at_119) rfl rfl kS) ?_
  show OFin p e below s _ _ _ (T1075.setTop (mkF m 121 #[.val (.int p1), .val (.int p2), .val (.int p3), .val (.int p4), .val (.int p5), .val (.ref cn), .val (.ref row), .val (.ref r1), .val (.ref r2), .val (.int (3 : Int32)), .val (.ref ra), .val (.ref rb), .val (.ref rc), .unset, .unset, .unset] [(.ref row), (.ref rc), (.ref row)]))
  obtain ⟨v1101, T1101, L1101, X1101, hQ1101, st1101⟩ := own_virtual X1075 hx hZ (y := (⟨"com/example/notation_search/notationsearch/math/Row", "hold", "(Lcom/example/notation_search/notationsearch/math/Relation;Lcom/example/notation_search/notationsearch/math/Row;)V"⟩ : MethodName)) (z := (⟨"com/example/notation_search/notationsearch/math/Row", "hold", "(Lcom/example/notation_search/notationsearch/math/Relation;Lcom/example/notation_search/notationsearch/math/Row;)V"⟩ : MethodName)) (rm := ⟨3, 1, 3, 41⟩) (W := 0) (a := row) (argsL := [(.ref rc), (.ref row)]) (rest := []) hown (own_w hw 73 rfl) (own_w hw 74 rfl) (notFace_of_selects (args := #[]) (mvT hZ (own_w hw 76 rfl))) (own_w hw 76 rfl) (own_w hw 75 rfl) (own_w hw 11 rfl) (own_w hw 77 rfl) (rmHn l Z a0 hw row rc row T1075.heap n0 sz1075 cn b ar (2 : Int32) (3 : Int32) (fun i => if i = 1 then .ref s2 else (fun i => if i = 0 then .ref s1 else (fun _ => .null) i) i) 2 (by decide) rfl (by decide) (by decide) rfl ⟨f1076, f1077, f1078, f1079, f1080, f1081, f1082⟩ ⟨u1092, u1093, u1094, u1095, u1096⟩ ne_row_b ne_row_ar ne_b_ar g_b g_ar) rfl f1076 (g := (mkF m 121 #[.val (.int p1), .val (.int p2), .val (.int p3), .val (.int p4), .val (.int p5), .val (.ref cn), .val (.ref row), .val (.ref r1), .val (.ref r2), .val (.int (3 : Int32)), .val (.ref ra), .val (.ref rb), .val (.ref rc), .unset, .unset, .unset] [(.ref row), (.ref rc), (.ref row)])) rfl (by rw [hml]; rfl) (lenOf own_pd13 rfl) rfl (by show 2 * 0 + _ ≤ _; exact Nat.le_of_eq rfl) (hb hby at_121) (by decide) (by decide) (by decide) (by decide)
  obtain ⟨rfl, N1101, K1101, s3, ge_s3, B1101_0, B1101_1⟩ := hQ1101
  have ne_ar_s3 : ar ≠ s3 := Nat.ne_of_lt (Nat.lt_of_lt_of_le u1096.lt ge_s3)
  have ne_b_s3 : b ≠ s3 := Nat.ne_of_lt (Nat.lt_of_lt_of_le u1092.lt ge_s3)
  have ne_row_s3 : row ≠ s3 := Nat.ne_of_lt (Nat.lt_of_lt_of_le f1076.lt ge_s3)
  have ne_s1_s3 : s1 ≠ s3 := Nat.ne_of_lt (Nat.lt_of_lt_of_le f1088.lt ge_s3)
  have ne_s2_s3 : s2 ≠ s3 := Nat.ne_of_lt (Nat.lt_of_lt_of_le u1097.lt ge_s3)
  have g_s3 : n0 ≤ s3 := Nat.le_trans sz1075 ge_s3
  have fr1101 := Fr.app fr1075 N1101
  clear fr1075 N1101
  have od1101 := od1075.keep K1101 (allS g_b (allS g_ar all0))
  clear od1075
  have f1102 := f1076.keep K1101
  clear f1076
  have f1103 := f1077.keep K1101 (ninS ne_row_b (ninS ne_row_ar nin0))
  clear f1077
  have f1104 := f1078.keep K1101 (ninS ne_row_b (ninS ne_row_ar nin0))
  clear f1078
  have f1105 := f1079.keep K1101 (ninS ne_row_b (ninS ne_row_ar nin0))
  clear f1079
  have f1106 := f1080.keep K1101 (ninS ne_row_b (ninS ne_row_ar nin0))
  clear f1080
  have f1107 := f1081.keep K1101 (ninS ne_row_b (ninS ne_row_ar nin0))
  clear f1081
  have f1108 := f1082.keep K1101 (ninS ne_row_b (ninS ne_row_ar nin0))
  clear f1082
  have f1109 := u1092.keep K1101
  clear u1092
  have f1110 := f1088.keep K1101
  clear f1088
  have f1111 := f1089.keep K1101 (ninS (Ne.symm ne_b_s1) (ninS (Ne.symm ne_ar_s1) nin0))
  clear f1089
  have f1112 := f1090.keep K1101 (ninS (Ne.symm ne_b_s1) (ninS (Ne.symm ne_ar_s1) nin0))
  clear f1090
  have f1113 := f1091.keep K1101 (ninS (Ne.symm ne_b_s1) (ninS (Ne.symm ne_ar_s1) nin0))
  clear f1091
  clear u1093
  clear u1094
  clear u1095
  clear u1096
  have f1118 := u1097.keep K1101
  clear u1097
  have f1119 := u1098.keep K1101 (ninS (Ne.symm ne_b_s2) (ninS (Ne.symm ne_ar_s2) nin0))
  clear u1098
  have f1120 := u1099.keep K1101 (ninS (Ne.symm ne_b_s2) (ninS (Ne.symm ne_ar_s2) nin0))
  clear u1099
  have f1121 := u1100.keep K1101 (ninS (Ne.symm ne_b_s2) (ninS (Ne.symm ne_ar_s2) nin0))
  clear u1100
  have sz1101 : n0 ≤ T1101.heap.size := Nat.le_trans sz1075 K1101.1
  clear sz1075
  clear K1101
  obtain ⟨u1122, u1123, u1124, u1125, u1126⟩ := B1101_0
  obtain ⟨u1127, u1128, u1129, u1130⟩ := B1101_1
  refine own_st (st1101) ?_
  clear st1101 X1075
  show OFin p e below s _ _ _ (T1101.setTop (mkF m 124 #[.val (.int p1), .val (.int p2), .val (.int p3), .val (.int p4), .val (.int p5), .val (.ref cn), .val (.ref row), .val (.ref r1), .val (.ref r2), .val (.int (3 : Int32)), .val (.ref ra), .val (.ref rb), .val (.ref rc), .unset, .unset, .unset] []))
  refine own_st (fun _ kS => XS.aload X1101.here hx rfl (hb hby at_124) rfl rfl kS) ?_
  show OFin p e below s _ _ _ (T1101.setTop (mkF m 126 #[.val (.int p1), .val (.int p2), .val (.int p3), .val (.int p4), .val (.int p5), .val (.ref cn), .val (.ref row), .val (.ref r1), .val (.ref r2), .val (.int (3 : Int32)), .val (.ref ra), .val (.ref rb), .val (.ref rc), .unset, .unset, .unset] [(.ref row)]))
  obtain ⟨v1131, T1131, L1131, X1131, hQ1131, st1131⟩ := own_virtual X1101 hx hZ (y := (⟨"com/example/notation_search/notationsearch/math/Row", "release", "()Ljava/util/List;"⟩ : MethodName)) (z := (⟨"com/example/notation_search/notationsearch/math/Row", "release", "()Ljava/util/List;"⟩ : MethodName)) (rm := ⟨0, 0, 0, 0⟩) (W := 0) (a := row) (argsL := []) (rest := []) hown (own_w hw 29 rfl) (own_w hw 30 rfl) (notFace_of_selects (args := #[]) (mvT hZ (own_w hw 32 rfl))) (own_w hw 32 rfl) (own_w hw 31 rfl) (own_w hw 11 rfl) (own_w hw 33 rfl) (rmRW l Z a0 hw row T1101.heap n0 cn b ⟨f1102, f1103, f1104, f1105, f1106, f1107, f1108⟩ g_row) rfl f1102 (g := (mkF m 126 #[.val (.int p1), .val (.int p2), .val (.int p3), .val (.int p4), .val (.int p5), .val (.ref cn), .val (.ref row), .val (.ref r1), .val (.ref r2), .val (.int (3 : Int32)), .val (.ref ra), .val (.ref rb), .val (.ref rc), .unset, .unset, .unset] [(.ref row)])) rfl (by rw [hml]; rfl) (lenOf own_pd1 rfl) rfl (by show 2 * 0 + _ ≤ _; exact Nat.le_of_eq rfl) (hb hby at_126) (by decide) (by decide) (by decide) (by decide)
  obtain ⟨rfl, N1131, K1131, B1131_0⟩ := hQ1131
  have fr1131 := Fr.app fr1101 N1131
  clear fr1101 N1131
  have od1131 := od1101.keep K1131 (allS g_row all0)
  clear od1101
  have f1132 := f1102.keep K1131
  clear f1102
  clear f1103
  clear f1104
  clear f1105
  clear f1106
  clear f1107
  clear f1108
  have f1139 := u1122.keep K1131
  clear u1122
  have f1140 := f1110.keep K1131
  clear f1110
  have f1141 := f1111.keep K1131 (ninS (Ne.symm ne_row_s1) nin0)
  clear f1111
  have f1142 := f1112.keep K1131 (ninS (Ne.symm ne_row_s1) nin0)
  clear f1112
  have f1143 := f1113.keep K1131 (ninS (Ne.symm ne_row_s1) nin0)
  clear f1113
  have f1144 := f1118.keep K1131
  clear f1118
  have f1145 := f1119.keep K1131 (ninS (Ne.symm ne_row_s2) nin0)
  clear f1119
  have f1146 := f1120.keep K1131 (ninS (Ne.symm ne_row_s2) nin0)
  clear f1120
  have f1147 := f1121.keep K1131 (ninS (Ne.symm ne_row_s2) nin0)
  clear f1121
  have f1148 := u1123.keep K1131 (ninS (Ne.symm ne_row_b) nin0)
  clear u1123
  have f1149 := u1124.keep K1131 (ninS (Ne.symm ne_row_b) nin0)
  clear u1124
  have f1150 := u1125.keep K1131 (ninS (Ne.symm ne_row_b) nin0)
  clear u1125
  have f1151 := u1126.keep K1131 (ninS (Ne.symm ne_row_ar) nin0)
  clear u1126
  have f1152 := u1127.keep K1131
  clear u1127
  have f1153 := u1128.keep K1131 (ninS (Ne.symm ne_row_s3) nin0)
  clear u1128
  have f1154 := u1129.keep K1131 (ninS (Ne.symm ne_row_s3) nin0)
  clear u1129
  have f1155 := u1130.keep K1131 (ninS (Ne.symm ne_row_s3) nin0)
  clear u1130
  have sz1131 : n0 ≤ T1131.heap.size := Nat.le_trans sz1101 K1131.1
  clear sz1101
  clear K1131
  obtain ⟨u1156, u1157, u1158, u1159, u1160, u1161, u1162⟩ := B1131_0
  refine own_st (st1131) ?_
  clear st1131 X1101
  show OFin p e below s _ _ _ (T1131.setTop (mkF m 129 #[.val (.int p1), .val (.int p2), .val (.int p3), .val (.int p4), .val (.int p5), .val (.ref cn), .val (.ref row), .val (.ref r1), .val (.ref r2), .val (.int (3 : Int32)), .val (.ref ra), .val (.ref rb), .val (.ref rc), .unset, .unset, .unset] [(.ref b)]))
  refine own_st (fun _ kS => XS.astore X1131.here hx rfl (hb hby at_129) rfl rfl (l' := #[.val (.int p1), .val (.int p2), .val (.int p3), .val (.int p4), .val (.int p5), .val (.ref cn), .val (.ref row), .val (.ref r1), .val (.ref r2), .val (.int (3 : Int32)), .val (.ref ra), .val (.ref rb), .val (.ref rc), .val (.ref b), .unset, .unset]) rfl kS) ?_
  show OFin p e below s _ _ _ (T1131.setTop (mkF m 131 #[.val (.int p1), .val (.int p2), .val (.int p3), .val (.int p4), .val (.int p5), .val (.ref cn), .val (.ref row), .val (.ref r1), .val (.ref r2), .val (.int (3 : Int32)), .val (.ref ra), .val (.ref rb), .val (.ref rc), .val (.ref b), .unset, .unset] []))
  refine own_st (fun _ kS => XS.aload X1131.here hx rfl (hb hby at_131) rfl rfl kS) ?_
  show OFin p e below s _ _ _ (T1131.setTop (mkF m 133 #[.val (.int p1), .val (.int p2), .val (.int p3), .val (.int p4), .val (.int p5), .val (.ref cn), .val (.ref row), .val (.ref r1), .val (.ref r2), .val (.int (3 : Int32)), .val (.ref ra), .val (.ref rb), .val (.ref rc), .val (.ref b), .unset, .unset] [(.ref row)]))
  obtain ⟨v1163, T1163, L1163, X1163, hQ1163, st1163⟩ := own_virtual X1131 hx hZ (y := (⟨"com/example/notation_search/notationsearch/math/Row", "release", "()Ljava/util/List;"⟩ : MethodName)) (z := (⟨"com/example/notation_search/notationsearch/math/Row", "release", "()Ljava/util/List;"⟩ : MethodName)) (rm := ⟨1, 0, 0, 11⟩) (W := 0) (a := row) (argsL := []) (rest := []) hown (own_w hw 29 rfl) (own_w hw 30 rfl) (notFace_of_selects (args := #[]) (mvT hZ (own_w hw 32 rfl))) (own_w hw 32 rfl) (own_w hw 31 rfl) (own_w hw 11 rfl) (own_w hw 33 rfl) (rmRN l Z a0 hw row T1131.heap n0 cn el ⟨u1156, u1157, u1158, u1159, u1160, u1161, u1162⟩ g_row S_el od1131) rfl u1156 (g := (mkF m 133 #[.val (.int p1), .val (.int p2), .val (.int p3), .val (.int p4), .val (.int p5), .val (.ref cn), .val (.ref row), .val (.ref r1), .val (.ref r2), .val (.int (3 : Int32)), .val (.ref ra), .val (.ref rb), .val (.ref rc), .val (.ref b), .unset, .unset] [(.ref row)])) rfl (by rw [hml]; rfl) (lenOf own_pd1 rfl) rfl (by show 2 * 0 + _ ≤ _; exact Nat.le_of_eq rfl) (hb hby at_133) (by decide) (by decide) (by decide) (by decide)
  obtain ⟨rfl, N1163, K1163, B1163_0⟩ := hQ1163
  have fr1163 := Fr.app fr1131 N1163
  clear fr1131 N1163
  have od1163 := od1131.keep K1163 (allS g_row all0)
  clear od1131
  have f1164 := u1156.keep K1163
  clear u1156
  have f1165 := f1139.keep K1163
  clear f1139
  have f1166 := f1140.keep K1163
  clear f1140
  have f1167 := f1141.keep K1163 (ninS (Ne.symm ne_row_s1) nin0)
  clear f1141
  have f1168 := f1142.keep K1163 (ninS (Ne.symm ne_row_s1) nin0)
  clear f1142
  have f1169 := f1143.keep K1163 (ninS (Ne.symm ne_row_s1) nin0)
  clear f1143
  have f1170 := f1144.keep K1163
  clear f1144
  have f1171 := f1145.keep K1163 (ninS (Ne.symm ne_row_s2) nin0)
  clear f1145
  have f1172 := f1146.keep K1163 (ninS (Ne.symm ne_row_s2) nin0)
  clear f1146
  have f1173 := f1147.keep K1163 (ninS (Ne.symm ne_row_s2) nin0)
  clear f1147
  have f1174 := f1148.keep K1163 (ninS (Ne.symm ne_row_b) nin0)
  clear f1148
  have f1175 := f1149.keep K1163 (ninS (Ne.symm ne_row_b) nin0)
  clear f1149
  have f1176 := f1150.keep K1163 (ninS (Ne.symm ne_row_b) nin0)
  clear f1150
  have f1177 := f1151.keep K1163 (ninS (Ne.symm ne_row_ar) nin0)
  clear f1151
  have f1178 := f1152.keep K1163
  clear f1152
  have f1179 := f1153.keep K1163 (ninS (Ne.symm ne_row_s3) nin0)
  clear f1153
  have f1180 := f1154.keep K1163 (ninS (Ne.symm ne_row_s3) nin0)
  clear f1154
  have f1181 := f1155.keep K1163 (ninS (Ne.symm ne_row_s3) nin0)
  clear f1155
  clear u1157
  clear u1158
  clear u1159
  clear u1160
  clear u1161
  clear u1162
  have sz1163 : n0 ≤ T1163.heap.size := Nat.le_trans sz1131 K1163.1
  clear sz1131
  clear K1163
  obtain ⟨u1188, u1189, u1190, u1191, u1192, u1193, u1194⟩ := B1163_0
  refine own_st (st1163) ?_
  clear st1163 X1131
  show OFin p e below s _ _ _ (T1163.setTop (mkF m 136 #[.val (.int p1), .val (.int p2), .val (.int p3), .val (.int p4), .val (.int p5), .val (.ref cn), .val (.ref row), .val (.ref r1), .val (.ref r2), .val (.int (3 : Int32)), .val (.ref ra), .val (.ref rb), .val (.ref rc), .val (.ref b), .unset, .unset] [(.ref el)]))
  refine own_st (fun _ kS => XS.astore X1163.here hx rfl (hb hby at_136) rfl rfl (l' := #[.val (.int p1), .val (.int p2), .val (.int p3), .val (.int p4), .val (.int p5), .val (.ref cn), .val (.ref row), .val (.ref r1), .val (.ref r2), .val (.int (3 : Int32)), .val (.ref ra), .val (.ref rb), .val (.ref rc), .val (.ref b), .val (.ref el), .unset]) rfl kS) ?_
  show OFin p e below s _ _ _ (T1163.setTop (mkF m 138 #[.val (.int p1), .val (.int p2), .val (.int p3), .val (.int p4), .val (.int p5), .val (.ref cn), .val (.ref row), .val (.ref r1), .val (.ref r2), .val (.int (3 : Int32)), .val (.ref ra), .val (.ref rb), .val (.ref rc), .val (.ref b), .val (.ref el), .unset] []))
  refine own_st (fun _ kS => XS.aload X1163.here hx rfl (hb hby at_138) rfl rfl kS) ?_
  show OFin p e below s _ _ _ (T1163.setTop (mkF m 140 #[.val (.int p1), .val (.int p2), .val (.int p3), .val (.int p4), .val (.int p5), .val (.ref cn), .val (.ref row), .val (.ref r1), .val (.ref r2), .val (.int (3 : Int32)), .val (.ref ra), .val (.ref rb), .val (.ref rc), .val (.ref b), .val (.ref el), .unset] [(.ref b)]))
  obtain ⟨v1195, T1195, L1195, X1195, hQ1195, st1195⟩ := own_face X1163 hx hZ (y := (⟨"java/util/List", "size", "()I"⟩ : MethodName)) (z := (⟨"java/util/ArrayList", "size", "()I"⟩ : MethodName)) (rm := ⟨0, 0, 0, 0⟩) (W := 0) (a := b) (argsL := []) (rest := []) hown (own_w hw 42 rfl) (own_w hw 43 rfl) (mvT hZ (own_w hw 44 rfl)) (own_w hw 164 rfl) (own_w hw 165 rfl) (own_w hw 166 rfl) (own_w hw 167 rfl) (own_w hw 127 rfl) (own_w hw 80 rfl) (own_w hw 168 rfl) (rmSz l Z a0 hw b T1163.heap (3 : Int32) f1176) rfl f1165 (g := (mkF m 140 #[.val (.int p1), .val (.int p2), .val (.int p3), .val (.int p4), .val (.int p5), .val (.ref cn), .val (.ref row), .val (.ref r1), .val (.ref r2), .val (.int (3 : Int32)), .val (.ref ra), .val (.ref rb), .val (.ref rc), .val (.ref b), .val (.ref el), .unset] [(.ref b)])) rfl (by rw [hml]; rfl) (lenOf own_pd14 rfl) rfl (by show 2 * 0 + _ ≤ _; exact Nat.le_of_eq rfl) (hb hby at_140) (by decide) (by decide) (by decide) (by decide)
  obtain ⟨rfl, e1195, rfl⟩ := hQ1195
  rw [List.append_nil] at X1195
  refine own_st (st1195) ?_
  clear st1195 X1163
  show OFin p e below s _ _ _ (T1195.setTop (mkF m 145 #[.val (.int p1), .val (.int p2), .val (.int p3), .val (.int p4), .val (.int p5), .val (.ref cn), .val (.ref row), .val (.ref r1), .val (.ref r2), .val (.int (3 : Int32)), .val (.ref ra), .val (.ref rb), .val (.ref rc), .val (.ref b), .val (.ref el), .unset] [(.int (3 : Int32))]))
  refine own_st (fun _ kS => XS.iload X1195.here hx rfl (hb hby at_145) rfl kS) ?_
  show OFin p e below s _ _ _ (T1195.setTop (mkF m 147 #[.val (.int p1), .val (.int p2), .val (.int p3), .val (.int p4), .val (.int p5), .val (.ref cn), .val (.ref row), .val (.ref r1), .val (.ref r2), .val (.int (3 : Int32)), .val (.ref ra), .val (.ref rb), .val (.ref rc), .val (.ref b), .val (.ref el), .unset] [(.int (3 : Int32)), (.int (3 : Int32))]))
  refine own_st (fun _ kS => XS.icmpNo X1195.here hx rfl (hb hby at_147) rfl (teq rfl).2 kS) ?_
  show OFin p e below s _ _ _ (T1195.setTop (mkF m 150 #[.val (.int p1), .val (.int p2), .val (.int p3), .val (.int p4), .val (.int p5), .val (.ref cn), .val (.ref row), .val (.ref r1), .val (.ref r2), .val (.int (3 : Int32)), .val (.ref ra), .val (.ref rb), .val (.ref rc), .val (.ref b), .val (.ref el), .unset] []))
  refine own_st (fun _ kS => XS.aload X1195.here hx rfl (hb hby at_150) rfl rfl kS) ?_
  show OFin p e below s _ _ _ (T1195.setTop (mkF m 152 #[.val (.int p1), .val (.int p2), .val (.int p3), .val (.int p4), .val (.int p5), .val (.ref cn), .val (.ref row), .val (.ref r1), .val (.ref r2), .val (.int (3 : Int32)), .val (.ref ra), .val (.ref rb), .val (.ref rc), .val (.ref b), .val (.ref el), .unset] [(.ref el)]))
  obtain ⟨v1196, T1196, L1196, X1196, hQ1196, st1196⟩ := own_face X1195 hx hZ (y := (⟨"java/util/List", "isEmpty", "()Z"⟩ : MethodName)) (z := (⟨"java/util/ImmutableCollections$ListN", "isEmpty", "()Z"⟩ : MethodName)) (rm := ⟨0, 0, 0, 0⟩) (W := 0) (a := el) (argsL := []) (rest := []) hown (own_w hw 54 rfl) (own_w hw 55 rfl) (mvT hZ (own_w hw 56 rfl)) (own_w hw 57 rfl) (own_w hw 58 rfl) (own_w hw 59 rfl) (own_w hw 60 rfl) (own_w hw 49 rfl) (own_w hw 50 rfl) (own_w hw 61 rfl) (rmLE l Z a0 hw el T1163.heap em (F_el.ext od1163.2) (A_em.ext od1163.2)) e1195 (E_el.ext od1163.2) (g := (mkF m 152 #[.val (.int p1), .val (.int p2), .val (.int p3), .val (.int p4), .val (.int p5), .val (.ref cn), .val (.ref row), .val (.ref r1), .val (.ref r2), .val (.int (3 : Int32)), .val (.ref ra), .val (.ref rb), .val (.ref rc), .val (.ref b), .val (.ref el), .unset] [(.ref el)])) rfl (by rw [hml]; rfl) (lenOf own_pd16 rfl) rfl (by show 2 * 0 + _ ≤ _; exact Nat.le_of_eq rfl) (hb hby at_152) (by decide) (by decide) (by decide) (by decide)
  obtain ⟨rfl, e1196, rfl⟩ := hQ1196
  rw [List.append_nil] at X1196
  refine own_st (st1196) ?_
  clear st1196 X1195 e1195
  show OFin p e below s _ _ _ (T1196.setTop (mkF m 157 #[.val (.int p1), .val (.int p2), .val (.int p3), .val (.int p4), .val (.int p5), .val (.ref cn), .val (.ref row), .val (.ref r1), .val (.ref r2), .val (.int (3 : Int32)), .val (.ref ra), .val (.ref rb), .val (.ref rc), .val (.ref b), .val (.ref el), .unset] [(.int (1 : Int32))]))
  refine own_st (fun _ kS => XS.ifNo X1196.here hx rfl (hb hby at_157) rfl ((if0 _ _).trans (feq (by decide)).1) kS) ?_
  show OFin p e below s _ _ _ (T1196.setTop (mkF m 160 #[.val (.int p1), .val (.int p2), .val (.int p3), .val (.int p4), .val (.int p5), .val (.ref cn), .val (.ref row), .val (.ref r1), .val (.ref r2), .val (.int (3 : Int32)), .val (.ref ra), .val (.ref rb), .val (.ref rc), .val (.ref b), .val (.ref el), .unset] []))
  refine own_st (fun _ kS => XS.aload X1196.here hx rfl (hb hby at_160) rfl rfl kS) ?_
  show OFin p e below s _ _ _ (T1196.setTop (mkF m 162 #[.val (.int p1), .val (.int p2), .val (.int p3), .val (.int p4), .val (.int p5), .val (.ref cn), .val (.ref row), .val (.ref r1), .val (.ref r2), .val (.int (3 : Int32)), .val (.ref ra), .val (.ref rb), .val (.ref rc), .val (.ref b), .val (.ref el), .unset] [(.ref row)]))
  obtain ⟨v1197, T1197, L1197, X1197, hQ1197, st1197⟩ := own_virtual X1196 hx hZ (y := (⟨"com/example/notation_search/notationsearch/math/Row", "followed", "()Ljava/util/List;"⟩ : MethodName)) (z := (⟨"com/example/notation_search/notationsearch/math/Row", "followed", "()Ljava/util/List;"⟩ : MethodName)) (rm := ⟨1, 0, 0, 11⟩) (W := 0) (a := row) (argsL := []) (rest := []) hown (own_w hw 62 rfl) (own_w hw 63 rfl) (notFace_of_selects (args := #[]) (mvT hZ (own_w hw 65 rfl))) (own_w hw 65 rfl) (own_w hw 64 rfl) (own_w hw 11 rfl) (own_w hw 66 rfl) (rmFo l Z a0 hw row T1163.heap n0 cn el ⟨u1188, u1189, u1190, u1191, u1192, u1193, u1194⟩ S_el od1163) e1196 u1188 (g := (mkF m 162 #[.val (.int p1), .val (.int p2), .val (.int p3), .val (.int p4), .val (.int p5), .val (.ref cn), .val (.ref row), .val (.ref r1), .val (.ref r2), .val (.int (3 : Int32)), .val (.ref ra), .val (.ref rb), .val (.ref rc), .val (.ref b), .val (.ref el), .unset] [(.ref row)])) rfl (by rw [hml]; rfl) (lenOf own_pd1 rfl) rfl (by show 2 * 0 + _ ≤ _; exact Nat.le_of_eq rfl) (hb hby at_162) (by decide) (by decide) (by decide) (by decide)
  obtain ⟨rfl, e1197, rfl⟩ := hQ1197
  rw [List.append_nil] at X1197
  refine own_st (st1197) ?_
  clear st1197 X1196 e1196
  show OFin p e below s _ _ _ (T1197.setTop (mkF m 165 #[.val (.int p1), .val (.int p2), .val (.int p3), .val (.int p4), .val (.int p5), .val (.ref cn), .val (.ref row), .val (.ref r1), .val (.ref r2), .val (.int (3 : Int32)), .val (.ref ra), .val (.ref rb), .val (.ref rc), .val (.ref b), .val (.ref el), .unset] [(.ref el)]))
  obtain ⟨v1198, T1198, L1198, X1198, hQ1198, st1198⟩ := own_face X1197 hx hZ (y := (⟨"java/util/List", "isEmpty", "()Z"⟩ : MethodName)) (z := (⟨"java/util/ImmutableCollections$ListN", "isEmpty", "()Z"⟩ : MethodName)) (rm := ⟨0, 0, 0, 0⟩) (W := 0) (a := el) (argsL := []) (rest := []) hown (own_w hw 54 rfl) (own_w hw 55 rfl) (mvT hZ (own_w hw 56 rfl)) (own_w hw 57 rfl) (own_w hw 58 rfl) (own_w hw 59 rfl) (own_w hw 60 rfl) (own_w hw 49 rfl) (own_w hw 50 rfl) (own_w hw 61 rfl) (rmLE l Z a0 hw el T1163.heap em (F_el.ext od1163.2) (A_em.ext od1163.2)) e1197 (E_el.ext od1163.2) (g := (mkF m 165 #[.val (.int p1), .val (.int p2), .val (.int p3), .val (.int p4), .val (.int p5), .val (.ref cn), .val (.ref row), .val (.ref r1), .val (.ref r2), .val (.int (3 : Int32)), .val (.ref ra), .val (.ref rb), .val (.ref rc), .val (.ref b), .val (.ref el), .unset] [(.ref el)])) rfl (by rw [hml]; rfl) (lenOf own_pd16 rfl) rfl (by show 2 * 0 + _ ≤ _; exact Nat.le_of_eq rfl) (hb hby at_165) (by decide) (by decide) (by decide) (by decide)
  obtain ⟨rfl, e1198, rfl⟩ := hQ1198
  rw [List.append_nil] at X1198
  refine own_st (st1198) ?_
  clear st1198 X1197 e1197
  show OFin p e below s _ _ _ (T1198.setTop (mkF m 170 #[.val (.int p1), .val (.int p2), .val (.int p3), .val (.int p4), .val (.int p5), .val (.ref cn), .val (.ref row), .val (.ref r1), .val (.ref r2), .val (.int (3 : Int32)), .val (.ref ra), .val (.ref rb), .val (.ref rc), .val (.ref b), .val (.ref el), .unset] [(.int (1 : Int32))]))
  refine own_st (fun _ kS => XS.ifYes X1198.here hx rfl (pc0 := 170) (pc' := 175) rfl (hb hby at_170) rfl ((if0 _ _).trans (feq (by decide)).2) (by decide) (by decide) kS) ?_
  show OFin p e below s _ _ _ (T1198.setTop (mkF m 175 #[.val (.int p1), .val (.int p2), .val (.int p3), .val (.int p4), .val (.int p5), .val (.ref cn), .val (.ref row), .val (.ref r1), .val (.ref r2), .val (.int (3 : Int32)), .val (.ref ra), .val (.ref rb), .val (.ref rc), .val (.ref b), .val (.ref el), .unset] []))
  refine own_st (fun _ kS => XS.iload X1198.here hx rfl (hb hby at_175) rfl kS) ?_
  show OFin p e below s _ _ _ (T1198.setTop (mkF m 177 #[.val (.int p1), .val (.int p2), .val (.int p3), .val (.int p4), .val (.int p5), .val (.ref cn), .val (.ref row), .val (.ref r1), .val (.ref r2), .val (.int (3 : Int32)), .val (.ref ra), .val (.ref rb), .val (.ref rc), .val (.ref b), .val (.ref el), .unset] [(.int (3 : Int32))]))
  refine own_st (fun _ kS => XS.iconst X1198.here hx rfl (hb hby at_177) kS) ?_
  show OFin p e below s _ _ _ (T1198.setTop (mkF m 178 #[.val (.int p1), .val (.int p2), .val (.int p3), .val (.int p4), .val (.int p5), .val (.ref cn), .val (.ref row), .val (.ref r1), .val (.ref r2), .val (.int (3 : Int32)), .val (.ref ra), .val (.ref rb), .val (.ref rc), .val (.ref b), .val (.ref el), .unset] [(.int (1 : Int32)), (.int (3 : Int32))]))
  refine own_st (fun _ kS => XS.icmpNo X1198.here hx rfl (hb hby at_178) rfl (flt (by decide)).1 kS) ?_
  show OFin p e below s _ _ _ (T1198.setTop (mkF m 181 #[.val (.int p1), .val (.int p2), .val (.int p3), .val (.int p4), .val (.int p5), .val (.ref cn), .val (.ref row), .val (.ref r1), .val (.ref r2), .val (.int (3 : Int32)), .val (.ref ra), .val (.ref rb), .val (.ref rc), .val (.ref b), .val (.ref el), .unset] []))
  refine own_st (fun _ kS => XS.aload X1198.here hx rfl (hb hby at_181) rfl rfl kS) ?_
  show OFin p e below s _ _ _ (T1198.setTop (mkF m 183 #[.val (.int p1), .val (.int p2), .val (.int p3), .val (.int p4), .val (.int p5), .val (.ref cn), .val (.ref row), .val (.ref r1), .val (.ref r2), .val (.int (3 : Int32)), .val (.ref ra), .val (.ref rb), .val (.ref rc), .val (.ref b), .val (.ref el), .unset] [(.ref b)]))
  refine own_st (fun _ kS => XS.iconst X1198.here hx rfl (hb hby at_183) kS) ?_
  show OFin p e below s _ _ _ (T1198.setTop (mkF m 184 #[.val (.int p1), .val (.int p2), .val (.int p3), .val (.int p4), .val (.int p5), .val (.ref cn), .val (.ref row), .val (.ref r1), .val (.ref r2), .val (.int (3 : Int32)), .val (.ref ra), .val (.ref rb), .val (.ref rc), .val (.ref b), .val (.ref el), .unset] [(.int (0 : Int32)), (.ref b)]))
  obtain ⟨v1199, T1199, L1199, X1199, hQ1199, st1199⟩ := own_face X1198 hx hZ (y := (⟨"java/util/List", "get", "(I)Ljava/lang/Object;"⟩ : MethodName)) (z := (⟨"java/util/ArrayList", "get", "(I)Ljava/lang/Object;"⟩ : MethodName)) (rm := ⟨2, 0, 0, 27⟩) (W := 0) (a := b) (argsL := [(.int (0 : Int32))]) (rest := []) hown (own_w hw 169 rfl) (own_w hw 170 rfl) (mvT hZ (own_w hw 171 rfl)) (own_w hw 172 rfl) (own_w hw 173 rfl) (own_w hw 174 rfl) (own_w hw 175 rfl) (own_w hw 127 rfl) (own_w hw 80 rfl) (own_w hw 176 rfl) (rmGet l Z a0 hw b (0 : Int32) T1163.heap ar s1 (3 : Int32) (3 : Int32) (fun i => if i = 2 then .ref s3 else (fun i => if i = 1 then .ref s2 else (fun i => if i = 0 then .ref s1 else (fun _ => .null) i) i) i) 0 ⟨f1165, f1174, f1175, f1176, f1177⟩ (by decide) (by decide) rfl (by decide) rfl) e1198 f1165 (g := (mkF m 184 #[.val (.int p1), .val (.int p2), .val (.int p3), .val (.int p4), .val (.int p5), .val (.ref cn), .val (.ref row), .val (.ref r1), .val (.ref r2), .val (.int (3 : Int32)), .val (.ref ra), .val (.ref rb), .val (.ref rc), .val (.ref b), .val (.ref el), .unset] [(.int (0 : Int32)), (.ref b)])) rfl (by rw [hml]; rfl) (lenOf own_pd7 rfl) rfl (by show 2 * 0 + _ ≤ _; exact Nat.le_of_eq rfl) (hb hby at_184) (by decide) (by decide) (by decide) (by decide)
  obtain ⟨rfl, e1199, rfl⟩ := hQ1199
  rw [List.append_nil] at X1199
  refine own_st (st1199) ?_
  clear st1199 X1198 e1198
  show OFin p e below s _ _ _ (T1199.setTop (mkF m 189 #[.val (.int p1), .val (.int p2), .val (.int p3), .val (.int p4), .val (.int p5), .val (.ref cn), .val (.ref row), .val (.ref r1), .val (.ref r2), .val (.int (3 : Int32)), .val (.ref ra), .val (.ref rb), .val (.ref rc), .val (.ref b), .val (.ref el), .unset] [(.ref s1)]))
  obtain ⟨T1200, X1200, e1200, st1200⟩ := castY X1199 hx hZ hown (own_w hw 190 rfl) e1199 (Ins.self f1166) (g := (mkF m 189 #[.val (.int p1), .val (.int p2), .val (.int p3), .val (.int p4), .val (.int p5), .val (.ref cn), .val (.ref row), .val (.ref r1), .val (.ref r2), .val (.int (3 : Int32)), .val (.ref ra), .val (.ref rb), .val (.ref rc), .val (.ref b), .val (.ref el), .unset] [(.ref s1)])) rfl rfl (hb hby at_189)
  refine own_st (st1200) ?_
  clear st1200 X1199 e1199
  show OFin p e below s _ _ _ (T1200.setTop (mkF m 192 #[.val (.int p1), .val (.int p2), .val (.int p3), .val (.int p4), .val (.int p5), .val (.ref cn), .val (.ref row), .val (.ref r1), .val (.ref r2), .val (.int (3 : Int32)), .val (.ref ra), .val (.ref rb), .val (.ref rc), .val (.ref b), .val (.ref el), .unset] [(.ref s1)]))
  refine own_st (fun _ kS => XS.aload X1200.here hx rfl (hb hby at_192) rfl rfl kS) ?_
  show OFin p e below s _ _ _ (T1200.setTop (mkF m 194 #[.val (.int p1), .val (.int p2), .val (.int p3), .val (.int p4), .val (.int p5), .val (.ref cn), .val (.ref row), .val (.ref r1), .val (.ref r2), .val (.int (3 : Int32)), .val (.ref ra), .val (.ref rb), .val (.ref rc), .val (.ref b), .val (.ref el), .unset] [(.ref ra), (.ref s1)]))
  refine own_st (fun _ kS => XS.aload X1200.here hx rfl (hb hby at_194) rfl rfl kS) ?_
  show OFin p e below s _ _ _ (T1200.setTop (mkF m 196 #[.val (.int p1), .val (.int p2), .val (.int p3), .val (.int p4), .val (.int p5), .val (.ref cn), .val (.ref row), .val (.ref r1), .val (.ref r2), .val (.int (3 : Int32)), .val (.ref ra), .val (.ref rb), .val (.ref rc), .val (.ref b), .val (.ref el), .unset] [(.ref r1), (.ref ra), (.ref s1)]))
  obtain ⟨v1201, T1201, L1201, X1201, hQ1201, st1201⟩ := own_static X1200 hx hZ (y := (⟨"com/example/notation_search/notationsearch/math/RowReleasePinLaw", "same", "(Lcom/example/notation_search/notationsearch/math/Row$Script;Lcom/example/notation_search/notationsearch/math/Relation;Lcom/example/notation_search/notationsearch/math/Row;)Z"⟩ : MethodName)) (rm := ⟨1, 0, 0, 12⟩) (W := 0) (argsL := [(.ref s1), (.ref ra), (.ref r1)]) (rest := []) hown (own_w hw 192 rfl) (own_w hw 193 rfl) (own_w hw 20 rfl) (own_w hw 194 rfl) (rmSame l Z a0 hw s1 ra r1 T1163.heap ⟨f1166, f1167, f1168, f1169⟩) e1200 (g := (mkF m 196 #[.val (.int p1), .val (.int p2), .val (.int p3), .val (.int p4), .val (.int p5), .val (.ref cn), .val (.ref row), .val (.ref r1), .val (.ref r2), .val (.int (3 : Int32)), .val (.ref ra), .val (.ref rb), .val (.ref rc), .val (.ref b), .val (.ref el), .unset] [(.ref r1), (.ref ra), (.ref s1)])) rfl (by rw [hml]; rfl) (lenOf own_pd15 rfl) rfl (by show 2 * 0 + _ ≤ _; exact Nat.le_of_eq rfl) (hb hby at_196) (by decide) (by decide) (by decide) (by decide)
  obtain ⟨rfl, e1201, rfl⟩ := hQ1201
  rw [List.append_nil] at X1201
  refine own_st (st1201) ?_
  clear st1201 X1200 e1200
  show OFin p e below s _ _ _ (T1201.setTop (mkF m 199 #[.val (.int p1), .val (.int p2), .val (.int p3), .val (.int p4), .val (.int p5), .val (.ref cn), .val (.ref row), .val (.ref r1), .val (.ref r2), .val (.int (3 : Int32)), .val (.ref ra), .val (.ref rb), .val (.ref rc), .val (.ref b), .val (.ref el), .unset] [(.int (1 : Int32))]))
  refine own_st (fun _ kS => XS.ifYes X1201.here hx rfl (pc0 := 199) (pc' := 204) rfl (hb hby at_199) rfl ((if0 _ _).trans (feq (by decide)).2) (by decide) (by decide) kS) ?_
  show OFin p e below s _ _ _ (T1201.setTop (mkF m 204 #[.val (.int p1), .val (.int p2), .val (.int p3), .val (.int p4), .val (.int p5), .val (.ref cn), .val (.ref row), .val (.ref r1), .val (.ref r2), .val (.int (3 : Int32)), .val (.ref ra), .val (.ref rb), .val (.ref rc), .val (.ref b), .val (.ref el), .unset] []))
  refine own_st (fun _ kS => XS.iload X1201.here hx rfl (hb hby at_204) rfl kS) ?_
  show OFin p e below s _ _ _ (T1201.setTop (mkF m 206 #[.val (.int p1), .val (.int p2), .val (.int p3), .val (.int p4), .val (.int p5), .val (.ref cn), .val (.ref row), .val (.ref r1), .val (.ref r2), .val (.int (3 : Int32)), .val (.ref ra), .val (.ref rb), .val (.ref rc), .val (.ref b), .val (.ref el), .unset] [(.int (3 : Int32))]))
  refine own_st (fun _ kS => XS.iconst X1201.here hx rfl (hb hby at_206) kS) ?_
  show OFin p e below s _ _ _ (T1201.setTop (mkF m 207 #[.val (.int p1), .val (.int p2), .val (.int p3), .val (.int p4), .val (.int p5), .val (.ref cn), .val (.ref row), .val (.ref r1), .val (.ref r2), .val (.int (3 : Int32)), .val (.ref ra), .val (.ref rb), .val (.ref rc), .val (.ref b), .val (.ref el), .unset] [(.int (2 : Int32)), (.int (3 : Int32))]))
  refine own_st (fun _ kS => XS.icmpNo X1201.here hx rfl (hb hby at_207) rfl (flt (by decide)).1 kS) ?_
  show OFin p e below s _ _ _ (T1201.setTop (mkF m 210 #[.val (.int p1), .val (.int p2), .val (.int p3), .val (.int p4), .val (.int p5), .val (.ref cn), .val (.ref row), .val (.ref r1), .val (.ref r2), .val (.int (3 : Int32)), .val (.ref ra), .val (.ref rb), .val (.ref rc), .val (.ref b), .val (.ref el), .unset] []))
  refine own_st (fun _ kS => XS.aload X1201.here hx rfl (hb hby at_210) rfl rfl kS) ?_
  show OFin p e below s _ _ _ (T1201.setTop (mkF m 212 #[.val (.int p1), .val (.int p2), .val (.int p3), .val (.int p4), .val (.int p5), .val (.ref cn), .val (.ref row), .val (.ref r1), .val (.ref r2), .val (.int (3 : Int32)), .val (.ref ra), .val (.ref rb), .val (.ref rc), .val (.ref b), .val (.ref el), .unset] [(.ref b)]))
  refine own_st (fun _ kS => XS.iconst X1201.here hx rfl (hb hby at_212) kS) ?_
  show OFin p e below s _ _ _ (T1201.setTop (mkF m 213 #[.val (.int p1), .val (.int p2), .val (.int p3), .val (.int p4), .val (.int p5), .val (.ref cn), .val (.ref row), .val (.ref r1), .val (.ref r2), .val (.int (3 : Int32)), .val (.ref ra), .val (.ref rb), .val (.ref rc), .val (.ref b), .val (.ref el), .unset] [(.int (1 : Int32)), (.ref b)]))
  obtain ⟨v1202, T1202, L1202, X1202, hQ1202, st1202⟩ := own_face X1201 hx hZ (y := (⟨"java/util/List", "get", "(I)Ljava/lang/Object;"⟩ : MethodName)) (z := (⟨"java/util/ArrayList", "get", "(I)Ljava/lang/Object;"⟩ : MethodName)) (rm := ⟨2, 0, 0, 27⟩) (W := 0) (a := b) (argsL := [(.int (1 : Int32))]) (rest := []) hown (own_w hw 169 rfl) (own_w hw 170 rfl) (mvT hZ (own_w hw 171 rfl)) (own_w hw 172 rfl) (own_w hw 173 rfl) (own_w hw 174 rfl) (own_w hw 175 rfl) (own_w hw 127 rfl) (own_w hw 80 rfl) (own_w hw 176 rfl) (rmGet l Z a0 hw b (1 : Int32) T1163.heap ar s2 (3 : Int32) (3 : Int32) (fun i => if i = 2 then .ref s3 else (fun i => if i = 1 then .ref s2 else (fun i => if i = 0 then .ref s1 else (fun _ => .null) i) i) i) 1 ⟨f1165, f1174, f1175, f1176, f1177⟩ (by decide) (by decide) rfl (by decide) rfl) e1201 f1165 (g := (mkF m 213 #[.val (.int p1), .val (.int p2), .val (.int p3), .val (.int p4), .val (.int p5), .val (.ref cn), .val (.ref row), .val (.ref r1), .val (.ref r2), .val (.int (3 : Int32)), .val (.ref ra), .val (.ref rb), .val (.ref rc), .val (.ref b), .val (.ref el), .unset] [(.int (1 : Int32)), (.ref b)])) rfl (by rw [hml]; rfl) (lenOf own_pd7 rfl) rfl (by show 2 * 0 + _ ≤ _; exact Nat.le_of_eq rfl) (hb hby at_213) (by decide) (by decide) (by decide) (by decide)
  obtain ⟨rfl, e1202, rfl⟩ := hQ1202
  rw [List.append_nil] at X1202
  refine own_st (st1202) ?_
  clear st1202 X1201 e1201
  show OFin p e below s _ _ _ (T1202.setTop (mkF m 218 #[.val (.int p1), .val (.int p2), .val (.int p3), .val (.int p4), .val (.int p5), .val (.ref cn), .val (.ref row), .val (.ref r1), .val (.ref r2), .val (.int (3 : Int32)), .val (.ref ra), .val (.ref rb), .val (.ref rc), .val (.ref b), .val (.ref el), .unset] [(.ref s2)]))
  obtain ⟨T1203, X1203, e1203, st1203⟩ := castY X1202 hx hZ hown (own_w hw 190 rfl) e1202 (Ins.self f1170) (g := (mkF m 218 #[.val (.int p1), .val (.int p2), .val (.int p3), .val (.int p4), .val (.int p5), .val (.ref cn), .val (.ref row), .val (.ref r1), .val (.ref r2), .val (.int (3 : Int32)), .val (.ref ra), .val (.ref rb), .val (.ref rc), .val (.ref b), .val (.ref el), .unset] [(.ref s2)])) rfl rfl (hb hby at_218)
  refine own_st (st1203) ?_
  clear st1203 X1202 e1202
  show OFin p e below s _ _ _ (T1203.setTop (mkF m 221 #[.val (.int p1), .val (.int p2), .val (.int p3), .val (.int p4), .val (.int p5), .val (.ref cn), .val (.ref row), .val (.ref r1), .val (.ref r2), .val (.int (3 : Int32)), .val (.ref ra), .val (.ref rb), .val (.ref rc), .val (.ref b), .val (.ref el), .unset] [(.ref s2)]))
  refine own_st (fun _ kS => XS.aload X1203.here hx rfl (hb hby at_221) rfl rfl kS) ?_
  show OFin p e below s _ _ _ (T1203.setTop (mkF m 223 #[.val (.int p1), .val (.int p2), .val (.int p3), .val (.int p4), .val (.int p5), .val (.ref cn), .val (.ref row), .val (.ref r1), .val (.ref r2), .val (.int (3 : Int32)), .val (.ref ra), .val (.ref rb), .val (.ref rc), .val (.ref b), .val (.ref el), .unset] [(.ref rb), (.ref s2)]))
  refine own_st (fun _ kS => XS.aload X1203.here hx rfl (hb hby at_223) rfl rfl kS) ?_
  show OFin p e below s _ _ _ (T1203.setTop (mkF m 225 #[.val (.int p1), .val (.int p2), .val (.int p3), .val (.int p4), .val (.int p5), .val (.ref cn), .val (.ref row), .val (.ref r1), .val (.ref r2), .val (.int (3 : Int32)), .val (.ref ra), .val (.ref rb), .val (.ref rc), .val (.ref b), .val (.ref el), .unset] [(.ref r2), (.ref rb), (.ref s2)]))
  obtain ⟨v1204, T1204, L1204, X1204, hQ1204, st1204⟩ := own_static X1203 hx hZ (y := (⟨"com/example/notation_search/notationsearch/math/RowReleasePinLaw", "same", "(Lcom/example/notation_search/notationsearch/math/Row$Script;Lcom/example/notation_search/notationsearch/math/Relation;Lcom/example/notation_search/notationsearch/math/Row;)Z"⟩ : MethodName)) (rm := ⟨1, 0, 0, 12⟩) (W := 0) (argsL := [(.ref s2), (.ref rb), (.ref r2)]) (rest := []) hown (own_w hw 192 rfl) (own_w hw 193 rfl) (own_w hw 20 rfl) (own_w hw 194 rfl) (rmSame l Z a0 hw s2 rb r2 T1163.heap ⟨f1170, f1171, f1172, f1173⟩) e1203 (g := (mkF m 225 #[.val (.int p1), .val (.int p2), .val (.int p3), .val (.int p4), .val (.int p5), .val (.ref cn), .val (.ref row), .val (.ref r1), .val (.ref r2), .val (.int (3 : Int32)), .val (.ref ra), .val (.ref rb), .val (.ref rc), .val (.ref b), .val (.ref el), .unset] [(.ref r2), (.ref rb), (.ref s2)])) rfl (by rw [hml]; rfl) (lenOf own_pd15 rfl) rfl (by show 2 * 0 + _ ≤ _; exact Nat.le_of_eq rfl) (hb hby at_225) (by decide) (by decide) (by decide) (by decide)
  obtain ⟨rfl, e1204, rfl⟩ := hQ1204
  rw [List.append_nil] at X1204
  refine own_st (st1204) ?_
  clear st1204 X1203 e1203
  show OFin p e below s _ _ _ (T1204.setTop (mkF m 228 #[.val (.int p1), .val (.int p2), .val (.int p3), .val (.int p4), .val (.int p5), .val (.ref cn), .val (.ref row), .val (.ref r1), .val (.ref r2), .val (.int (3 : Int32)), .val (.ref ra), .val (.ref rb), .val (.ref rc), .val (.ref b), .val (.ref el), .unset] [(.int (1 : Int32))]))
  refine own_st (fun _ kS => XS.ifYes X1204.here hx rfl (pc0 := 228) (pc' := 233) rfl (hb hby at_228) rfl ((if0 _ _).trans (feq (by decide)).2) (by decide) (by decide) kS) ?_
  show OFin p e below s _ _ _ (T1204.setTop (mkF m 233 #[.val (.int p1), .val (.int p2), .val (.int p3), .val (.int p4), .val (.int p5), .val (.ref cn), .val (.ref row), .val (.ref r1), .val (.ref r2), .val (.int (3 : Int32)), .val (.ref ra), .val (.ref rb), .val (.ref rc), .val (.ref b), .val (.ref el), .unset] []))
  refine own_st (fun _ kS => XS.iload X1204.here hx rfl (hb hby at_233) rfl kS) ?_
  show OFin p e below s _ _ _ (T1204.setTop (mkF m 235 #[.val (.int p1), .val (.int p2), .val (.int p3), .val (.int p4), .val (.int p5), .val (.ref cn), .val (.ref row), .val (.ref r1), .val (.ref r2), .val (.int (3 : Int32)), .val (.ref ra), .val (.ref rb), .val (.ref rc), .val (.ref b), .val (.ref el), .unset] [(.int (3 : Int32))]))
  refine own_st (fun _ kS => XS.iconst X1204.here hx rfl (hb hby at_235) kS) ?_
  show OFin p e below s _ _ _ (T1204.setTop (mkF m 236 #[.val (.int p1), .val (.int p2), .val (.int p3), .val (.int p4), .val (.int p5), .val (.ref cn), .val (.ref row), .val (.ref r1), .val (.ref r2), .val (.int (3 : Int32)), .val (.ref ra), .val (.ref rb), .val (.ref rc), .val (.ref b), .val (.ref el), .unset] [(.int (3 : Int32)), (.int (3 : Int32))]))
  refine own_st (fun _ kS => XS.icmpNo X1204.here hx rfl (hb hby at_236) rfl (flt (by decide)).1 kS) ?_
  show OFin p e below s _ _ _ (T1204.setTop (mkF m 239 #[.val (.int p1), .val (.int p2), .val (.int p3), .val (.int p4), .val (.int p5), .val (.ref cn), .val (.ref row), .val (.ref r1), .val (.ref r2), .val (.int (3 : Int32)), .val (.ref ra), .val (.ref rb), .val (.ref rc), .val (.ref b), .val (.ref el), .unset] []))
  refine own_st (fun _ kS => XS.aload X1204.here hx rfl (hb hby at_239) rfl rfl kS) ?_
  show OFin p e below s _ _ _ (T1204.setTop (mkF m 241 #[.val (.int p1), .val (.int p2), .val (.int p3), .val (.int p4), .val (.int p5), .val (.ref cn), .val (.ref row), .val (.ref r1), .val (.ref r2), .val (.int (3 : Int32)), .val (.ref ra), .val (.ref rb), .val (.ref rc), .val (.ref b), .val (.ref el), .unset] [(.ref b)]))
  refine own_st (fun _ kS => XS.iconst X1204.here hx rfl (hb hby at_241) kS) ?_
  show OFin p e below s _ _ _ (T1204.setTop (mkF m 242 #[.val (.int p1), .val (.int p2), .val (.int p3), .val (.int p4), .val (.int p5), .val (.ref cn), .val (.ref row), .val (.ref r1), .val (.ref r2), .val (.int (3 : Int32)), .val (.ref ra), .val (.ref rb), .val (.ref rc), .val (.ref b), .val (.ref el), .unset] [(.int (2 : Int32)), (.ref b)]))
  obtain ⟨v1205, T1205, L1205, X1205, hQ1205, st1205⟩ := own_face X1204 hx hZ (y := (⟨"java/util/List", "get", "(I)Ljava/lang/Object;"⟩ : MethodName)) (z := (⟨"java/util/ArrayList", "get", "(I)Ljava/lang/Object;"⟩ : MethodName)) (rm := ⟨2, 0, 0, 27⟩) (W := 0) (a := b) (argsL := [(.int (2 : Int32))]) (rest := []) hown (own_w hw 169 rfl) (own_w hw 170 rfl) (mvT hZ (own_w hw 171 rfl)) (own_w hw 172 rfl) (own_w hw 173 rfl) (own_w hw 174 rfl) (own_w hw 175 rfl) (own_w hw 127 rfl) (own_w hw 80 rfl) (own_w hw 176 rfl) (rmGet l Z a0 hw b (2 : Int32) T1163.heap ar s3 (3 : Int32) (3 : Int32) (fun i => if i = 2 then .ref s3 else (fun i => if i = 1 then .ref s2 else (fun i => if i = 0 then .ref s1 else (fun _ => .null) i) i) i) 2 ⟨f1165, f1174, f1175, f1176, f1177⟩ (by decide) (by decide) rfl (by decide) rfl) e1204 f1165 (g := (mkF m 242 #[.val (.int p1), .val (.int p2), .val (.int p3), .val (.int p4), .val (.int p5), .val (.ref cn), .val (.ref row), .val (.ref r1), .val (.ref r2), .val (.int (3 : Int32)), .val (.ref ra), .val (.ref rb), .val (.ref rc), .val (.ref b), .val (.ref el), .unset] [(.int (2 : Int32)), (.ref b)])) rfl (by rw [hml]; rfl) (lenOf own_pd7 rfl) rfl (by show 2 * 0 + _ ≤ _; exact Nat.le_of_eq rfl) (hb hby at_242) (by decide) (by decide) (by decide) (by decide)
  obtain ⟨rfl, e1205, rfl⟩ := hQ1205
  rw [List.append_nil] at X1205
  refine own_st (st1205) ?_
  clear st1205 X1204 e1204
  show OFin p e below s _ _ _ (T1205.setTop (mkF m 247 #[.val (.int p1), .val (.int p2), .val (.int p3), .val (.int p4), .val (.int p5), .val (.ref cn), .val (.ref row), .val (.ref r1), .val (.ref r2), .val (.int (3 : Int32)), .val (.ref ra), .val (.ref rb), .val (.ref rc), .val (.ref b), .val (.ref el), .unset] [(.ref s3)]))
  obtain ⟨T1206, X1206, e1206, st1206⟩ := castY X1205 hx hZ hown (own_w hw 190 rfl) e1205 (Ins.self f1178) (g := (mkF m 247 #[.val (.int p1), .val (.int p2), .val (.int p3), .val (.int p4), .val (.int p5), .val (.ref cn), .val (.ref row), .val (.ref r1), .val (.ref r2), .val (.int (3 : Int32)), .val (.ref ra), .val (.ref rb), .val (.ref rc), .val (.ref b), .val (.ref el), .unset] [(.ref s3)])) rfl rfl (hb hby at_247)
  refine own_st (st1206) ?_
  clear st1206 X1205 e1205
  show OFin p e below s _ _ _ (T1206.setTop (mkF m 250 #[.val (.int p1), .val (.int p2), .val (.int p3), .val (.int p4), .val (.int p5), .val (.ref cn), .val (.ref row), .val (.ref r1), .val (.ref r2), .val (.int (3 : Int32)), .val (.ref ra), .val (.ref rb), .val (.ref rc), .val (.ref b), .val (.ref el), .unset] [(.ref s3)]))
  refine own_st (fun _ kS => XS.aload X1206.here hx rfl (hb hby at_250) rfl rfl kS) ?_
  show OFin p e below s _ _ _ (T1206.setTop (mkF m 252 #[.val (.int p1), .val (.int p2), .val (.int p3), .val (.int p4), .val (.int p5), .val (.ref cn), .val (.ref row), .val (.ref r1), .val (.ref r2), .val (.int (3 : Int32)), .val (.ref ra), .val (.ref rb), .val (.ref rc), .val (.ref b), .val (.ref el), .unset] [(.ref rc), (.ref s3)]))
  refine own_st (fun _ kS => XS.aload X1206.here hx rfl (hb hby at_252) rfl rfl kS) ?_
  show OFin p e below s _ _ _ (T1206.setTop (mkF m 254 #[.val (.int p1), .val (.int p2), .val (.int p3), .val (.int p4), .val (.int p5), .val (.ref cn), .val (.ref row), .val (.ref r1), .val (.ref r2), .val (.int (3 : Int32)), .val (.ref ra), .val (.ref rb), .val (.ref rc), .val (.ref b), .val (.ref el), .unset] [(.ref row), (.ref rc), (.ref s3)]))
  obtain ⟨v1207, T1207, L1207, X1207, hQ1207, st1207⟩ := own_static X1206 hx hZ (y := (⟨"com/example/notation_search/notationsearch/math/RowReleasePinLaw", "same", "(Lcom/example/notation_search/notationsearch/math/Row$Script;Lcom/example/notation_search/notationsearch/math/Relation;Lcom/example/notation_search/notationsearch/math/Row;)Z"⟩ : MethodName)) (rm := ⟨1, 0, 0, 12⟩) (W := 0) (argsL := [(.ref s3), (.ref rc), (.ref row)]) (rest := []) hown (own_w hw 192 rfl) (own_w hw 193 rfl) (own_w hw 20 rfl) (own_w hw 194 rfl) (rmSame l Z a0 hw s3 rc row T1163.heap ⟨f1178, f1179, f1180, f1181⟩) e1206 (g := (mkF m 254 #[.val (.int p1), .val (.int p2), .val (.int p3), .val (.int p4), .val (.int p5), .val (.ref cn), .val (.ref row), .val (.ref r1), .val (.ref r2), .val (.int (3 : Int32)), .val (.ref ra), .val (.ref rb), .val (.ref rc), .val (.ref b), .val (.ref el), .unset] [(.ref row), (.ref rc), (.ref s3)])) rfl (by rw [hml]; rfl) (lenOf own_pd15 rfl) rfl (by show 2 * 0 + _ ≤ _; exact Nat.le_of_eq rfl) (hb hby at_254) (by decide) (by decide) (by decide) (by decide)
  obtain ⟨rfl, e1207, rfl⟩ := hQ1207
  rw [List.append_nil] at X1207
  refine own_st (st1207) ?_
  clear st1207 X1206 e1206
  show OFin p e below s _ _ _ (T1207.setTop (mkF m 257 #[.val (.int p1), .val (.int p2), .val (.int p3), .val (.int p4), .val (.int p5), .val (.ref cn), .val (.ref row), .val (.ref r1), .val (.ref r2), .val (.int (3 : Int32)), .val (.ref ra), .val (.ref rb), .val (.ref rc), .val (.ref b), .val (.ref el), .unset] [(.int (1 : Int32))]))
  refine own_st (fun _ kS => XS.ifYes X1207.here hx rfl (pc0 := 257) (pc' := 262) rfl (hb hby at_257) rfl ((if0 _ _).trans (feq (by decide)).2) (by decide) (by decide) kS) ?_
  show OFin p e below s _ _ _ (T1207.setTop (mkF m 262 #[.val (.int p1), .val (.int p2), .val (.int p3), .val (.int p4), .val (.int p5), .val (.ref cn), .val (.ref row), .val (.ref r1), .val (.ref r2), .val (.int (3 : Int32)), .val (.ref ra), .val (.ref rb), .val (.ref rc), .val (.ref b), .val (.ref el), .unset] []))
  exact own_c3 hw hC0 X1207 e1207 n0 sz1163 p1 p2 p3 p4 p5 cn row r1 r2 ra rb rc el em dc S_el E_el F_el A_em S_dc A_dc fr1163 od1163 g_row ⟨u1188, u1189, u1190, u1191, u1192, u1193, u1194⟩ b f1165 f1176 ne_row_b rfl rfl
set_option maxRecDepth 65536 in
set_option maxHeartbeats 40000000 in
theorem own_a3 {l : Launch} {Z : State} {a0 : Array Value} (hw : ∀ d ∈ tables_1, d.before a0 Z = true) {p : Program} {e : Env} {s : State} {m : MethodId} {args : Array Value} {below : List Frame} {meth : Method} {c : Code} (hC : OCtx Z p s m meth c "com/example/notation_search/notationsearch/math/RowReleasePinLaw" "law" code maxLocals ret) {T0 : State} {locs : List Loc} {cells slots : Nat} (X0 : Stand p l e room_1 s m args below meth c T0 locs cells slots) {h0 : Heap} (e0 : T0.heap = h0) (n0 : Nat) (Z0 : n0 ≤ h0.size) (p1 p2 p3 p4 p5 : Int32) (cn row r1 r2 ra rb rc : Addr) (el em dc : Addr) (S_el : Sta Z Z.heap "java/util/ImmutableCollections" "EMPTY_LIST" "Ljava/util/ImmutableCollections$ListN;" (.ref el)) (E_el : Exa Z Z.heap el "java/util/ImmutableCollections$ListN") (F_el : Fld Z Z.heap el "java/util/ImmutableCollections$ListN" "elements" "[Ljava/lang/Object;" (.ref em)) (A_em : OArr Z Z.heap em (.object "java/lang/Object") 0 (fun _ => .null)) (S_dc : Sta Z Z.heap "java/util/ArrayList" "DEFAULTCAPACITY_EMPTY_ELEMENTDATA" "[Ljava/lang/Object;" (.ref dc)) (A_dc : OArr Z Z.heap dc (.object "java/lang/Object") 0 (fun _ => .null)) (N0 : Fr n0 locs) (O : Old Z n0 h0) (g_row : n0 ≤ row) (B_r : BR Z h0 row cn .null) (F_2 : Fld Z h0 r2 "com/example/notation_search/notationsearch/math/Row" "first" "Lcom/example/notation_search/notationsearch/math/Symbol;" .null) (ne_row_r2 : row ≠ r2) (hcs : cells = 4) (hss : slots = 20) :
    OFin p e below s room_1.cells room_1.slots (fun v h L => v = some (.int (1 : Int32)) ∧ Fr n0 L) (T0.setTop (mkF m 65 #[.val (.int p1), .val (.int p2), .val (.int p3), .val (.int p4), .val (.int p5), .val (.ref cn), .val (.ref row), .val (.ref r1), .val (.ref r2), .val (.int (3 : Int32)), .val (.ref ra), .val (.ref rb), .val (.ref rc), .unset, .unset, .unset] [])) := by
  have hC0 := hC
  obtain ⟨hx, hZ, hby, hml, hown, hret, hlk, hnm⟩ := hC
  subst hcs hss
  obtain ⟨u1208, u1209, u1210, u1211, u1212, u1213, u1214⟩ := B_r
  refine own_st (fun _ kS => XS.iload X0.here hx rfl (hb hby at_65) rfl kS) ?_
  show OFin p e below s _ _ _ (T0.setTop (mkF m 67 #[.val (.int p1), .val (.int p2), .val (.int p3), .val (.int p4), .val (.int p5), .val (.ref cn), .val (.ref row), .val (.ref r1), .val (.ref r2), .val (.int (3 : Int32)), .val (.ref ra), .val (.ref rb), .val (.ref rc), .unset, .unset, .unset] [(.int (3 : Int32))]))
  refine own_st (fun _ kS => XS.iconst X0.here hx rfl (hb hby at_67) kS) ?_
  show OFin p e below s _ _ _ (T0.setTop (mkF m 68 #[.val (.int p1), .val (.int p2), .val (.int p3), .val (.int p4), .val (.int p5), .val (.ref cn), .val (.ref row), .val (.ref r1), .val (.ref r2), .val (.int (3 : Int32)), .val (.ref ra), .val (.ref rb), .val (.ref rc), .unset, .unset, .unset] [(.int (1 : Int32)), (.int (3 : Int32))]))
  refine own_st (fun _ kS => XS.icmpNo X0.here hx rfl (hb hby at_68) rfl (flt (by decide)).1 kS) ?_
  show OFin p e below s _ _ _ (T0.setTop (mkF m 71 #[.val (.int p1), .val (.int p2), .val (.int p3), .val (.int p4), .val (.int p5), .val (.ref cn), .val (.ref row), .val (.ref r1), .val (.ref r2), .val (.int (3 : Int32)), .val (.ref ra), .val (.ref rb), .val (.ref rc), .unset, .unset, .unset] []))
  refine own_st (fun _ kS => XS.aload X0.here hx rfl (hb hby at_71) rfl rfl kS) ?_
  show OFin p e below s _ _ _ (T0.setTop (mkF m 73 #[.val (.int p1), .val (.int p2), .val (.int p3), .val (.int p4), .val (.int p5), .val (.ref cn), .val (.ref row), .val (.ref r1), .val (.ref r2), .val (.int (3 : Int32)), .val (.ref ra), .val (.ref rb), .val (.ref rc), .unset, .unset, .unset] [(.ref row)]))
  refine own_st (fun _ kS => XS.aload X0.here hx rfl (hb hby at_73) rfl rfl kS) ?_
  show OFin p e below s _ _ _ (T0.setTop (mkF m 75 #[.val (.int p1), .val (.int p2), .val (.int p3), .val (.int p4), .val (.int p5), .val (.ref cn), .val (.ref row), .val (.ref r1), .val (.ref r2), .val (.int (3 : Int32)), .val (.ref ra), .val (.ref rb), .val (.ref rc), .unset, .unset, .unset] [(.ref ra), (.ref row)]))
  refine own_st (fun _ kS => XS.aload X0.here hx rfl (hb hby at_75) rfl rfl kS) ?_
  show OFin p e below s _ _ _ (T0.setTop (mkF m 77 #[.val (.int p1), .val (.int p2), .val (.int p3), .val (.int p4), .val (.int p5), .val (.ref cn), .val (.ref row), .val (.ref r1), .val (.ref r2), .val (.int (3 : Int32)), .val (.ref ra), .val (.ref rb), .val (.ref rc), .unset, .unset, .unset] [(.ref r1), (.ref ra), (.ref row)]))
  obtain ⟨v1215, T1215, L1215, X1215, hQ1215, st1215⟩ := own_virtual X0 hx hZ (y := (⟨"com/example/notation_search/notationsearch/math/Row", "hold", "(Lcom/example/notation_search/notationsearch/math/Relation;Lcom/example/notation_search/notationsearch/math/Row;)V"⟩ : MethodName)) (z := (⟨"com/example/notation_search/notationsearch/math/Row", "hold", "(Lcom/example/notation_search/notationsearch/math/Relation;Lcom/example/notation_search/notationsearch/math/Row;)V"⟩ : MethodName)) (rm := ⟨5, 3, 16, 69⟩) (W := 0) (a := row) (argsL := [(.ref ra), (.ref r1)]) (rest := []) hown (own_w hw 73 rfl) (own_w hw 74 rfl) (notFace_of_selects (args := #[]) (mvT hZ (own_w hw 76 rfl))) (own_w hw 76 rfl) (own_w hw 75 rfl) (own_w hw 11 rfl) (own_w hw 77 rfl) (rmH0 l Z a0 hw row ra r1 h0 n0 Z0 cn dc ⟨u1208, u1209, u1210, u1211, u1212, u1213, u1214⟩ g_row O S_dc A_dc) e0 u1208 (g := (mkF m 77 #[.val (.int p1), .val (.int p2), .val (.int p3), .val (.int p4), .val (.int p5), .val (.ref cn), .val (.ref row), .val (.ref r1), .val (.ref r2), .val (.int (3 : Int32)), .val (.ref ra), .val (.ref rb), .val (.ref rc), .unset, .unset, .unset] [(.ref r1), (.ref ra), (.ref row)])) rfl (by rw [hml]; rfl) (lenOf own_pd13 rfl) rfl (by show 2 * 0 + _ ≤ _; exact Nat.le_of_eq rfl) (hb hby at_77) (by decide) (by decide) (by decide) (by decide)
  obtain ⟨rfl, N1215, K1215, b, ge_b, ar, ge_ar, s1, ge_s1, ne_b_ar, ne_b_s1, ne_ar_s1, B1215_0, B1215_1, B1215_2⟩ := hQ1215
  have ne_r2_b : r2 ≠ b := Nat.ne_of_lt (Nat.lt_of_lt_of_le F_2.lt ge_b)
  have ne_row_b : row ≠ b := Nat.ne_of_lt (Nat.lt_of_lt_of_le u1208.lt ge_b)
  have g_b : n0 ≤ b := Nat.le_trans Z0 ge_b
  have ne_r2_ar : r2 ≠ ar := Nat.ne_of_lt (Nat.lt_of_lt_of_le F_2.lt ge_ar)
  have ne_row_ar : row ≠ ar := Nat.ne_of_lt (Nat.lt_of_lt_of_le u1208.lt ge_ar)
  have g_ar : n0 ≤ ar := Nat.le_trans Z0 ge_ar
  have ne_r2_s1 : r2 ≠ s1 := Nat.ne_of_lt (Nat.lt_of_lt_of_le F_2.lt ge_s1)
  have ne_row_s1 : row ≠ s1 := Nat.ne_of_lt (Nat.lt_of_lt_of_le u1208.lt ge_s1)
  have g_s1 : n0 ≤ s1 := Nat.le_trans Z0 ge_s1
  have fr1215 := Fr.app N0 N1215
  clear N0 N1215
  have od1215 := O.keep K1215 (allS g_row all0)
  have f1216 := u1208.keep K1215
  clear u1208
  clear u1209
  clear u1210
  clear u1211
  clear u1212
  clear u1213
  clear u1214
  have f1223 := F_2.keep K1215 (ninS (Ne.symm ne_row_r2) nin0)
  have sz1215 : n0 ≤ T1215.heap.size := Nat.le_trans Z0 K1215.1
  clear K1215
  obtain ⟨u1224, u1225, u1226, u1227, u1228, u1229, u1230⟩ := B1215_0
  obtain ⟨u1231, u1232, u1233, u1234, u1235⟩ := B1215_1
  obtain ⟨u1236, u1237, u1238, u1239⟩ := B1215_2
  refine own_st (st1215) ?_
  clear st1215 X0 e0
  show OFin p e below s _ _ _ (T1215.setTop (mkF m 80 #[.val (.int p1), .val (.int p2), .val (.int p3), .val (.int p4), .val (.int p5), .val (.ref cn), .val (.ref row), .val (.ref r1), .val (.ref r2), .val (.int (3 : Int32)), .val (.ref ra), .val (.ref rb), .val (.ref rc), .unset, .unset, .unset] []))
  refine own_st (fun _ kS => XS.iload X1215.here hx rfl (hb hby at_80) rfl kS) ?_
  show OFin p e below s _ _ _ (T1215.setTop (mkF m 82 #[.val (.int p1), .val (.int p2), .val (.int p3), .val (.int p4), .val (.int p5), .val (.ref cn), .val (.ref row), .val (.ref r1), .val (.ref r2), .val (.int (3 : Int32)), .val (.ref ra), .val (.ref rb), .val (.ref rc), .unset, .unset, .unset] [(.int p5)]))
  refine own_st (fun _ kS => XS.iconst X1215.here hx rfl (hb hby at_82) kS) ?_
  show OFin p e below s _ _ _ (T1215.setTop (mkF m 83 #[.val (.int p1), .val (.int p2), .val (.int p3), .val (.int p4), .val (.int p5), .val (.ref cn), .val (.ref row), .val (.ref r1), .val (.ref r2), .val (.int (3 : Int32)), .val (.ref ra), .val (.ref rb), .val (.ref rc), .unset, .unset, .unset] [(.int (1 : Int32)), (.int p5)]))
  refine own_st (fun _ kS => XS.iand X1215.here hx rfl (hb hby at_83) rfl kS) ?_
  show OFin p e below s _ _ _ (T1215.setTop (mkF m 84 #[.val (.int p1), .val (.int p2), .val (.int p3), .val (.int p4), .val (.int p5), .val (.ref cn), .val (.ref row), .val (.ref r1), .val (.ref r2), .val (.int (3 : Int32)), .val (.ref ra), .val (.ref rb), .val (.ref rc), .unset, .unset, .unset] [(.int (p5 &&& (1 : Int32)))]))
  by_cases c1 : (p5 &&& (1 : Int32)) = (0 : Int32)
  · refine own_st (fun _ kS => XS.ifYes X1215.here hx rfl (pc0 := 84) (pc' := 94) rfl (hb hby at_84) rfl ((if0 _ _).trans (teq c1).1) (by decide) (by decide) kS) ?_
    show OFin p e below s _ _ _ (T1215.setTop (mkF m 94 #[.val (.int p1), .val (.int p2), .val (.int p3), .val (.int p4), .val (.int p5), .val (.ref cn), .val (.ref row), .val (.ref r1), .val (.ref r2), .val (.int (3 : Int32)), .val (.ref ra), .val (.ref rb), .val (.ref rc), .unset, .unset, .unset] []))
    exact own_b3 hw hC0 X1215 rfl n0 sz1215 p1 p2 p3 p4 p5 cn row r1 r2 ra rb rc el em dc S_el E_el F_el A_em S_dc A_dc fr1215 od1215 g_row b ar s1 ⟨u1224, u1225, u1226, u1227, u1228, u1229, u1230⟩ ⟨u1231, u1232, u1233, u1234, u1235⟩ ⟨u1236, u1237, u1238, u1239⟩ ne_row_b ne_row_ar ne_row_s1 ne_b_ar ne_b_s1 ne_ar_s1 g_b g_ar rfl rfl
  · refine own_st (fun _ kS => XS.ifNo X1215.here hx rfl (hb hby at_84) rfl ((if0 _ _).trans (feq c1).1) kS) ?_
    show OFin p e below s _ _ _ (T1215.setTop (mkF m 87 #[.val (.int p1), .val (.int p2), .val (.int p3), .val (.int p4), .val (.int p5), .val (.ref cn), .val (.ref row), .val (.ref r1), .val (.ref r2), .val (.int (3 : Int32)), .val (.ref ra), .val (.ref rb), .val (.ref rc), .unset, .unset, .unset] []))
    refine own_st (fun _ kS => XS.aload X1215.here hx rfl (hb hby at_87) rfl rfl kS) ?_
    show OFin p e below s _ _ _ (T1215.setTop (mkF m 89 #[.val (.int p1), .val (.int p2), .val (.int p3), .val (.int p4), .val (.int p5), .val (.ref cn), .val (.ref row), .val (.ref r1), .val (.ref r2), .val (.int (3 : Int32)), .val (.ref ra), .val (.ref rb), .val (.ref rc), .unset, .unset, .unset] [(.ref row)]))
    refine own_st (fun _ kS => XS.aload X1215.here hx rfl (hb hby at_89) rfl rfl kS) ?_
    show OFin p e below s _ _ _ (T1215.setTop (mkF m 91 #[.val (.int p1), .val (.int p2), .val (.int p3), .val (.int p4), .val (.int p5), .val (.ref cn), .val (.ref row), .val (.ref r1), .val (.ref r2), .val (.int (3 : Int32)), .val (.ref ra), .val (.ref rb), .val (.ref rc), .unset, .unset, .unset] [(.ref r2), (.ref row)]))
    obtain ⟨v1240, T1240, L1240, X1240, hQ1240, st1240⟩ := own_virtual X1215 hx hZ (y := (⟨"com/example/notation_search/notationsearch/math/Row", "append", "(Lcom/example/notation_search/notationsearch/math/Row;)V"⟩ : MethodName)) (z := (⟨"com/example/notation_search/notationsearch/math/Row", "append", "(Lcom/example/notation_search/notationsearch/math/Row;)V"⟩ : MethodName)) (rm := ⟨0, 0, 0, 0⟩) (W := 0) (a := row) (argsL := [(.ref r2)]) (rest := []) hown (own_w hw 155 rfl) (own_w hw 156 rfl) (notFace_of_selects (args := #[]) (mvT hZ (own_w hw 158 rfl))) (own_w hw 158 rfl) (own_w hw 157 rfl) (own_w hw 11 rfl) (own_w hw 159 rfl) (rmAp l Z a0 hw row r2 T1215.heap n0 cn _ ⟨u1224, u1225, u1226, u1227, u1228, u1229, u1230⟩ g_row f1223) rfl u1224 (g := (mkF m 91 #[.val (.int p1), .val (.int p2), .val (.int p3), .val (.int p4), .val (.int p5), .val (.ref cn), .val (.ref row), .val (.ref r1), .val (.ref r2), .val (.int (3 : Int32)), .val (.ref ra), .val (.ref rb), .val (.ref rc), .unset, .unset, .unset] [(.ref r2), (.ref row)])) rfl (by rw [hml]; rfl) (lenOf own_pd17 rfl) rfl (by show 2 * 0 + _ ≤ _; exact Nat.le_of_eq rfl) (hb hby at_91) (by decide) (by decide) (by decide) (by decide)
    obtain ⟨rfl, N1240, K1240, B1240_0⟩ := hQ1240
    have fr1240 := Fr.app fr1215 N1240
    clear fr1215 N1240
    have od1240 := od1215.keep K1240 (allS g_row all0)
    clear od1215
    have f1241 := u1224.keep K1240
    clear u1224
    have f1242 := f1223.keep K1240 (ninS (Ne.symm ne_row_r2) nin0)
    clear f1223
    clear u1225
    clear u1226
    clear u1227
    clear u1228
    clear u1229
    clear u1230
    have f1249 := u1231.keep K1240
    clear u1231
    have f1250 := u1232.keep K1240 (ninS (Ne.symm ne_row_b) nin0)
    clear u1232
    have f1251 := u1233.keep K1240 (ninS (Ne.symm ne_row_b) nin0)
    clear u1233
    have f1252 := u1234.keep K1240 (ninS (Ne.symm ne_row_b) nin0)
    clear u1234
    have f1253 := u1235.keep K1240 (ninS (Ne.symm ne_row_ar) nin0)
    clear u1235
    have f1254 := u1236.keep K1240
    clear u1236
    have f1255 := u1237.keep K1240 (ninS (Ne.symm ne_row_s1) nin0)
    clear u1237
    have f1256 := u1238.keep K1240 (ninS (Ne.symm ne_row_s1) nin0)
    clear u1238
    have f1257 := u1239.keep K1240 (ninS (Ne.symm ne_row_s1) nin0)
    clear u1239
    have sz1240 : n0 ≤ T1240.heap.size := Nat.le_trans sz1215 K1240.1
    clear sz1215
    clear K1240
    obtain ⟨u1258, u1259, u1260, u1261, u1262, u1263, u1264⟩ := B1240_0
    refine own_st (st1240) ?_
    clear st1240 X1215
    show OFin p e below s _ _ _ (T1240.setTop (mkF m 94 #[.val (.int p1), .val (.int p2), .val (.int p3), .val (.int p4), .val (.int p5), .val (.ref cn), .val (.ref row), .val (.ref r1), .val (.ref r2), .val (.int (3 : Int32)), .val (.ref ra), .val (.ref rb), .val (.ref rc), .unset, .unset, .unset] []))
    exact own_b3 hw hC0 X1240 rfl n0 sz1240 p1 p2 p3 p4 p5 cn row r1 r2 ra rb rc el em dc S_el E_el F_el A_em S_dc A_dc fr1240 od1240 g_row b ar s1 ⟨u1258, u1259, u1260, u1261, u1262, u1263, u1264⟩ ⟨f1249, f1250, f1251, f1252, f1253⟩ ⟨f1254, f1255, f1256, f1257⟩ ne_row_b ne_row_ar ne_row_s1 ne_b_ar ne_b_s1 ne_ar_s1 g_b g_ar rfl rfl
set_option maxRecDepth 65536 in
set_option maxHeartbeats 40000000 in
theorem rm0 (l : Launch) (Z : State) (a0 : Array Value) (hw : ∀ d ∈ tables_1, d.before a0 Z = true) (p1 : Int32) (p2 : Int32) (p3 : Int32) (p4 : Int32) (p5 : Int32) (h0 : Heap) (n0 : Nat) (Z0 : n0 ≤ h0.size) (x0 x1 x2 x3 x4 x5 x6 x7 : Addr) (el em dc : Addr) (S_el : Sta Z Z.heap "java/util/ImmutableCollections" "EMPTY_LIST" "Ljava/util/ImmutableCollections$ListN;" (.ref el)) (E_el : Exa Z Z.heap el "java/util/ImmutableCollections$ListN") (F_el : Fld Z Z.heap el "java/util/ImmutableCollections$ListN" "elements" "[Ljava/lang/Object;" (.ref em)) (A_em : OArr Z Z.heap em (.object "java/lang/Object") 0 (fun _ => .null)) (S_dc : Sta Z Z.heap "java/util/ArrayList" "DEFAULTCAPACITY_EMPTY_ELEMENTDATA" "[Ljava/lang/Object;" (.ref dc)) (A_dc : OArr Z Z.heap dc (.object "java/lang/Object") 0 (fun _ => .null)) (S_0 : Sta Z Z.heap "com/example/notation_search/notationsearch/math/Relation" "NEXT" "Lcom/example/notation_search/notationsearch/math/Relation;" (.ref x0)) (S_1 : Sta Z Z.heap "com/example/notation_search/notationsearch/math/Relation" "ABOVE" "Lcom/example/notation_search/notationsearch/math/Relation;" (.ref x1)) (S_2 : Sta Z Z.heap "com/example/notation_search/notationsearch/math/Relation" "BELOW" "Lcom/example/notation_search/notationsearch/math/Relation;" (.ref x2)) (S_3 : Sta Z Z.heap "com/example/notation_search/notationsearch/math/Relation" "OVER" "Lcom/example/notation_search/notationsearch/math/Relation;" (.ref x3)) (S_4 : Sta Z Z.heap "com/example/notation_search/notationsearch/math/Relation" "UNDER" "Lcom/example/notation_search/notationsearch/math/Relation;" (.ref x4)) (S_5 : Sta Z Z.heap "com/example/notation_search/notationsearch/math/Relation" "WITHIN" "Lcom/example/notation_search/notationsearch/math/Relation;" (.ref x5)) (S_6 : Sta Z Z.heap "com/example/notation_search/notationsearch/math/Relation" "PRE_ABOVE" "Lcom/example/notation_search/notationsearch/math/Relation;" (.ref x6)) (S_7 : Sta Z Z.heap "com/example/notation_search/notationsearch/math/Relation" "PRE_BELOW" "Lcom/example/notation_search/notationsearch/math/Relation;" (.ref x7)) (O : Old Z n0 h0) :
    OMet l Z x code maxLocals ret room_1 #[(.int p1), (.int p2), (.int p3), (.int p4), (.int p5)] h0 (fun v h L => v = some (.int (1 : Int32)) ∧ Fr n0 L) := by
  refine own_enter own_pn0 ?_
  intro p e s m below meth c T0 X0 hC e0
  obtain ⟨hx, hZ, hby, hml, hown, hret, hlk, hnm⟩ := hC
  have hown : s.vm.findClass "com/example/notation_search/notationsearch/math/RowReleasePinLaw" = some m.cls := hown
  refine own_at (own_ef0_IIIII m p1 p2 p3 p4 p5) ?_
  show OFin p e below s _ _ _ (T0.setTop (mkF m 0 #[.val (.int p1), .val (.int p2), .val (.int p3), .val (.int p4), .val (.int p5), .unset, .unset, .unset, .unset, .unset, .unset, .unset, .unset, .unset, .unset, .unset] []))
  have hC0 : OCtx Z p s m meth c "com/example/notation_search/notationsearch/math/RowReleasePinLaw" "law" code maxLocals ret := ⟨hx, hZ, hby, hml, hown, hret, hlk, hnm⟩
  have N0 := Fr.nil n0
  obtain ⟨T1265, h1265, X1265, e1265, E1265, A1265, D1265, -, st1265⟩ := newO X0 hx hZ hown (own_w hw 0 rfl) (own_w hw 1 rfl) (own_w hw 2 rfl) e0 (g := (mkF m 0 #[.val (.int p1), .val (.int p2), .val (.int p3), .val (.int p4), .val (.int p5), .unset, .unset, .unset, .unset, .unset, .unset, .unset, .unset, .unset, .unset, .unset] [])) rfl (hb hby at_0) (by decide) (by decide)
  obtain ⟨cn, g1265⟩ : ∃ z, z = h0.size := ⟨_, rfl⟩
  rw [← g1265] at A1265 D1265 st1265
  have g_cn : n0 ≤ cn := Nat.le_trans Z0 (Nat.le_of_eq g1265.symm)
  have od1265 := O.ext E1265
  have sz1265 : n0 ≤ h1265.size := Nat.le_trans Z0 E1265.1
  refine own_st (st1265) ?_
  clear st1265 X0 e0 E1265 D1265 g1265
  show OFin p e below s _ _ _ (T1265.setTop (mkF m 3 #[.val (.int p1), .val (.int p2), .val (.int p3), .val (.int p4), .val (.int p5), .unset, .unset, .unset, .unset, .unset, .unset, .unset, .unset, .unset, .unset, .unset] [(.ref cn)]))
  refine own_st (fun _ kS => XS.dup X1265.here hx rfl (hb hby at_3) rfl rfl kS) ?_
  show OFin p e below s _ _ _ (T1265.setTop (mkF m 4 #[.val (.int p1), .val (.int p2), .val (.int p3), .val (.int p4), .val (.int p5), .unset, .unset, .unset, .unset, .unset, .unset, .unset, .unset, .unset, .unset, .unset] [(.ref cn), (.ref cn)]))
  obtain ⟨v1266, T1266, L1266, X1266, hQ1266, st1266⟩ := own_init X1265 hx hZ (y := (⟨"com/example/notation_search/notationsearch/math/SymbolCount", "<init>", "()V"⟩ : MethodName)) (rm := ⟨1, 0, 0, 12⟩) (W := 1) (a := cn) (argsL := []) (rest := [(.ref cn)]) rfl hown (own_w hw 3 rfl) (own_w hw 4 rfl) (own_w hw 2 rfl) (own_w hw 5 rfl) (rmI l Z a0 hw cn h1265) e1265 (g := (mkF m 4 #[.val (.int p1), .val (.int p2), .val (.int p3), .val (.int p4), .val (.int p5), .unset, .unset, .unset, .unset, .unset, .unset, .unset, .unset, .unset, .unset, .unset] [(.ref cn), (.ref cn)])) rfl (by rw [hml]; rfl) (lenOf own_pd0 rfl) rfl (by show 2 * 0 + _ ≤ _; exact Nat.le_of_eq rfl) (hb hby at_4) (by decide) (by decide) (by decide) (by decide)
  obtain ⟨rfl, e1266, rfl⟩ := hQ1266
  rw [List.append_nil] at X1266
  refine own_st (st1266) ?_
  clear st1266 X1265 e1265
  show OFin p e below s _ _ _ (T1266.setTop (mkF m 7 #[.val (.int p1), .val (.int p2), .val (.int p3), .val (.int p4), .val (.int p5), .unset, .unset, .unset, .unset, .unset, .unset, .unset, .unset, .unset, .unset, .unset] [(.ref cn)]))
  refine own_st (fun _ kS => XS.astore X1266.here hx rfl (hb hby at_7) rfl rfl (l' := #[.val (.int p1), .val (.int p2), .val (.int p3), .val (.int p4), .val (.int p5), .val (.ref cn), .unset, .unset, .unset, .unset, .unset, .unset, .unset, .unset, .unset, .unset]) rfl kS) ?_
  show OFin p e below s _ _ _ (T1266.setTop (mkF m 9 #[.val (.int p1), .val (.int p2), .val (.int p3), .val (.int p4), .val (.int p5), .val (.ref cn), .unset, .unset, .unset, .unset, .unset, .unset, .unset, .unset, .unset, .unset] []))
  obtain ⟨T1267, h1267, X1267, e1267, E1267, A1267, D1267, -, st1267⟩ := newO X1266 hx hZ hown (own_w hw 9 rfl) (own_w hw 10 rfl) (own_w hw 11 rfl) e1266 (g := (mkF m 9 #[.val (.int p1), .val (.int p2), .val (.int p3), .val (.int p4), .val (.int p5), .val (.ref cn), .unset, .unset, .unset, .unset, .unset, .unset, .unset, .unset, .unset, .unset] [])) rfl (hb hby at_9) (by decide) (by decide)
  obtain ⟨row, g1267⟩ : ∃ z, z = h1265.size := ⟨_, rfl⟩
  rw [← g1267] at A1267 D1267 st1267
  have ne_cn_row : cn ≠ row := Nat.ne_of_lt (Nat.lt_of_lt_of_le A1265.lt (Nat.le_of_eq g1267.symm))
  have g_row : n0 ≤ row := Nat.le_trans sz1265 (Nat.le_of_eq g1267.symm)
  have od1267 := od1265.ext E1267
  clear od1265
  have f1268 := A1265.ext E1267
  have f1269 : Fld Z h1267 row "com/example/notation_search/notationsearch/math/Row" "symbols" "Lcom/example/notation_search/notationsearch/math/SymbolCount;" .null := D1267 (Or.inr (own_w hw 17 rfl)) (ty := (.object "com/example/notation_search/notationsearch/math/SymbolCount")) (by decide)
  have f1270 : Fld Z h1267 row "com/example/notation_search/notationsearch/math/Row" "waiting" "Ljava/util/List;" .null := D1267 (Or.inl (own_w hw 35 rfl)) (ty := (.object "java/util/List")) (by decide)
  have f1271 : Fld Z h1267 row "com/example/notation_search/notationsearch/math/Row" "followed" "Ljava/util/List;" .null := D1267 (Or.inl (own_w hw 68 rfl)) (ty := (.object "java/util/List")) (by decide)
  have f1272 : Fld Z h1267 row "com/example/notation_search/notationsearch/math/Row" "first" "Lcom/example/notation_search/notationsearch/math/Symbol;" .null := D1267 (Or.inl (own_w hw 161 rfl)) (ty := (.object "com/example/notation_search/notationsearch/math/Symbol")) (by decide)
  have f1273 : Fld Z h1267 row "com/example/notation_search/notationsearch/math/Row" "base" "Lcom/example/notation_search/notationsearch/math/Symbol;" .null := D1267 (Or.inl (own_w hw 163 rfl)) (ty := (.object "com/example/notation_search/notationsearch/math/Symbol")) (by decide)
  have f1274 : Fld Z h1267 row "com/example/notation_search/notationsearch/math/Row" "last" "Lcom/example/notation_search/notationsearch/math/Symbol;" .null := D1267 (Or.inl (own_w hw 217 rfl)) (ty := (.object "com/example/notation_search/notationsearch/math/Symbol")) (by decide)
  have sz1267 : n0 ≤ h1267.size := Nat.le_trans sz1265 E1267.1
  clear sz1265
  refine own_st (st1267) ?_
  clear st1267 X1266 e1266 E1267 D1267 g1267
  show OFin p e below s _ _ _ (T1267.setTop (mkF m 12 #[.val (.int p1), .val (.int p2), .val (.int p3), .val (.int p4), .val (.int p5), .val (.ref cn), .unset, .unset, .unset, .unset, .unset, .unset, .unset, .unset, .unset, .unset] [(.ref row)]))
  refine own_st (fun _ kS => XS.dup X1267.here hx rfl (hb hby at_12) rfl rfl kS) ?_
  show OFin p e below s _ _ _ (T1267.setTop (mkF m 13 #[.val (.int p1), .val (.int p2), .val (.int p3), .val (.int p4), .val (.int p5), .val (.ref cn), .unset, .unset, .unset, .unset, .unset, .unset, .unset, .unset, .unset, .unset] [(.ref row), (.ref row)]))
  refine own_st (fun _ kS => XS.aload X1267.here hx rfl (hb hby at_13) rfl rfl kS) ?_
  show OFin p e below s _ _ _ (T1267.setTop (mkF m 15 #[.val (.int p1), .val (.int p2), .val (.int p3), .val (.int p4), .val (.int p5), .val (.ref cn), .unset, .unset, .unset, .unset, .unset, .unset, .unset, .unset, .unset, .unset] [(.ref cn), (.ref row), (.ref row)]))
  obtain ⟨v1275, T1275, L1275, X1275, hQ1275, st1275⟩ := own_init X1267 hx hZ (y := (⟨"com/example/notation_search/notationsearch/math/Row", "<init>", "(Lcom/example/notation_search/notationsearch/math/SymbolCount;)V"⟩ : MethodName)) (rm := ⟨1, 0, 0, 12⟩) (W := 1) (a := row) (argsL := [(.ref cn)]) (rest := [(.ref row)]) rfl hown (own_w hw 12 rfl) (own_w hw 13 rfl) (own_w hw 11 rfl) (own_w hw 14 rfl) (rmRow l Z a0 hw row cn h1267 n0 A1267 f1269 f1272 f1274 f1273 f1271 f1270 g_row) e1267 (g := (mkF m 15 #[.val (.int p1), .val (.int p2), .val (.int p3), .val (.int p4), .val (.int p5), .val (.ref cn), .unset, .unset, .unset, .unset, .unset, .unset, .unset, .unset, .unset, .unset] [(.ref cn), (.ref row), (.ref row)])) rfl (by rw [hml]; rfl) (lenOf own_pd18 rfl) rfl (by show 2 * 0 + _ ≤ _; exact Nat.le_of_eq rfl) (hb hby at_15) (by decide) (by decide) (by decide) (by decide)
  obtain ⟨rfl, N1275, K1275, B1275_0⟩ := hQ1275
  have fr1275 := Fr.app N0 N1275
  clear N0 N1275
  have od1275 := od1267.keep K1275 (allS g_row all0)
  clear od1267
  have f1276 := f1268.keep K1275
  clear f1268
  have f1277 := A1267.keep K1275
  clear f1269
  clear f1270
  clear f1271
  clear f1272
  clear f1273
  clear f1274
  have sz1275 : n0 ≤ T1275.heap.size := Nat.le_trans sz1267 K1275.1
  clear sz1267
  clear K1275
  obtain ⟨u1284, u1285, u1286, u1287, u1288, u1289, u1290⟩ := B1275_0
  refine own_st (st1275) ?_
  clear st1275 X1267 e1267
  show OFin p e below s _ _ _ (T1275.setTop (mkF m 18 #[.val (.int p1), .val (.int p2), .val (.int p3), .val (.int p4), .val (.int p5), .val (.ref cn), .unset, .unset, .unset, .unset, .unset, .unset, .unset, .unset, .unset, .unset] [(.ref row)]))
  refine own_st (fun _ kS => XS.astore X1275.here hx rfl (hb hby at_18) rfl rfl (l' := #[.val (.int p1), .val (.int p2), .val (.int p3), .val (.int p4), .val (.int p5), .val (.ref cn), .val (.ref row), .unset, .unset, .unset, .unset, .unset, .unset, .unset, .unset, .unset]) rfl kS) ?_
  show OFin p e below s _ _ _ (T1275.setTop (mkF m 20 #[.val (.int p1), .val (.int p2), .val (.int p3), .val (.int p4), .val (.int p5), .val (.ref cn), .val (.ref row), .unset, .unset, .unset, .unset, .unset, .unset, .unset, .unset, .unset] []))
  obtain ⟨T1291, h1291, X1291, e1291, E1291, A1291, D1291, -, st1291⟩ := newO X1275 hx hZ hown (own_w hw 9 rfl) (own_w hw 10 rfl) (own_w hw 11 rfl) rfl (g := (mkF m 20 #[.val (.int p1), .val (.int p2), .val (.int p3), .val (.int p4), .val (.int p5), .val (.ref cn), .val (.ref row), .unset, .unset, .unset, .unset, .unset, .unset, .unset, .unset, .unset] [])) rfl (hb hby at_20) (by decide) (by decide)
  obtain ⟨r1, g1291⟩ : ∃ z, z = T1275.heap.size := ⟨_, rfl⟩
  rw [← g1291] at A1291 D1291 st1291
  have ne_cn_r1 : cn ≠ r1 := Nat.ne_of_lt (Nat.lt_of_lt_of_le f1276.lt (Nat.le_of_eq g1291.symm))
  have ne_row_r1 : row ≠ r1 := Nat.ne_of_lt (Nat.lt_of_lt_of_le u1284.lt (Nat.le_of_eq g1291.symm))
  have g_r1 : n0 ≤ r1 := Nat.le_trans sz1275 (Nat.le_of_eq g1291.symm)
  have od1291 := od1275.ext E1291
  clear od1275
  have f1292 := f1276.ext E1291
  clear f1276
  have f1293 := u1284.ext E1291
  clear u1284
  have f1294 := u1285.ext E1291
  clear u1285
  have f1295 := u1286.ext E1291
  clear u1286
  have f1296 := u1287.ext E1291
  clear u1287
  have f1297 := u1288.ext E1291
  clear u1288
  have f1298 := u1289.ext E1291
  clear u1289
  have f1299 := u1290.ext E1291
  clear u1290
  have f1300 : Fld Z h1291 r1 "com/example/notation_search/notationsearch/math/Row" "symbols" "Lcom/example/notation_search/notationsearch/math/SymbolCount;" .null := D1291 (Or.inr (own_w hw 17 rfl)) (ty := (.object "com/example/notation_search/notationsearch/math/SymbolCount")) (by decide)
  have f1301 : Fld Z h1291 r1 "com/example/notation_search/notationsearch/math/Row" "waiting" "Ljava/util/List;" .null := D1291 (Or.inl (own_w hw 35 rfl)) (ty := (.object "java/util/List")) (by decide)
  have f1302 : Fld Z h1291 r1 "com/example/notation_search/notationsearch/math/Row" "followed" "Ljava/util/List;" .null := D1291 (Or.inl (own_w hw 68 rfl)) (ty := (.object "java/util/List")) (by decide)
  have f1303 : Fld Z h1291 r1 "com/example/notation_search/notationsearch/math/Row" "first" "Lcom/example/notation_search/notationsearch/math/Symbol;" .null := D1291 (Or.inl (own_w hw 161 rfl)) (ty := (.object "com/example/notation_search/notationsearch/math/Symbol")) (by decide)
  have f1304 : Fld Z h1291 r1 "com/example/notation_search/notationsearch/math/Row" "base" "Lcom/example/notation_search/notationsearch/math/Symbol;" .null := D1291 (Or.inl (own_w hw 163 rfl)) (ty := (.object "com/example/notation_search/notationsearch/math/Symbol")) (by decide)
  have f1305 : Fld Z h1291 r1 "com/example/notation_search/notationsearch/math/Row" "last" "Lcom/example/notation_search/notationsearch/math/Symbol;" .null := D1291 (Or.inl (own_w hw 217 rfl)) (ty := (.object "com/example/notation_search/notationsearch/math/Symbol")) (by decide)
  have sz1291 : n0 ≤ h1291.size := Nat.le_trans sz1275 E1291.1
  clear sz1275
  refine own_st (st1291) ?_
  clear st1291 X1275 E1291 D1291 g1291
  show OFin p e below s _ _ _ (T1291.setTop (mkF m 23 #[.val (.int p1), .val (.int p2), .val (.int p3), .val (.int p4), .val (.int p5), .val (.ref cn), .val (.ref row), .unset, .unset, .unset, .unset, .unset, .unset, .unset, .unset, .unset] [(.ref r1)]))
  refine own_st (fun _ kS => XS.dup X1291.here hx rfl (hb hby at_23) rfl rfl kS) ?_
  show OFin p e below s _ _ _ (T1291.setTop (mkF m 24 #[.val (.int p1), .val (.int p2), .val (.int p3), .val (.int p4), .val (.int p5), .val (.ref cn), .val (.ref row), .unset, .unset, .unset, .unset, .unset, .unset, .unset, .unset, .unset] [(.ref r1), (.ref r1)]))
  refine own_st (fun _ kS => XS.aload X1291.here hx rfl (hb hby at_24) rfl rfl kS) ?_
  show OFin p e below s _ _ _ (T1291.setTop (mkF m 26 #[.val (.int p1), .val (.int p2), .val (.int p3), .val (.int p4), .val (.int p5), .val (.ref cn), .val (.ref row), .unset, .unset, .unset, .unset, .unset, .unset, .unset, .unset, .unset] [(.ref cn), (.ref r1), (.ref r1)]))
  obtain ⟨v1306, T1306, L1306, X1306, hQ1306, st1306⟩ := own_init X1291 hx hZ (y := (⟨"com/example/notation_search/notationsearch/math/Row", "<init>", "(Lcom/example/notation_search/notationsearch/math/SymbolCount;)V"⟩ : MethodName)) (rm := ⟨1, 0, 0, 12⟩) (W := 1) (a := r1) (argsL := [(.ref cn)]) (rest := [(.ref r1)]) rfl hown (own_w hw 12 rfl) (own_w hw 13 rfl) (own_w hw 11 rfl) (own_w hw 14 rfl) (rmRow l Z a0 hw r1 cn h1291 n0 A1291 f1300 f1303 f1305 f1304 f1302 f1301 g_r1) e1291 (g := (mkF m 26 #[.val (.int p1), .val (.int p2), .val (.int p3), .val (.int p4), .val (.int p5), .val (.ref cn), .val (.ref row), .unset, .unset, .unset, .unset, .unset, .unset, .unset, .unset, .unset] [(.ref cn), (.ref r1), (.ref r1)])) rfl (by rw [hml]; rfl) (lenOf own_pd18 rfl) rfl (by show 2 * 0 + _ ≤ _; exact Nat.le_of_eq rfl) (hb hby at_26) (by decide) (by decide) (by decide) (by decide)
  obtain ⟨rfl, N1306, K1306, B1306_0⟩ := hQ1306
  have fr1306 := Fr.app fr1275 N1306
  clear fr1275 N1306
  have od1306 := od1291.keep K1306 (allS g_r1 all0)
  clear od1291
  have f1307 := f1292.keep K1306
  clear f1292
  have f1308 := f1293.keep K1306
  clear f1293
  have f1309 := f1294.keep K1306 (ninS ne_row_r1 nin0)
  clear f1294
  have f1310 := f1295.keep K1306 (ninS ne_row_r1 nin0)
  clear f1295
  have f1311 := f1296.keep K1306 (ninS ne_row_r1 nin0)
  clear f1296
  have f1312 := f1297.keep K1306 (ninS ne_row_r1 nin0)
  clear f1297
  have f1313 := f1298.keep K1306 (ninS ne_row_r1 nin0)
  clear f1298
  have f1314 := f1299.keep K1306 (ninS ne_row_r1 nin0)
  clear f1299
  have f1315 := A1291.keep K1306
  clear f1300
  clear f1301
  clear f1302
  clear f1303
  clear f1304
  clear f1305
  have sz1306 : n0 ≤ T1306.heap.size := Nat.le_trans sz1291 K1306.1
  clear sz1291
  clear K1306
  obtain ⟨u1322, u1323, u1324, u1325, u1326, u1327, u1328⟩ := B1306_0
  refine own_st (st1306) ?_
  clear st1306 X1291 e1291
  show OFin p e below s _ _ _ (T1306.setTop (mkF m 29 #[.val (.int p1), .val (.int p2), .val (.int p3), .val (.int p4), .val (.int p5), .val (.ref cn), .val (.ref row), .unset, .unset, .unset, .unset, .unset, .unset, .unset, .unset, .unset] [(.ref r1)]))
  refine own_st (fun _ kS => XS.astore X1306.here hx rfl (hb hby at_29) rfl rfl (l' := #[.val (.int p1), .val (.int p2), .val (.int p3), .val (.int p4), .val (.int p5), .val (.ref cn), .val (.ref row), .val (.ref r1), .unset, .unset, .unset, .unset, .unset, .unset, .unset, .unset]) rfl kS) ?_
  show OFin p e below s _ _ _ (T1306.setTop (mkF m 31 #[.val (.int p1), .val (.int p2), .val (.int p3), .val (.int p4), .val (.int p5), .val (.ref cn), .val (.ref row), .val (.ref r1), .unset, .unset, .unset, .unset, .unset, .unset, .unset, .unset] []))
  obtain ⟨T1329, h1329, X1329, e1329, E1329, A1329, D1329, -, st1329⟩ := newO X1306 hx hZ hown (own_w hw 9 rfl) (own_w hw 10 rfl) (own_w hw 11 rfl) rfl (g := (mkF m 31 #[.val (.int p1), .val (.int p2), .val (.int p3), .val (.int p4), .val (.int p5), .val (.ref cn), .val (.ref row), .val (.ref r1), .unset, .unset, .unset, .unset, .unset, .unset, .unset, .unset] [])) rfl (hb hby at_31) (by decide) (by decide)
  obtain ⟨r2, g1329⟩ : ∃ z, z = T1306.heap.size := ⟨_, rfl⟩
  rw [← g1329] at A1329 D1329 st1329
  have ne_cn_r2 : cn ≠ r2 := Nat.ne_of_lt (Nat.lt_of_lt_of_le f1307.lt (Nat.le_of_eq g1329.symm))
  have ne_r1_r2 : r1 ≠ r2 := Nat.ne_of_lt (Nat.lt_of_lt_of_le u1322.lt (Nat.le_of_eq g1329.symm))
  have ne_row_r2 : row ≠ r2 := Nat.ne_of_lt (Nat.lt_of_lt_of_le f1308.lt (Nat.le_of_eq g1329.symm))
  have g_r2 : n0 ≤ r2 := Nat.le_trans sz1306 (Nat.le_of_eq g1329.symm)
  have od1329 := od1306.ext E1329
  clear od1306
  have f1330 := f1307.ext E1329
  clear f1307
  have f1331 := f1308.ext E1329
  clear f1308
  have f1332 := f1309.ext E1329
  clear f1309
  have f1333 := f1310.ext E1329
  clear f1310
  have f1334 := f1311.ext E1329
  clear f1311
  have f1335 := f1312.ext E1329
  clear f1312
  have f1336 := f1313.ext E1329
  clear f1313
  have f1337 := f1314.ext E1329
  clear f1314
  have f1338 := u1322.ext E1329
  clear u1322
  have f1339 := u1323.ext E1329
  clear u1323
  have f1340 := u1324.ext E1329
  clear u1324
  have f1341 := u1325.ext E1329
  clear u1325
  have f1342 := u1326.ext E1329
  clear u1326
  have f1343 := u1327.ext E1329
  clear u1327
  have f1344 := u1328.ext E1329
  clear u1328
  have f1345 : Fld Z h1329 r2 "com/example/notation_search/notationsearch/math/Row" "symbols" "Lcom/example/notation_search/notationsearch/math/SymbolCount;" .null := D1329 (Or.inr (own_w hw 17 rfl)) (ty := (.object "com/example/notation_search/notationsearch/math/SymbolCount")) (by decide)
  have f1346 : Fld Z h1329 r2 "com/example/notation_search/notationsearch/math/Row" "waiting" "Ljava/util/List;" .null := D1329 (Or.inl (own_w hw 35 rfl)) (ty := (.object "java/util/List")) (by decide)
  have f1347 : Fld Z h1329 r2 "com/example/notation_search/notationsearch/math/Row" "followed" "Ljava/util/List;" .null := D1329 (Or.inl (own_w hw 68 rfl)) (ty := (.object "java/util/List")) (by decide)
  have f1348 : Fld Z h1329 r2 "com/example/notation_search/notationsearch/math/Row" "first" "Lcom/example/notation_search/notationsearch/math/Symbol;" .null := D1329 (Or.inl (own_w hw 161 rfl)) (ty := (.object "com/example/notation_search/notationsearch/math/Symbol")) (by decide)
  have f1349 : Fld Z h1329 r2 "com/example/notation_search/notationsearch/math/Row" "base" "Lcom/example/notation_search/notationsearch/math/Symbol;" .null := D1329 (Or.inl (own_w hw 163 rfl)) (ty := (.object "com/example/notation_search/notationsearch/math/Symbol")) (by decide)
  have f1350 : Fld Z h1329 r2 "com/example/notation_search/notationsearch/math/Row" "last" "Lcom/example/notation_search/notationsearch/math/Symbol;" .null := D1329 (Or.inl (own_w hw 217 rfl)) (ty := (.object "com/example/notation_search/notationsearch/math/Symbol")) (by decide)
  have sz1329 : n0 ≤ h1329.size := Nat.le_trans sz1306 E1329.1
  clear sz1306
  refine own_st (st1329) ?_
  clear st1329 X1306 E1329 D1329 g1329
  show OFin p e below s _ _ _ (T1329.setTop (mkF m 34 #[.val (.int p1), .val (.int p2), .val (.int p3), .val (.int p4), .val (.int p5), .val (.ref cn), .val (.ref row), .val (.ref r1), .unset, .unset, .unset, .unset, .unset, .unset, .unset, .unset] [(.ref r2)]))
  refine own_st (fun _ kS => XS.dup X1329.here hx rfl (hb hby at_34) rfl rfl kS) ?_
  show OFin p e below s _ _ _ (T1329.setTop (mkF m 35 #[.val (.int p1), .val (.int p2), .val (.int p3), .val (.int p4), .val (.int p5), .val (.ref cn), .val (.ref row), .val (.ref r1), .unset, .unset, .unset, .unset, .unset, .unset, .unset, .unset] [(.ref r2), (.ref r2)]))
  refine own_st (fun _ kS => XS.aload X1329.here hx rfl (hb hby at_35) rfl rfl kS) ?_
  show OFin p e below s _ _ _ (T1329.setTop (mkF m 37 #[.val (.int p1), .val (.int p2), .val (.int p3), .val (.int p4), .val (.int p5), .val (.ref cn), .val (.ref row), .val (.ref r1), .unset, .unset, .unset, .unset, .unset, .unset, .unset, .unset] [(.ref cn), (.ref r2), (.ref r2)]))
  obtain ⟨v1351, T1351, L1351, X1351, hQ1351, st1351⟩ := own_init X1329 hx hZ (y := (⟨"com/example/notation_search/notationsearch/math/Row", "<init>", "(Lcom/example/notation_search/notationsearch/math/SymbolCount;)V"⟩ : MethodName)) (rm := ⟨1, 0, 0, 12⟩) (W := 1) (a := r2) (argsL := [(.ref cn)]) (rest := [(.ref r2)]) rfl hown (own_w hw 12 rfl) (own_w hw 13 rfl) (own_w hw 11 rfl) (own_w hw 14 rfl) (rmRow l Z a0 hw r2 cn h1329 n0 A1329 f1345 f1348 f1350 f1349 f1347 f1346 g_r2) e1329 (g := (mkF m 37 #[.val (.int p1), .val (.int p2), .val (.int p3), .val (.int p4), .val (.int p5), .val (.ref cn), .val (.ref row), .val (.ref r1), .unset, .unset, .unset, .unset, .unset, .unset, .unset, .unset] [(.ref cn), (.ref r2), (.ref r2)])) rfl (by rw [hml]; rfl) (lenOf own_pd18 rfl) rfl (by show 2 * 0 + _ ≤ _; exact Nat.le_of_eq rfl) (hb hby at_37) (by decide) (by decide) (by decide) (by decide)
  obtain ⟨rfl, N1351, K1351, B1351_0⟩ := hQ1351
  have fr1351 := Fr.app fr1306 N1351
  clear fr1306 N1351
  have od1351 := od1329.keep K1351 (allS g_r2 all0)
  clear od1329
  have f1352 := f1330.keep K1351
  clear f1330
  have f1353 := f1331.keep K1351
  clear f1331
  have f1354 := f1332.keep K1351 (ninS ne_row_r2 nin0)
  clear f1332
  have f1355 := f1333.keep K1351 (ninS ne_row_r2 nin0)
  clear f1333
  have f1356 := f1334.keep K1351 (ninS ne_row_r2 nin0)
  clear f1334
  have f1357 := f1335.keep K1351 (ninS ne_row_r2 nin0)
  clear f1335
  have f1358 := f1336.keep K1351 (ninS ne_row_r2 nin0)
  clear f1336
  have f1359 := f1337.keep K1351 (ninS ne_row_r2 nin0)
  clear f1337
  have f1360 := f1338.keep K1351
  clear f1338
  have f1361 := f1339.keep K1351 (ninS ne_r1_r2 nin0)
  clear f1339
  have f1362 := f1340.keep K1351 (ninS ne_r1_r2 nin0)
  clear f1340
  have f1363 := f1341.keep K1351 (ninS ne_r1_r2 nin0)
  clear f1341
  have f1364 := f1342.keep K1351 (ninS ne_r1_r2 nin0)
  clear f1342
  have f1365 := f1343.keep K1351 (ninS ne_r1_r2 nin0)
  clear f1343
  have f1366 := f1344.keep K1351 (ninS ne_r1_r2 nin0)
  clear f1344
  have f1367 := A1329.keep K1351
  clear f1345
  clear f1346
  clear f1347
  clear f1348
  clear f1349
  clear f1350
  have sz1351 : n0 ≤ T1351.heap.size := Nat.le_trans sz1329 K1351.1
  clear sz1329
  clear K1351
  obtain ⟨u1374, u1375, u1376, u1377, u1378, u1379, u1380⟩ := B1351_0
  refine own_st (st1351) ?_
  clear st1351 X1329 e1329
  show OFin p e below s _ _ _ (T1351.setTop (mkF m 40 #[.val (.int p1), .val (.int p2), .val (.int p3), .val (.int p4), .val (.int p5), .val (.ref cn), .val (.ref row), .val (.ref r1), .unset, .unset, .unset, .unset, .unset, .unset, .unset, .unset] [(.ref r2)]))
  refine own_st (fun _ kS => XS.astore X1351.here hx rfl (hb hby at_40) rfl rfl (l' := #[.val (.int p1), .val (.int p2), .val (.int p3), .val (.int p4), .val (.int p5), .val (.ref cn), .val (.ref row), .val (.ref r1), .val (.ref r2), .unset, .unset, .unset, .unset, .unset, .unset, .unset]) rfl kS) ?_
  show OFin p e below s _ _ _ (T1351.setTop (mkF m 42 #[.val (.int p1), .val (.int p2), .val (.int p3), .val (.int p4), .val (.int p5), .val (.ref cn), .val (.ref row), .val (.ref r1), .val (.ref r2), .unset, .unset, .unset, .unset, .unset, .unset, .unset] []))
  refine own_st (fun _ kS => XS.iloadN X1351.here hx rfl (hb hby at_42) rfl kS) ?_
  show OFin p e below s _ _ _ (T1351.setTop (mkF m 43 #[.val (.int p1), .val (.int p2), .val (.int p3), .val (.int p4), .val (.int p5), .val (.ref cn), .val (.ref row), .val (.ref r1), .val (.ref r2), .unset, .unset, .unset, .unset, .unset, .unset, .unset] [(.int p1)]))
  refine own_st (fun _ kS => XS.iconst X1351.here hx rfl (hb hby at_43) kS) ?_
  show OFin p e below s _ _ _ (T1351.setTop (mkF m 44 #[.val (.int p1), .val (.int p2), .val (.int p3), .val (.int p4), .val (.int p5), .val (.ref cn), .val (.ref row), .val (.ref r1), .val (.ref r2), .unset, .unset, .unset, .unset, .unset, .unset, .unset] [(.int (3 : Int32)), (.int p1)]))
  refine own_st (fun _ kS => XS.iand X1351.here hx rfl (hb hby at_44) rfl kS) ?_
  show OFin p e below s _ _ _ (T1351.setTop (mkF m 45 #[.val (.int p1), .val (.int p2), .val (.int p3), .val (.int p4), .val (.int p5), .val (.ref cn), .val (.ref row), .val (.ref r1), .val (.ref r2), .unset, .unset, .unset, .unset, .unset, .unset, .unset] [(.int (p1 &&& (3 : Int32)))]))
  refine own_st (fun _ kS => XS.istore X1351.here hx rfl (hb hby at_45) rfl (l' := #[.val (.int p1), .val (.int p2), .val (.int p3), .val (.int p4), .val (.int p5), .val (.ref cn), .val (.ref row), .val (.ref r1), .val (.ref r2), .val (.int (p1 &&& (3 : Int32))), .unset, .unset, .unset, .unset, .unset, .unset]) rfl kS) ?_
  show OFin p e below s _ _ _ (T1351.setTop (mkF m 47 #[.val (.int p1), .val (.int p2), .val (.int p3), .val (.int p4), .val (.int p5), .val (.ref cn), .val (.ref row), .val (.ref r1), .val (.ref r2), .val (.int (p1 &&& (3 : Int32))), .unset, .unset, .unset, .unset, .unset, .unset] []))
  generalize hk : (p1 &&& (3 : Int32)) = k
  show OFin p e below s _ _ _ (T1351.setTop (mkF m 47 #[.val (.int p1), .val (.int p2), .val (.int p3), .val (.int p4), .val (.int p5), .val (.ref cn), .val (.ref row), .val (.ref r1), .val (.ref r2), .val (.int k), .unset, .unset, .unset, .unset, .unset, .unset] []))
  refine own_st (fun _ kS => XS.iloadN X1351.here hx rfl (hb hby at_47) rfl kS) ?_
  show OFin p e below s _ _ _ (T1351.setTop (mkF m 48 #[.val (.int p1), .val (.int p2), .val (.int p3), .val (.int p4), .val (.int p5), .val (.ref cn), .val (.ref row), .val (.ref r1), .val (.ref r2), .val (.int k), .unset, .unset, .unset, .unset, .unset, .unset] [(.int p2)]))
  obtain ⟨v1381, T1381, L1381, X1381, hQ1381, st1381⟩ := own_static X1351 hx hZ (y := (⟨"com/example/notation_search/notationsearch/math/RowReleasePinLaw", "relation", "(I)Lcom/example/notation_search/notationsearch/math/Relation;"⟩ : MethodName)) (rm := ⟨0, 0, 0, 0⟩) (W := 0) (argsL := [(.int p2)]) (rest := []) hown (own_w hw 18 rfl) (own_w hw 19 rfl) (own_w hw 20 rfl) (own_w hw 21 rfl) (rmRel l Z a0 hw p2 T1351.heap n0 x0 x1 x2 x3 x4 x5 x6 x7 S_0 S_1 S_2 S_3 S_4 S_5 S_6 S_7 od1351) rfl (g := (mkF m 48 #[.val (.int p1), .val (.int p2), .val (.int p3), .val (.int p4), .val (.int p5), .val (.ref cn), .val (.ref row), .val (.ref r1), .val (.ref r2), .val (.int k), .unset, .unset, .unset, .unset, .unset, .unset] [(.int p2)])) rfl (by rw [hml]; rfl) (lenOf own_pd19 rfl) rfl (by show 2 * 0 + _ ≤ _; exact Nat.le_of_eq rfl) (hb hby at_48) (by decide) (by decide) (by decide) (by decide)
  obtain ⟨ra, rfl, e1381, rfl⟩ := hQ1381
  rw [List.append_nil] at X1381
  refine own_st (st1381) ?_
  clear st1381 X1351
  show OFin p e below s _ _ _ (T1381.setTop (mkF m 51 #[.val (.int p1), .val (.int p2), .val (.int p3), .val (.int p4), .val (.int p5), .val (.ref cn), .val (.ref row), .val (.ref r1), .val (.ref r2), .val (.int k), .unset, .unset, .unset, .unset, .unset, .unset] [(.ref ra)]))
  refine own_st (fun _ kS => XS.astore X1381.here hx rfl (hb hby at_51) rfl rfl (l' := #[.val (.int p1), .val (.int p2), .val (.int p3), .val (.int p4), .val (.int p5), .val (.ref cn), .val (.ref row), .val (.ref r1), .val (.ref r2), .val (.int k), .val (.ref ra), .unset, .unset, .unset, .unset, .unset]) rfl kS) ?_
  show OFin p e below s _ _ _ (T1381.setTop (mkF m 53 #[.val (.int p1), .val (.int p2), .val (.int p3), .val (.int p4), .val (.int p5), .val (.ref cn), .val (.ref row), .val (.ref r1), .val (.ref r2), .val (.int k), .val (.ref ra), .unset, .unset, .unset, .unset, .unset] []))
  refine own_st (fun _ kS => XS.iloadN X1381.here hx rfl (hb hby at_53) rfl kS) ?_
  show OFin p e below s _ _ _ (T1381.setTop (mkF m 54 #[.val (.int p1), .val (.int p2), .val (.int p3), .val (.int p4), .val (.int p5), .val (.ref cn), .val (.ref row), .val (.ref r1), .val (.ref r2), .val (.int k), .val (.ref ra), .unset, .unset, .unset, .unset, .unset] [(.int p3)]))
  obtain ⟨v1382, T1382, L1382, X1382, hQ1382, st1382⟩ := own_static X1381 hx hZ (y := (⟨"com/example/notation_search/notationsearch/math/RowReleasePinLaw", "relation", "(I)Lcom/example/notation_search/notationsearch/math/Relation;"⟩ : MethodName)) (rm := ⟨0, 0, 0, 0⟩) (W := 0) (argsL := [(.int p3)]) (rest := []) hown (own_w hw 18 rfl) (own_w hw 19 rfl) (own_w hw 20 rfl) (own_w hw 21 rfl) (rmRel l Z a0 hw p3 T1351.heap n0 x0 x1 x2 x3 x4 x5 x6 x7 S_0 S_1 S_2 S_3 S_4 S_5 S_6 S_7 od1351) e1381 (g := (mkF m 54 #[.val (.int p1), .val (.int p2), .val (.int p3), .val (.int p4), .val (.int p5), .val (.ref cn), .val (.ref row), .val (.ref r1), .val (.ref r2), .val (.int k), .val (.ref ra), .unset, .unset, .unset, .unset, .unset] [(.int p3)])) rfl (by rw [hml]; rfl) (lenOf own_pd19 rfl) rfl (by show 2 * 0 + _ ≤ _; exact Nat.le_of_eq rfl) (hb hby at_54) (by decide) (by decide) (by decide) (by decide)
  obtain ⟨rb, rfl, e1382, rfl⟩ := hQ1382
  rw [List.append_nil] at X1382
  refine own_st (st1382) ?_
  clear st1382 X1381 e1381
  show OFin p e below s _ _ _ (T1382.setTop (mkF m 57 #[.val (.int p1), .val (.int p2), .val (.int p3), .val (.int p4), .val (.int p5), .val (.ref cn), .val (.ref row), .val (.ref r1), .val (.ref r2), .val (.int k), .val (.ref ra), .unset, .unset, .unset, .unset, .unset] [(.ref rb)]))
  refine own_st (fun _ kS => XS.astore X1382.here hx rfl (hb hby at_57) rfl rfl (l' := #[.val (.int p1), .val (.int p2), .val (.int p3), .val (.int p4), .val (.int p5), .val (.ref cn), .val (.ref row), .val (.ref r1), .val (.ref r2), .val (.int k), .val (.ref ra), .val (.ref rb), .unset, .unset, .unset, .unset]) rfl kS) ?_
  show OFin p e below s _ _ _ (T1382.setTop (mkF m 59 #[.val (.int p1), .val (.int p2), .val (.int p3), .val (.int p4), .val (.int p5), .val (.ref cn), .val (.ref row), .val (.ref r1), .val (.ref r2), .val (.int k), .val (.ref ra), .val (.ref rb), .unset, .unset, .unset, .unset] []))
  refine own_st (fun _ kS => XS.iloadN X1382.here hx rfl (hb hby at_59) rfl kS) ?_
  show OFin p e below s _ _ _ (T1382.setTop (mkF m 60 #[.val (.int p1), .val (.int p2), .val (.int p3), .val (.int p4), .val (.int p5), .val (.ref cn), .val (.ref row), .val (.ref r1), .val (.ref r2), .val (.int k), .val (.ref ra), .val (.ref rb), .unset, .unset, .unset, .unset] [(.int p4)]))
  obtain ⟨v1383, T1383, L1383, X1383, hQ1383, st1383⟩ := own_static X1382 hx hZ (y := (⟨"com/example/notation_search/notationsearch/math/RowReleasePinLaw", "relation", "(I)Lcom/example/notation_search/notationsearch/math/Relation;"⟩ : MethodName)) (rm := ⟨0, 0, 0, 0⟩) (W := 0) (argsL := [(.int p4)]) (rest := []) hown (own_w hw 18 rfl) (own_w hw 19 rfl) (own_w hw 20 rfl) (own_w hw 21 rfl) (rmRel l Z a0 hw p4 T1351.heap n0 x0 x1 x2 x3 x4 x5 x6 x7 S_0 S_1 S_2 S_3 S_4 S_5 S_6 S_7 od1351) e1382 (g := (mkF m 60 #[.val (.int p1), .val (.int p2), .val (.int p3), .val (.int p4), .val (.int p5), .val (.ref cn), .val (.ref row), .val (.ref r1), .val (.ref r2), .val (.int k), .val (.ref ra), .val (.ref rb), .unset, .unset, .unset, .unset] [(.int p4)])) rfl (by rw [hml]; rfl) (lenOf own_pd19 rfl) rfl (by show 2 * 0 + _ ≤ _; exact Nat.le_of_eq rfl) (hb hby at_60) (by decide) (by decide) (by decide) (by decide)
  obtain ⟨rc, rfl, e1383, rfl⟩ := hQ1383
  rw [List.append_nil] at X1383
  refine own_st (st1383) ?_
  clear st1383 X1382 e1382
  show OFin p e below s _ _ _ (T1383.setTop (mkF m 63 #[.val (.int p1), .val (.int p2), .val (.int p3), .val (.int p4), .val (.int p5), .val (.ref cn), .val (.ref row), .val (.ref r1), .val (.ref r2), .val (.int k), .val (.ref ra), .val (.ref rb), .unset, .unset, .unset, .unset] [(.ref rc)]))
  refine own_st (fun _ kS => XS.astore X1383.here hx rfl (hb hby at_63) rfl rfl (l' := #[.val (.int p1), .val (.int p2), .val (.int p3), .val (.int p4), .val (.int p5), .val (.ref cn), .val (.ref row), .val (.ref r1), .val (.ref r2), .val (.int k), .val (.ref ra), .val (.ref rb), .val (.ref rc), .unset, .unset, .unset]) rfl kS) ?_
  show OFin p e below s _ _ _ (T1383.setTop (mkF m 65 #[.val (.int p1), .val (.int p2), .val (.int p3), .val (.int p4), .val (.int p5), .val (.ref cn), .val (.ref row), .val (.ref r1), .val (.ref r2), .val (.int k), .val (.ref ra), .val (.ref rb), .val (.ref rc), .unset, .unset, .unset] []))
  rcases own_k4 p1 with c | c | c | c
  · obtain rfl : k = (0 : Int32) := hk.symm.trans c
    exact own_a0 hw hC0 X1383 e1383 n0 sz1351 p1 p2 p3 p4 p5 cn row r1 r2 ra rb rc el em dc S_el E_el F_el A_em S_dc A_dc fr1351 od1351 g_row ⟨f1353, f1354, f1355, f1356, f1357, f1358, f1359⟩ u1376 ne_row_r2 rfl rfl
  · obtain rfl : k = (1 : Int32) := hk.symm.trans c
    exact own_a1 hw hC0 X1383 e1383 n0 sz1351 p1 p2 p3 p4 p5 cn row r1 r2 ra rb rc el em dc S_el E_el F_el A_em S_dc A_dc fr1351 od1351 g_row ⟨f1353, f1354, f1355, f1356, f1357, f1358, f1359⟩ u1376 ne_row_r2 rfl rfl
  · obtain rfl : k = (2 : Int32) := hk.symm.trans c
    exact own_a2 hw hC0 X1383 e1383 n0 sz1351 p1 p2 p3 p4 p5 cn row r1 r2 ra rb rc el em dc S_el E_el F_el A_em S_dc A_dc fr1351 od1351 g_row ⟨f1353, f1354, f1355, f1356, f1357, f1358, f1359⟩ u1376 ne_row_r2 rfl rfl
  · obtain rfl : k = (3 : Int32) := hk.symm.trans c
    exact own_a3 hw hC0 X1383 e1383 n0 sz1351 p1 p2 p3 p4 p5 cn row r1 r2 ra rb rc el em dc S_el E_el F_el A_em S_dc A_dc fr1351 od1351 g_row ⟨f1353, f1354, f1355, f1356, f1357, f1358, f1359⟩ u1376 ne_row_r2 rfl rfl
set_option maxRecDepth 65536 in
set_option maxHeartbeats 40000000 in
theorem comes_1 {Post : Tables → Env → Array Value → State → Outcome → State → Prop} (hpost : ∀ tb e args s v u, (limb_1_1.after args s (.returned v) u = true ∧ limb_1_2.after args s (.returned v) u = true ∧ True) → FrameEnd s (.returned v) u (Jvm.fieldLocs frame_1_writes args s ++ Jvm.arrayLocs frame_1_arrays args s ++ Jvm.staticLocs frame_1_statics s) 32 192 → Post tb e args s (.returned v) u) :
    ArmFor flags0 classFile x code maxLocals ret World_1 tables_1 room_1 Calls_1 rest_1 Pre_1 Post := by
  intro l hfl _ _ p e ha hc hk s m args below hf hA hF happ hP
  obtain ⟨hcalls, hrest, hpre⟩ := hP
  obtain ⟨-, -, -, hnamed, -, -, -, hat⟩ := (Spec.applies_iff hf).mp happ
  obtain ⟨hg, hn⟩ := and_e (Cond.before_iff.mp (show (Jvm.Cond.and given_1 narrow_1).before args s = true from hpre))
  obtain ⟨gc, hg0⟩ := and_e hg
  obtain ⟨ga0, hg1⟩ := and_e hg0
  obtain ⟨ga1, hg2⟩ := and_e hg1
  obtain ⟨ga2, hg3⟩ := and_e hg2
  obtain ⟨ga3, hg4⟩ := and_e hg3
  obtain ⟨w0, w1, w2, w3, w4, rfl⟩ : ∃ w0 w1 w2 w3 w4 : Value, args = #[w0, w1, w2, w3, w4] := by
    have hs : args.size = 5 := by simpa [Cond.value, given_1] using gc
    obtain ⟨L⟩ := args
    match L, hs with
    | [w0, w1, w2, w3, w4], _ => exact ⟨w0, w1, w2, w3, w4, rfl⟩
  have hw := fun d (hd : d ∈ tables_1) => atoms_spec (ws := Jvm.Cond.code x code maxLocals ret :: tables_1) hat d (List.mem_cons_of_mem _ hd)
  have hfit : Fit s := fun {y c} hc i hi => by
    obtain ⟨ha, rfl⟩ := Array.getElem?_eq_some_iff.mp hc
    have q := List.all_eq_true.mp ((Array.all_eq_true_iff_forall_mem.mp hF) _ (Array.getElem_mem ha)) i (List.mem_range.mpr hi)
    simpa [Array.getElem?_eq_getElem hi] using q
  obtain ⟨i0, ei0⟩ := is_v ga0
  obtain rfl : w0 = (.int i0) := Option.some.inj ei0
  obtain ⟨i1, ei1⟩ := is_v ga1
  obtain rfl : w1 = (.int i1) := Option.some.inj ei1
  obtain ⟨i2, ei2⟩ := is_v ga2
  obtain rfl : w2 = (.int i2) := Option.some.inj ei2
  obtain ⟨i3, ei3⟩ := is_v ga3
  obtain rfl : w3 = (.int i3) := Option.some.inj ei3
  obtain ⟨i4, ei4⟩ := is_v hg4
  obtain rfl : w4 = (.int i4) := Option.some.inj ei4
  obtain ⟨hsets, hown0⟩ := atoms_of _ (rest_1_c_eq ▸ (show rest_1_c.before _ s = true from hrest))
  have hS := fun i {d} (q : jdkStatics_1[i]? = some d) => hsets d (List.mem_of_getElem? q)
  obtain ⟨nn0, nr0⟩ := and_e hn
  obtain ⟨x3, ev3⟩ := exa_v nn0
  have S_3 : Sta s s.heap "com/example/notation_search/notationsearch/math/Relation" "OVER" "Lcom/example/notation_search/notationsearch/math/Relation;" (.ref x3) := Sta.start ev3 (Or.inr ⟨own_w hw 23 rfl, own_w hw 24 rfl⟩)
  obtain ⟨nn1, nr1⟩ := and_e nr0
  obtain ⟨x2, ev2⟩ := exa_v nn1
  have S_2 : Sta s s.heap "com/example/notation_search/notationsearch/math/Relation" "BELOW" "Lcom/example/notation_search/notationsearch/math/Relation;" (.ref x2) := Sta.start ev2 (Or.inr ⟨own_w hw 23 rfl, own_w hw 26 rfl⟩)
  obtain ⟨nn2, nr2⟩ := and_e nr1
  obtain ⟨x1, ev1⟩ := exa_v nn2
  have S_1 : Sta s s.heap "com/example/notation_search/notationsearch/math/Relation" "ABOVE" "Lcom/example/notation_search/notationsearch/math/Relation;" (.ref x1) := Sta.start ev1 (Or.inr ⟨own_w hw 23 rfl, own_w hw 28 rfl⟩)
  obtain ⟨nn3, nr3⟩ := and_e nr2
  obtain ⟨x4, ev4⟩ := exa_v nn3
  have S_4 : Sta s s.heap "com/example/notation_search/notationsearch/math/Relation" "UNDER" "Lcom/example/notation_search/notationsearch/math/Relation;" (.ref x4) := Sta.start ev4 (Or.inr ⟨own_w hw 23 rfl, own_w hw 70 rfl⟩)
  obtain ⟨nn4, nr4⟩ := and_e nr3
  obtain ⟨x7, ev7⟩ := exa_v nn4
  have S_7 : Sta s s.heap "com/example/notation_search/notationsearch/math/Relation" "PRE_BELOW" "Lcom/example/notation_search/notationsearch/math/Relation;" (.ref x7) := Sta.start ev7 (Or.inr ⟨own_w hw 23 rfl, own_w hw 72 rfl⟩)
  obtain ⟨nn5, nr5⟩ := and_e nr4
  obtain ⟨x5, ev5⟩ := exa_v nn5
  have S_5 : Sta s s.heap "com/example/notation_search/notationsearch/math/Relation" "WITHIN" "Lcom/example/notation_search/notationsearch/math/Relation;" (.ref x5) := Sta.start ev5 (Or.inr ⟨own_w hw 23 rfl, own_w hw 211 rfl⟩)
  obtain ⟨nn6, nr6⟩ := and_e nr5
  obtain ⟨x0, ev0⟩ := exa_v nn6
  have S_0 : Sta s s.heap "com/example/notation_search/notationsearch/math/Relation" "NEXT" "Lcom/example/notation_search/notationsearch/math/Relation;" (.ref x0) := Sta.start ev0 (Or.inr ⟨own_w hw 23 rfl, own_w hw 213 rfl⟩)
  obtain ⟨x6, ev6⟩ := exa_v nr6
  have S_6 : Sta s s.heap "com/example/notation_search/notationsearch/math/Relation" "PRE_ABOVE" "Lcom/example/notation_search/notationsearch/math/Relation;" (.ref x6) := Sta.start ev6 (Or.inr ⟨own_w hw 23 rfl, own_w hw 215 rfl⟩)
  obtain ⟨el, ev_l⟩ := exa_v (Cond.before_iff.mp (hS 2 rfl))
  have S_el : Sta s s.heap "java/util/ImmutableCollections" "EMPTY_LIST" "Ljava/util/ImmutableCollections$ListN;" (.ref el) := Sta.start ev_l (Or.inl (hS 1 rfl))
  have E_el := Exa.start ev_l (Cond.before_iff.mp (hS 2 rfl))
  obtain ⟨em, ev_m, A_em⟩ := own_zero (hS 3 rfl) (hS 5 rfl)
  have F_el : Fld s s.heap el "java/util/ImmutableCollections$ListN" "elements" "[Ljava/lang/Object;" (.ref em) := Fld.start (own_fst ev_l ev_m)
  obtain ⟨dc, ev_d, A_dc⟩ := own_zero (hS 13 rfl) (hS 15 rfl)
  have S_dc : Sta s s.heap "java/util/ArrayList" "DEFAULTCAPACITY_EMPTY_ELEMENTDATA" "[Ljava/lang/Object;" (.ref dc) := Sta.start ev_d (Or.inr ⟨own_w hw 80 rfl, hS 9 rfl⟩)
  obtain ⟨n, o, h1, h2, h3, _, L, rfl, ⟨rfl, N⟩, hq⟩ := rm0 l s _ hw i0 i1 i2 i3 i4 s.heap s.heap.size (Nat.le_refl _) x0 x1 x2 x3 x4 x5 x6 x7 el em dc S_el E_el F_el A_em S_dc A_dc S_0 S_1 S_2 S_3 S_4 S_5 S_6 S_7 (Old.start s) tables_1 p e ha hc hk s m _ below hf ((Spec.applies_iff_loose hf).mp happ).1 ⟨rfl, State.Warmed39.refl s, rfl⟩ trivial
  refine ⟨n, _, h1, h2, h3, hpost _ _ _ _ _ _ ⟨Cond.after_iff.mpr rfl, Cond.after_iff.mpr (eq_i res_at (Term.int_eval (1)) rfl), trivial⟩ ⟨hq.1, hq.2.1, (hq.2.2.sift fun y hy => Or.inr (N y hy)).mono (by decide) (by decide)⟩⟩
theorem main_1_1 : Claimed_1_1 := comes_1 fun _ _ _ _ _ _ h hF => ⟨h.1, hF⟩
theorem main_1_2 : Claimed_1_2 := comes_1 fun _ _ _ _ _ _ h hF => ⟨h.2.1, hF⟩
end Jvm.Pilot.@@N@@
namespace Jvm.Pilot.@@N@@
open Jvm Jvm.ClassFile Sem Op Lib Jvm.Free Jvm.Stand Jvm.Pilot.@@N@@.Jvm.D
/-! MADE BY PROGRAM (witnessworld.py) out of the Statement's table words and the real class files: 32 classes; the members and pool entries that the words name. The judged class is class 1, her method 3. -/
namespace start1
open Jvm.ClassFile
def u (s : String) : CpInfo := .utf8 (stringToUtf16 s)
/-- a pool by its gaps: so many unusable entries, then the entry; so many at the end -/
def gap : Nat → List CpInfo → List CpInfo
  | 0, r => r
  | n + 1, r => .unusable :: gap n r
def poolList (es : List (Nat × CpInfo)) (last : Nat) : List CpInfo := es.foldr (fun e r => gap e.1 (e.2 :: r)) (gap last [])
def pool (es : List (Nat × CpInfo)) (last : Nat) : Array CpInfo := ⟨poolList es last⟩
def fileOf (pool : Array CpInfo) (this : Nat) (attrs : Array Attribute := #[]) (ms : Array MethodInfo := #[]) (fl : Nat := 33) (sup : Nat := 0) (ifs : Array Nat := #[]) (fds : Array FieldInfo := #[]) : ClassFile where
  minorVersion := 0
  majorVersion := 65
  constantPool := pool
  accessFlags := fl
  thisClass := this
  superClass := sup
  interfaces := ifs
  fields := fds
  methods := ms
  attributes := attrs
def plain (name : String) (sup : Option ClassId) : Class where
  name := name
  kind := .ordinary
  loader := none
  accessFlags := 33
  super := sup
  interfaces := #[]
  cf := none
  fields := #[]
  methods := #[]
  instanceTypes := #[]
  staticTypes := #[]
  resolved := #[]
  callSites := []
  init := .initialized
  statics := none
  mirror := none

def pool0 : Array CpInfo := pool [(5, u "<init>"), (0, u "()V"), (1, .class_ 10), (1, u "java/lang/Object")] 113

def k0c0 : Code := { maxStack := 0, maxLocals := 1, code := object_method_1_code, exceptionTable := #[], attributes := #[] }
def k0m0 : Method := { name := "<init>", desc := "()V", sig := { parameters := [], returnType := none }, accessFlags := 1, code := some k0c0 }
/-- java/lang/Object -/
def k0 : Class := { plain "java/lang/Object" none with
  accessFlags := 33
  interfaces := #[]
  cf := some (fileOf pool0 8 #[] #[{ accessFlags := 1, nameIndex := 5, descriptorIndex := 6, attributes := #[] }] 33 0 #[] #[])
  fields := #[]
  methods := #[k0m0]
  instanceTypes := #[]
  staticTypes := #[]
  resolved := Array.replicate 124 none
  statics := none }

def pool1 : Array CpInfo := pool [(2, .class_ 4), (0, .nameAndType 5 6), (0, u "java/lang/Object"), (0, u "<init>"), (0, u "()V"), (0, .fieldref 8 9), (0, .class_ 10), (0, .nameAndType 11 12), (0, u "com/example/notation_search/notationsearch/math/Relation"), (0, u "NEXT"), (0, u "Lcom/example/notation_search/notationsearch/math/Relation;"), (0, .fieldref 8 14), (0, .nameAndType 15 12), (0, u "ABOVE"), (0, .fieldref 8 17), (0, .nameAndType 18 12), (0, u "BELOW"), (0, .fieldref 8 20), (0, .nameAndType 21 12), (0, u "OVER"), (0, .fieldref 8 23), (0, .nameAndType 24 12), (0, u "UNDER"), (0, .fieldref 8 26), (0, .nameAndType 27 12), (0, u "WITHIN"), (0, .fieldref 8 29), (0, .nameAndType 30 12), (0, u "PRE_ABOVE"), (0, .fieldref 8 32), (0, .nameAndType 33 12), (0, u "PRE_BELOW"), (0, .methodref 35 36), (0, .class_ 37), (0, .nameAndType 38 39), (0, u "com/example/notation_search/notationsearch/math/Row$Script"), (0, u "relation"), (0, u "()Lcom/example/notation_search/notationsearch/math/Relation;"), (0, .methodref 35 41), (0, .nameAndType 42 43), (0, u "region"), (0, u "()Lcom/example/notation_search/notationsearch/math/Row;"), (0, .methodref 35 45), (0, .nameAndType 46 47), (0, u "before"), (0, u "()Lcom/example/notation_search/notationsearch/math/Symbol;"), (0, .class_ 49), (0, u "com/example/notation_search/notationsearch/math/SymbolCount"), (0, .methodref 48 3), (0, .class_ 52), (0, u "com/example/notation_search/notationsearch/math/Row"), (0, .methodref 51 54), (0, .nameAndType 5 55), (0, u "(Lcom/example/notation_search/notationsearch/math/SymbolCount;)V"), (0, .methodref 57 58), (0, .class_ 59), (0, .nameAndType 38 60), (0, u "com/example/notation_search/notationsearch/math/RowReleasePinLaw"), (0, u "(I)Lcom/example/notation_search/notationsearch/math/Relation;"), (0, .methodref 51 62), (0, .nameAndType 63 64), (0, u "hold"), (0, u "(Lcom/example/notation_search/notationsearch/math/Relation;Lcom/example/notation_search/notationsearch/math/Row;)V"), (0, .methodref 51 66), (0, .nameAndType 67 68), (0, u "append"), (0, u "(Lcom/example/notation_search/notationsearch/math/Row;)V"), (0, .methodref 51 70), (0, .nameAndType 71 72), (0, u "release"), (0, u "()Ljava/util/List;"), (0, .interfaceMethodref 74 75), (0, .class_ 76), (0, .nameAndType 77 78), (0, u "java/util/List"), (0, u "size"), (0, u "()I"), (0, .interfaceMethodref 74 80), (0, .nameAndType 81 82), (0, u "isEmpty"), (0, u "()Z"), (0, .methodref 51 84), (0, .nameAndType 85 72), (0, u "followed"), (0, .interfaceMethodref 74 87), (0, .nameAndType 88 89), (0, u "get"), (0, u "(I)Ljava/lang/Object;"), (0, .methodref 57 91), (0, .nameAndType 92 93), (0, u "same"), (0, u "(Lcom/example/notation_search/notationsearch/math/Row$Script;Lcom/example/notation_search/notationsearch/math/Relation;Lcom/example/notation_search/notationsearch/math/Row;)Z"), (3, u "law"), (0, u "(IIIII)Z")] 4

def k1m0 : Method := { name := "<init>", desc := "()V", sig := { parameters := [], returnType := none }, accessFlags := 1, code := none }
def k1c1 : Code := { maxStack := 2, maxLocals := 2, code := method_2_code, exceptionTable := #[], attributes := #[] }
def k1m1 : Method := { name := "relation", desc := "(I)Lcom/example/notation_search/notationsearch/math/Relation;", sig := { parameters := [.int], returnType := some (.object "com/example/notation_search/notationsearch/math/Relation") }, accessFlags := 10, code := some k1c1 }
def k1c2 : Code := { maxStack := 2, maxLocals := 3, code := method_3_code, exceptionTable := #[], attributes := #[] }
def k1m2 : Method := { name := "same", desc := "(Lcom/example/notation_search/notationsearch/math/Row$Script;Lcom/example/notation_search/notationsearch/math/Relation;Lcom/example/notation_search/notationsearch/math/Row;)Z", sig := { parameters := [(.object "com/example/notation_search/notationsearch/math/Row$Script"), (.object "com/example/notation_search/notationsearch/math/Relation"), (.object "com/example/notation_search/notationsearch/math/Row")], returnType := some .boolean }, accessFlags := 10, code := some k1c2 }
def k1c3 : Code := { maxStack := 3, maxLocals := 16, code := code, exceptionTable := #[], attributes := #[] }
def k1m3 : Method := { name := "law", desc := "(IIIII)Z", sig := { parameters := [.int, .int, .int, .int, .int], returnType := some .boolean }, accessFlags := 9, code := some k1c3 }
/-- com/example/notation_search/notationsearch/math/RowReleasePinLaw -/
def k1 : Class := { plain "com/example/notation_search/notationsearch/math/RowReleasePinLaw" (some 0) with
  accessFlags := 49
  interfaces := #[]
  cf := some (fileOf pool1 57 #[] #[{ accessFlags := 1, nameIndex := 5, descriptorIndex := 6, attributes := #[] }, { accessFlags := 10, nameIndex := 38, descriptorIndex := 60, attributes := #[] }, { accessFlags := 10, nameIndex := 92, descriptorIndex := 93, attributes := #[] }, { accessFlags := 9, nameIndex := 97, descriptorIndex := 98, attributes := #[] }] 49 2 #[] #[])
  fields := #[]
  methods := #[k1m0, k1m1, k1m2, k1m3]
  instanceTypes := #[]
  staticTypes := #[]
  resolved := Array.replicate 103 none
  statics := none }

def pool2 : Array CpInfo := pool [(1, .methodref 2 3), (0, .class_ 4), (0, .nameAndType 5 6), (0, u "java/lang/Object"), (0, u "<init>"), (0, u "()V"), (1, .class_ 10), (1, u "com/example/notation_search/notationsearch/math/SymbolCount"), (0, u "placed"), (0, u "I"), (5, u "refused"), (0, u "Z")] 7

def k2c0 : Code := { maxStack := 1, maxLocals := 1, code := prog_38_method_1_code, exceptionTable := #[], attributes := #[] }
def k2m0 : Method := { name := "<init>", desc := "()V", sig := { parameters := [], returnType := none }, accessFlags := 0, code := some k2c0 }
/-- com/example/notation_search/notationsearch/math/SymbolCount -/
def k2 : Class := { plain "com/example/notation_search/notationsearch/math/SymbolCount" (some 0) with
  accessFlags := 48
  interfaces := #[]
  cf := some (fileOf pool2 8 #[] #[{ accessFlags := 0, nameIndex := 5, descriptorIndex := 6, attributes := #[] }] 48 2 #[] #[{ accessFlags := 2, nameIndex := 11, descriptorIndex := 12, attributes := #[] }, { accessFlags := 2, nameIndex := 18, descriptorIndex := 19, attributes := #[] }])
  fields := #[{ name := "placed", type := .int, accessFlags := 2, slot := 0, constantValue := 0 }, { name := "refused", type := .boolean, accessFlags := 2, slot := 1, constantValue := 0 }]
  methods := #[k2m0]
  instanceTypes := #[.int, .boolean]
  staticTypes := #[]
  resolved := Array.replicate 27 none
  statics := none }

def pool3 : Array CpInfo := pool [(1, .methodref 2 3), (0, .class_ 4), (0, .nameAndType 5 6), (0, u "java/lang/Object"), (0, u "<init>"), (0, u "()V"), (0, .fieldref 8 9), (0, .class_ 10), (0, .nameAndType 11 12), (0, u "com/example/notation_search/notationsearch/math/Row"), (0, u "symbols"), (0, u "Lcom/example/notation_search/notationsearch/math/SymbolCount;"), (0, .fieldref 8 14), (0, .nameAndType 15 16), (0, u "first"), (0, u "Lcom/example/notation_search/notationsearch/math/Symbol;"), (0, .fieldref 8 18), (0, .nameAndType 19 16), (0, u "last"), (0, .fieldref 8 21), (0, .nameAndType 22 16), (0, u "base"), (21, .fieldref 8 45), (0, .nameAndType 46 47), (0, u "waiting"), (0, u "Ljava/util/List;"), (0, .class_ 49), (0, u "java/util/ArrayList"), (0, .methodref 48 3), (0, .class_ 52), (0, u "com/example/notation_search/notationsearch/math/Row$Script"), (0, .methodref 51 54), (0, .nameAndType 5 55), (0, u "(Lcom/example/notation_search/notationsearch/math/Relation;Lcom/example/notation_search/notationsearch/math/Row;Lcom/example/notation_search/notationsearch/math/Symbol;)V"), (0, .interfaceMethodref 57 58), (0, .class_ 59), (0, .nameAndType 60 61), (0, u "java/util/List"), (0, u "add"), (0, u "(Ljava/lang/Object;)Z"), (0, .fieldref 8 63), (0, .nameAndType 64 47), (0, u "followed"), (0, .interfaceMethodref 57 66), (0, .nameAndType 67 68), (0, u "of"), (0, u "()Ljava/util/List;"), (23, u "(Lcom/example/notation_search/notationsearch/math/SymbolCount;)V"), (3, u "append"), (2, u "(Lcom/example/notation_search/notationsearch/math/Row;)V"), (0, u "hold"), (0, u "(Lcom/example/notation_search/notationsearch/math/Relation;Lcom/example/notation_search/notationsearch/math/Row;)V"), (1, u "release")] 5

def k3c0 : Code := { maxStack := 2, maxLocals := 2, code := prog_33_method_1_code, exceptionTable := #[], attributes := #[] }
def k3m0 : Method := { name := "<init>", desc := "(Lcom/example/notation_search/notationsearch/math/SymbolCount;)V", sig := { parameters := [(.object "com/example/notation_search/notationsearch/math/SymbolCount")], returnType := none }, accessFlags := 0, code := some k3c0 }
def k3c1 : Code := { maxStack := 3, maxLocals := 2, code := prog_33_method_6_code, exceptionTable := #[], attributes := #[] }
def k3m1 : Method := { name := "append", desc := "(Lcom/example/notation_search/notationsearch/math/Row;)V", sig := { parameters := [(.object "com/example/notation_search/notationsearch/math/Row")], returnType := none }, accessFlags := 0, code := some k3c1 }
def k3c2 : Code := { maxStack := 6, maxLocals := 3, code := prog_33_method_7_code, exceptionTable := #[], attributes := #[] }
def k3m2 : Method := { name := "hold", desc := "(Lcom/example/notation_search/notationsearch/math/Relation;Lcom/example/notation_search/notationsearch/math/Row;)V", sig := { parameters := [(.object "com/example/notation_search/notationsearch/math/Relation"), (.object "com/example/notation_search/notationsearch/math/Row")], returnType := none }, accessFlags := 0, code := some k3c2 }
def k3c3 : Code := { maxStack := 1, maxLocals := 1, code := prog_33_method_8_code, exceptionTable := #[], attributes := #[] }
def k3m3 : Method := { name := "followed", desc := "()Ljava/util/List;", sig := { parameters := [], returnType := some (.object "java/util/List") }, accessFlags := 0, code := some k3c3 }
def k3c4 : Code := { maxStack := 2, maxLocals := 2, code := prog_33_method_9_code, exceptionTable := #[], attributes := #[] }
def k3m4 : Method := { name := "release", desc := "()Ljava/util/List;", sig := { parameters := [], returnType := some (.object "java/util/List") }, accessFlags := 0, code := some k3c4 }
/-- com/example/notation_search/notationsearch/math/Row -/
def k3 : Class := { plain "com/example/notation_search/notationsearch/math/Row" (some 0) with
  accessFlags := 48
  interfaces := #[]
  cf := some (fileOf pool3 8 #[.nestMembers #[51]] #[{ accessFlags := 0, nameIndex := 5, descriptorIndex := 92, attributes := #[] }, { accessFlags := 0, nameIndex := 96, descriptorIndex := 99, attributes := #[] }, { accessFlags := 0, nameIndex := 100, descriptorIndex := 101, attributes := #[] }, { accessFlags := 0, nameIndex := 64, descriptorIndex := 68, attributes := #[] }, { accessFlags := 0, nameIndex := 103, descriptorIndex := 68, attributes := #[] }] 48 2 #[] #[{ accessFlags := 18, nameIndex := 11, descriptorIndex := 12, attributes := #[] }, { accessFlags := 2, nameIndex := 15, descriptorIndex := 16, attributes := #[] }, { accessFlags := 2, nameIndex := 19, descriptorIndex := 16, attributes := #[] }, { accessFlags := 2, nameIndex := 22, descriptorIndex := 16, attributes := #[] }, { accessFlags := 2, nameIndex := 64, descriptorIndex := 47, attributes := #[] }, { accessFlags := 2, nameIndex := 46, descriptorIndex := 47, attributes := #[] }])
  fields := #[{ name := "symbols", type := (.object "com/example/notation_search/notationsearch/math/SymbolCount"), accessFlags := 18, slot := 0, constantValue := 0 }, { name := "first", type := (.object "com/example/notation_search/notationsearch/math/Symbol"), accessFlags := 2, slot := 1, constantValue := 0 }, { name := "last", type := (.object "com/example/notation_search/notationsearch/math/Symbol"), accessFlags := 2, slot := 2, constantValue := 0 }, { name := "base", type := (.object "com/example/notation_search/notationsearch/math/Symbol"), accessFlags := 2, slot := 3, constantValue := 0 }, { name := "followed", type := (.object "java/util/List"), accessFlags := 2, slot := 4, constantValue := 0 }, { name := "waiting", type := (.object "java/util/List"), accessFlags := 2, slot := 5, constantValue := 0 }]
  methods := #[k3m0, k3m1, k3m2, k3m3, k3m4]
  instanceTypes := #[(.object "com/example/notation_search/notationsearch/math/SymbolCount"), (.object "com/example/notation_search/notationsearch/math/Symbol"), (.object "com/example/notation_search/notationsearch/math/Symbol"), (.object "com/example/notation_search/notationsearch/math/Symbol"), (.object "java/util/List"), (.object "java/util/List")]
  staticTypes := #[]
  resolved := Array.replicate 109 none
  statics := none }

def pool4 : Array CpInfo := pool [(1, .class_ 2), (0, u "java/lang/constant/Constable"), (0, .class_ 4), (0, u "java/lang/Object")] 6

/-- java/lang/constant/Constable -/
def k4 : Class := { plain "java/lang/constant/Constable" (some 0) with
  accessFlags := 1537
  interfaces := #[]
  cf := some (fileOf pool4 1 #[] #[] 1537 3 #[] #[])
  fields := #[]
  methods := #[]
  instanceTypes := #[]
  staticTypes := #[]
  resolved := Array.replicate 11 none
  statics := none }

def pool5 : Array CpInfo := pool [(1, .class_ 2), (0, u "java/lang/Comparable"), (0, .class_ 4), (0, u "java/lang/Object")] 7

/-- java/lang/Comparable -/
def k5 : Class := { plain "java/lang/Comparable" (some 0) with
  accessFlags := 1537
  interfaces := #[]
  cf := some (fileOf pool5 1 #[] #[] 1537 3 #[] #[])
  fields := #[]
  methods := #[]
  instanceTypes := #[]
  staticTypes := #[]
  resolved := Array.replicate 12 none
  statics := none }

def pool6 : Array CpInfo := pool [(1, .class_ 2), (0, u "java/io/Serializable"), (0, .class_ 4), (0, u "java/lang/Object")] 2

/-- java/io/Serializable -/
def k6 : Class := { plain "java/io/Serializable" (some 0) with
  accessFlags := 1537
  interfaces := #[]
  cf := some (fileOf pool6 1 #[] #[] 1537 3 #[] #[])
  fields := #[]
  methods := #[]
  instanceTypes := #[]
  staticTypes := #[]
  resolved := Array.replicate 7 none
  statics := none }

def pool7 : Array CpInfo := pool [(2, .class_ 4), (1, u "java/lang/Enum"), (0, u "name"), (0, u "Ljava/lang/String;"), (2, u "ordinal"), (0, u "I"), (1, .class_ 14), (1, u "java/lang/Object"), (4, u "hash"), (86, .class_ 108), (1, u "java/lang/Enum$EnumDesc"), (2, .class_ 112), (0, u "java/lang/constant/Constable"), (0, .class_ 114), (0, u "java/lang/Comparable"), (0, .class_ 116), (0, u "java/io/Serializable")] 87

/-- java/lang/Enum -/
def k7 : Class := { plain "java/lang/Enum" (some 0) with
  accessFlags := 1057
  interfaces := #[4, 5, 6]
  cf := some (fileOf pool7 2 #[.nestMembers #[106]] #[] 1057 12 #[111, 113, 115] #[{ accessFlags := 18, nameIndex := 5, descriptorIndex := 6, attributes := #[] }, { accessFlags := 18, nameIndex := 9, descriptorIndex := 10, attributes := #[] }, { accessFlags := 2, nameIndex := 19, descriptorIndex := 10, attributes := #[] }])
  fields := #[{ name := "name", type := (.object "java/lang/String"), accessFlags := 18, slot := 0, constantValue := 0 }, { name := "ordinal", type := .int, accessFlags := 18, slot := 1, constantValue := 0 }, { name := "hash", type := .int, accessFlags := 2, slot := 2, constantValue := 0 }]
  methods := #[]
  instanceTypes := #[(.object "java/lang/String"), .int, .int]
  staticTypes := #[]
  resolved := Array.replicate 204 none
  statics := none }

def pool8 : Array CpInfo := pool [(1, .class_ 2), (0, u "com/example/notation_search/notationsearch/math/Relation"), (2, u "NEXT"), (0, u "Lcom/example/notation_search/notationsearch/math/Relation;"), (2, u "ABOVE"), (2, u "BELOW"), (2, u "OVER"), (2, u "UNDER"), (2, u "WITHIN"), (2, u "PRE_ABOVE"), (2, u "PRE_BELOW"), (2, u "$VALUES"), (0, u "[Lcom/example/notation_search/notationsearch/math/Relation;"), (6, .class_ 40), (1, u "java/lang/Enum"), (8, u "letter"), (0, u "C")] 28

/-- com/example/notation_search/notationsearch/math/Relation -/
def k8 : Class := { plain "com/example/notation_search/notationsearch/math/Relation" (some 7) with
  accessFlags := 16433
  interfaces := #[]
  cf := some (fileOf pool8 1 #[] #[] 16433 38 #[] #[{ accessFlags := 16409, nameIndex := 5, descriptorIndex := 6, attributes := #[] }, { accessFlags := 16409, nameIndex := 9, descriptorIndex := 6, attributes := #[] }, { accessFlags := 16409, nameIndex := 12, descriptorIndex := 6, attributes := #[] }, { accessFlags := 16409, nameIndex := 15, descriptorIndex := 6, attributes := #[] }, { accessFlags := 16409, nameIndex := 18, descriptorIndex := 6, attributes := #[] }, { accessFlags := 16409, nameIndex := 21, descriptorIndex := 6, attributes := #[] }, { accessFlags := 16409, nameIndex := 24, descriptorIndex := 6, attributes := #[] }, { accessFlags := 16409, nameIndex := 27, descriptorIndex := 6, attributes := #[] }, { accessFlags := 18, nameIndex := 49, descriptorIndex := 50, attributes := #[] }, { accessFlags := 4122, nameIndex := 30, descriptorIndex := 31, attributes := #[] }])
  fields := #[{ name := "NEXT", type := (.object "com/example/notation_search/notationsearch/math/Relation"), accessFlags := 16409, slot := 0, constantValue := 0 }, { name := "ABOVE", type := (.object "com/example/notation_search/notationsearch/math/Relation"), accessFlags := 16409, slot := 1, constantValue := 0 }, { name := "BELOW", type := (.object "com/example/notation_search/notationsearch/math/Relation"), accessFlags := 16409, slot := 2, constantValue := 0 }, { name := "OVER", type := (.object "com/example/notation_search/notationsearch/math/Relation"), accessFlags := 16409, slot := 3, constantValue := 0 }, { name := "UNDER", type := (.object "com/example/notation_search/notationsearch/math/Relation"), accessFlags := 16409, slot := 4, constantValue := 0 }, { name := "WITHIN", type := (.object "com/example/notation_search/notationsearch/math/Relation"), accessFlags := 16409, slot := 5, constantValue := 0 }, { name := "PRE_ABOVE", type := (.object "com/example/notation_search/notationsearch/math/Relation"), accessFlags := 16409, slot := 6, constantValue := 0 }, { name := "PRE_BELOW", type := (.object "com/example/notation_search/notationsearch/math/Relation"), accessFlags := 16409, slot := 7, constantValue := 0 }, { name := "letter", type := .char, accessFlags := 18, slot := 3, constantValue := 0 }, { name := "$VALUES", type := (.array (.object "com/example/notation_search/notationsearch/math/Relation")), accessFlags := 4122, slot := 8, constantValue := 0 }]
  methods := #[]
  instanceTypes := #[(.object "java/lang/String"), .int, .int, .char]
  staticTypes := #[(.object "com/example/notation_search/notationsearch/math/Relation"), (.object "com/example/notation_search/notationsearch/math/Relation"), (.object "com/example/notation_search/notationsearch/math/Relation"), (.object "com/example/notation_search/notationsearch/math/Relation"), (.object "com/example/notation_search/notationsearch/math/Relation"), (.object "com/example/notation_search/notationsearch/math/Relation"), (.object "com/example/notation_search/notationsearch/math/Relation"), (.object "com/example/notation_search/notationsearch/math/Relation"), (.array (.object "com/example/notation_search/notationsearch/math/Relation"))]
  resolved := Array.replicate 79 none
  statics := some 0 }

def pool9 : Array CpInfo := pool [(8, .class_ 10), (1, u "java/lang/Iterable"), (24, .class_ 36), (0, u "java/lang/Object")] 25

/-- java/lang/Iterable -/
def k9 : Class := { plain "java/lang/Iterable" (some 0) with
  accessFlags := 1537
  interfaces := #[]
  cf := some (fileOf pool9 8 #[] #[] 1537 35 #[] #[])
  fields := #[]
  methods := #[]
  instanceTypes := #[]
  staticTypes := #[]
  resolved := Array.replicate 62 none
  statics := none }

def pool10 : Array CpInfo := pool [(10, .class_ 12), (1, u "java/util/Collection"), (47, .class_ 61), (0, u "java/lang/Object"), (0, .class_ 63), (0, u "java/lang/Iterable")] 51

/-- java/util/Collection -/
def k10 : Class := { plain "java/util/Collection" (some 0) with
  accessFlags := 1537
  interfaces := #[9]
  cf := some (fileOf pool10 10 #[] #[] 1537 60 #[62] #[])
  fields := #[]
  methods := #[]
  instanceTypes := #[]
  staticTypes := #[]
  resolved := Array.replicate 115 none
  statics := none }

def pool11 : Array CpInfo := pool [(8, .class_ 10), (1, u "java/util/SequencedCollection"), (15, .class_ 27), (0, u "java/lang/Object"), (0, .class_ 29), (0, u "java/util/Collection")] 27

/-- java/util/SequencedCollection -/
def k11 : Class := { plain "java/util/SequencedCollection" (some 0) with
  accessFlags := 1537
  interfaces := #[10]
  cf := some (fileOf pool11 8 #[] #[] 1537 26 #[28] #[])
  fields := #[]
  methods := #[]
  instanceTypes := #[]
  staticTypes := #[]
  resolved := Array.replicate 57 none
  statics := none }

def pool12 : Array CpInfo := pool [(8, .class_ 10), (1, u "java/util/List"), (7, u "()Z"), (41, u "add"), (3, u "(Ljava/lang/Object;)Z"), (2, u "isEmpty"), (7, u "get"), (0, u "(I)Ljava/lang/Object;"), (2, u "size"), (0, u "()I"), (7, u "of"), (1, .fieldref 91 92), (0, .class_ 93), (0, .nameAndType 94 95), (0, u "java/util/ImmutableCollections"), (0, u "EMPTY_LIST"), (0, u "Ljava/util/ImmutableCollections$ListN;"), (7, .class_ 104), (0, u "java/lang/Object"), (14, u "()Ljava/util/List;"), (0, .class_ 121), (0, u "java/util/SequencedCollection")] 129

def k12m0 : Method := { name := "size", desc := "()I", sig := { parameters := [], returnType := some .int }, accessFlags := 1025, code := none }
def k12m1 : Method := { name := "isEmpty", desc := "()Z", sig := { parameters := [], returnType := some .boolean }, accessFlags := 1025, code := none }
def k12m2 : Method := { name := "add", desc := "(Ljava/lang/Object;)Z", sig := { parameters := [(.object "java/lang/Object")], returnType := some .boolean }, accessFlags := 1025, code := none }
def k12m3 : Method := { name := "get", desc := "(I)Ljava/lang/Object;", sig := { parameters := [.int], returnType := some (.object "java/lang/Object") }, accessFlags := 1025, code := none }
def k12c4 : Code := { maxStack := 1, maxLocals := 0, code := jdk_40_method_36_code, exceptionTable := #[], attributes := #[] }
def k12m4 : Method := { name := "of", desc := "()Ljava/util/List;", sig := { parameters := [], returnType := some (.object "java/util/List") }, accessFlags := 9, code := some k12c4 }
/-- java/util/List -/
def k12 : Class := { plain "java/util/List" (some 0) with
  accessFlags := 1537
  interfaces := #[11]
  cf := some (fileOf pool12 8 #[] #[{ accessFlags := 1025, nameIndex := 79, descriptorIndex := 80, attributes := #[] }, { accessFlags := 1025, nameIndex := 67, descriptorIndex := 18, attributes := #[] }, { accessFlags := 1025, nameIndex := 60, descriptorIndex := 64, attributes := #[] }, { accessFlags := 1025, nameIndex := 75, descriptorIndex := 76, attributes := #[] }, { accessFlags := 9, nameIndex := 88, descriptorIndex := 119, attributes := #[] }] 1537 103 #[120] #[])
  fields := #[]
  methods := #[k12m0, k12m1, k12m2, k12m3, k12m4]
  instanceTypes := #[]
  staticTypes := #[]
  resolved := Array.replicate 251 none
  statics := none }

def pool13 : Array CpInfo := pool [(2, .class_ 4), (1, u "java/lang/Object"), (0, u "<init>"), (0, u "()V"), (3, .class_ 11), (0, u "java/util/ImmutableCollections$List12"), (0, .class_ 13), (0, u "java/util/ImmutableCollections$ListN"), (3, u "Z"), (29, .class_ 49), (1, u "java/util/ImmutableCollections"), (0, u "$assertionsDisabled"), (5, u "[Ljava/lang/Object;"), (5, u "EMPTY_LIST"), (0, u "Ljava/util/ImmutableCollections$ListN;"), (8, u "EMPTY_LIST_NULLS"), (22, u "SALT32L"), (0, u "J"), (2, u "REVERSE"), (6, u "archivedObjects"), (2, u "EMPTY"), (0, u "Ljava/lang/Object;"), (0, .class_ 112), (0, u "java/util/ImmutableCollections$SetN"), (5, u "EMPTY_SET"), (0, u "Ljava/util/ImmutableCollections$SetN;"), (0, .class_ 121), (0, u "java/util/ImmutableCollections$MapN"), (3, u "EMPTY_MAP"), (0, u "Ljava/util/ImmutableCollections$MapN;"), (4, u "EXPAND_FACTOR"), (0, u "I"), (36, .class_ 170), (0, u "java/util/ImmutableCollections$MapN$MapNIterator"), (0, .class_ 172), (0, u "java/util/ImmutableCollections$MapN$1"), (0, .class_ 174), (0, u "java/util/ImmutableCollections$Map1"), (0, .class_ 176), (0, u "java/util/ImmutableCollections$AbstractImmutableMap"), (0, .class_ 178), (0, u "java/util/ImmutableCollections$SetN$SetNIterator"), (0, .class_ 180), (0, u "java/util/ImmutableCollections$Set12"), (0, .class_ 182), (0, u "java/util/ImmutableCollections$Set12$1"), (0, .class_ 184), (0, u "java/util/ImmutableCollections$AbstractImmutableSet"), (0, .class_ 186), (0, u "java/util/ImmutableCollections$SubList"), (0, .class_ 188), (0, u "java/util/ImmutableCollections$ListItr"), (0, .class_ 190), (0, u "java/util/ImmutableCollections$AbstractImmutableList"), (0, .class_ 192), (0, u "java/util/ImmutableCollections$AbstractImmutableCollection"), (0, .class_ 194), (0, u "java/util/ImmutableCollections$Access"), (0, .class_ 196), (0, u "java/util/ImmutableCollections$Access$1")] 16

def k13m0 : Method := { name := "<init>", desc := "()V", sig := { parameters := [], returnType := none }, accessFlags := 2, code := none }
/-- java/util/ImmutableCollections -/
def k13 : Class := { plain "java/util/ImmutableCollections" (some 0) with
  accessFlags := 32
  interfaces := #[]
  cf := some (fileOf pool13 47 #[.nestMembers #[120, 169, 171, 173, 175, 111, 177, 179, 181, 183, 12, 10, 185, 187, 189, 191, 193, 195]] #[{ accessFlags := 2, nameIndex := 5, descriptorIndex := 6, attributes := #[] }] 32 2 #[] #[{ accessFlags := 26, nameIndex := 95, descriptorIndex := 96, attributes := #[] }, { accessFlags := 26, nameIndex := 99, descriptorIndex := 17, attributes := #[] }, { accessFlags := 10, nameIndex := 106, descriptorIndex := 56, attributes := #[] }, { accessFlags := 26, nameIndex := 109, descriptorIndex := 110, attributes := #[] }, { accessFlags := 24, nameIndex := 62, descriptorIndex := 63, attributes := #[] }, { accessFlags := 24, nameIndex := 72, descriptorIndex := 63, attributes := #[] }, { accessFlags := 24, nameIndex := 118, descriptorIndex := 119, attributes := #[] }, { accessFlags := 24, nameIndex := 125, descriptorIndex := 126, attributes := #[] }, { accessFlags := 24, nameIndex := 131, descriptorIndex := 132, attributes := #[] }, { accessFlags := 4120, nameIndex := 50, descriptorIndex := 17, attributes := #[] }])
  fields := #[{ name := "SALT32L", type := .long, accessFlags := 26, slot := 0, constantValue := 0 }, { name := "REVERSE", type := .boolean, accessFlags := 26, slot := 1, constantValue := 0 }, { name := "archivedObjects", type := (.array (.object "java/lang/Object")), accessFlags := 10, slot := 2, constantValue := 0 }, { name := "EMPTY", type := (.object "java/lang/Object"), accessFlags := 26, slot := 3, constantValue := 0 }, { name := "EMPTY_LIST", type := (.object "java/util/ImmutableCollections$ListN"), accessFlags := 24, slot := 4, constantValue := 0 }, { name := "EMPTY_LIST_NULLS", type := (.object "java/util/ImmutableCollections$ListN"), accessFlags := 24, slot := 5, constantValue := 0 }, { name := "EMPTY_SET", type := (.object "java/util/ImmutableCollections$SetN"), accessFlags := 24, slot := 6, constantValue := 0 }, { name := "EMPTY_MAP", type := (.object "java/util/ImmutableCollections$MapN"), accessFlags := 24, slot := 7, constantValue := 0 }, { name := "EXPAND_FACTOR", type := .int, accessFlags := 24, slot := 8, constantValue := 0 }, { name := "$assertionsDisabled", type := .boolean, accessFlags := 4120, slot := 9, constantValue := 0 }]
  methods := #[k13m0]
  instanceTypes := #[]
  staticTypes := #[.long, .boolean, (.array (.object "java/lang/Object")), (.object "java/lang/Object"), (.object "java/util/ImmutableCollections$ListN"), (.object "java/util/ImmutableCollections$ListN"), (.object "java/util/ImmutableCollections$SetN"), (.object "java/util/ImmutableCollections$MapN"), .int, .boolean]
  resolved := Array.replicate 213 none
  statics := some 1 }

def pool14 : Array CpInfo := pool [(1, .methodref 2 3), (0, .class_ 4), (0, .nameAndType 5 6), (0, u "java/lang/Object"), (0, u "<init>"), (0, u "()V"), (1, .class_ 10), (1, u "java/util/AbstractCollection"), (66, .class_ 78), (0, u "java/util/Collection")] 81

def k14c0 : Code := { maxStack := 1, maxLocals := 1, code := jdk_22_method_1_code, exceptionTable := #[], attributes := #[] }
def k14m0 : Method := { name := "<init>", desc := "()V", sig := { parameters := [], returnType := none }, accessFlags := 4, code := some k14c0 }
/-- java/util/AbstractCollection -/
def k14 : Class := { plain "java/util/AbstractCollection" (some 0) with
  accessFlags := 1057
  interfaces := #[10]
  cf := some (fileOf pool14 8 #[] #[{ accessFlags := 4, nameIndex := 5, descriptorIndex := 6, attributes := #[] }] 1057 2 #[77] #[])
  fields := #[]
  methods := #[k14m0]
  instanceTypes := #[]
  staticTypes := #[]
  resolved := Array.replicate 160 none
  statics := none }

def pool15 : Array CpInfo := pool [(2, .class_ 4), (1, u "java/util/AbstractCollection"), (0, u "<init>"), (0, u "()V"), (1, .class_ 10), (1, u "java/util/ImmutableCollections"), (2, .class_ 14), (0, u "java/util/ImmutableCollections$AbstractImmutableCollection")] 41

def k15m0 : Method := { name := "<init>", desc := "()V", sig := { parameters := [], returnType := none }, accessFlags := 0, code := none }
/-- java/util/ImmutableCollections$AbstractImmutableCollection -/
def k15 : Class := { plain "java/util/ImmutableCollections$AbstractImmutableCollection" (some 14) with
  accessFlags := 1056
  interfaces := #[]
  cf := some (fileOf pool15 13 #[.nestHost 8] #[{ accessFlags := 0, nameIndex := 5, descriptorIndex := 6, attributes := #[] }] 1056 2 #[] #[])
  fields := #[]
  methods := #[k15m0]
  instanceTypes := #[]
  staticTypes := #[]
  resolved := Array.replicate 56 none
  statics := none }

def pool16 : Array CpInfo := pool [(1, .class_ 2), (0, u "java/util/RandomAccess"), (0, .class_ 4), (0, u "java/lang/Object")] 2

/-- java/util/RandomAccess -/
def k16 : Class := { plain "java/util/RandomAccess" (some 0) with
  accessFlags := 1537
  interfaces := #[]
  cf := some (fileOf pool16 1 #[] #[] 1537 3 #[] #[])
  fields := #[]
  methods := #[]
  instanceTypes := #[]
  staticTypes := #[]
  resolved := Array.replicate 7 none
  statics := none }

def pool17 : Array CpInfo := pool [(2, .class_ 4), (1, u "java/util/ImmutableCollections$AbstractImmutableCollection"), (0, u "<init>"), (0, u "()V"), (1, .class_ 10), (1, u "java/util/ImmutableCollections"), (3, .class_ 16), (1, u "java/util/ImmutableCollections$AbstractImmutableList"), (60, .class_ 78), (0, u "java/util/List"), (45, .class_ 125), (0, u "java/util/RandomAccess")] 70

def k17m0 : Method := { name := "<init>", desc := "()V", sig := { parameters := [], returnType := none }, accessFlags := 0, code := none }
/-- java/util/ImmutableCollections$AbstractImmutableList -/
def k17 : Class := { plain "java/util/ImmutableCollections$AbstractImmutableList" (some 15) with
  accessFlags := 1056
  interfaces := #[12, 16]
  cf := some (fileOf pool17 14 #[.nestHost 8] #[{ accessFlags := 0, nameIndex := 5, descriptorIndex := 6, attributes := #[] }] 1056 2 #[77, 124] #[])
  fields := #[]
  methods := #[k17m0]
  instanceTypes := #[]
  staticTypes := #[]
  resolved := Array.replicate 196 none
  statics := none }

def pool18 : Array CpInfo := pool [(2, .class_ 4), (1, u "java/util/ImmutableCollections$AbstractImmutableList"), (2, .fieldref 8 9), (0, .class_ 10), (0, .nameAndType 11 12), (0, u "java/util/ImmutableCollections$ListN"), (0, u "elements"), (0, u "[Ljava/lang/Object;"), (2, u "allowNulls"), (0, u "Z"), (42, .class_ 60), (0, u "java/io/Serializable"), (13, u "isEmpty"), (0, u "()Z"), (1, u "size"), (0, u "()I"), (35, .class_ 115), (0, u "java/util/ImmutableCollections")] 3

def k18c0 : Code := { maxStack := 1, maxLocals := 1, code := jdk_45_method_2_code, exceptionTable := #[], attributes := #[] }
def k18m0 : Method := { name := "isEmpty", desc := "()Z", sig := { parameters := [], returnType := some .boolean }, accessFlags := 1, code := some k18c0 }
def k18c1 : Code := { maxStack := 1, maxLocals := 1, code := jdk_45_method_3_code, exceptionTable := #[], attributes := #[] }
def k18m1 : Method := { name := "size", desc := "()I", sig := { parameters := [], returnType := some .int }, accessFlags := 1, code := some k18c1 }
/-- java/util/ImmutableCollections$ListN -/
def k18 : Class := { plain "java/util/ImmutableCollections$ListN" (some 17) with
  accessFlags := 48
  interfaces := #[6]
  cf := some (fileOf pool18 8 #[.nestHost 114] #[{ accessFlags := 1, nameIndex := 74, descriptorIndex := 75, attributes := #[] }, { accessFlags := 1, nameIndex := 77, descriptorIndex := 78, attributes := #[] }] 48 2 #[59] #[{ accessFlags := 18, nameIndex := 11, descriptorIndex := 12, attributes := #[] }, { accessFlags := 18, nameIndex := 15, descriptorIndex := 16, attributes := #[] }])
  fields := #[{ name := "elements", type := (.array (.object "java/lang/Object")), accessFlags := 18, slot := 0, constantValue := 0 }, { name := "allowNulls", type := .boolean, accessFlags := 18, slot := 1, constantValue := 0 }]
  methods := #[k18m0, k18m1]
  instanceTypes := #[(.array (.object "java/lang/Object")), .boolean]
  staticTypes := #[]
  resolved := Array.replicate 119 none
  statics := none }

def pool19 : Array CpInfo := pool [(1, .methodref 2 3), (0, .class_ 4), (0, .nameAndType 5 6), (0, u "java/util/AbstractCollection"), (0, u "<init>"), (0, u "()V"), (0, .fieldref 8 9), (0, .class_ 10), (0, .nameAndType 11 12), (0, u "java/util/AbstractList"), (0, u "modCount"), (0, u "I"), (64, .class_ 78), (0, u "java/util/AbstractList$Itr"), (3, .class_ 83), (0, u "java/util/AbstractList$ListItr"), (9, .class_ 94), (0, u "java/util/AbstractList$RandomAccessSubList"), (3, .class_ 99), (0, u "java/util/AbstractList$SubList"), (33, .class_ 134), (0, u "java/util/List"), (73, .class_ 209), (0, u "java/util/AbstractList$SubList$1"), (0, .class_ 211), (0, u "java/util/AbstractList$RandomAccessSpliterator")] 6

def k19c0 : Code := { maxStack := 2, maxLocals := 1, code := jdk_39_method_1_code, exceptionTable := #[], attributes := #[] }
def k19m0 : Method := { name := "<init>", desc := "()V", sig := { parameters := [], returnType := none }, accessFlags := 4, code := some k19c0 }
/-- java/util/AbstractList -/
def k19 : Class := { plain "java/util/AbstractList" (some 14) with
  accessFlags := 1057
  interfaces := #[12]
  cf := some (fileOf pool19 8 #[.nestMembers #[93, 98, 208, 210, 82, 77]] #[{ accessFlags := 4, nameIndex := 5, descriptorIndex := 6, attributes := #[] }] 1057 2 #[133] #[{ accessFlags := 132, nameIndex := 11, descriptorIndex := 12, attributes := #[] }])
  fields := #[{ name := "modCount", type := .int, accessFlags := 132, slot := 0, constantValue := 0 }]
  methods := #[k19m0]
  instanceTypes := #[.int]
  staticTypes := #[]
  resolved := Array.replicate 218 none
  statics := none }

def pool20 : Array CpInfo := pool [(1, .class_ 2), (0, u "java/lang/Cloneable"), (0, .class_ 4), (0, u "java/lang/Object")] 2

/-- java/lang/Cloneable -/
def k20 : Class := { plain "java/lang/Cloneable" (some 0) with
  accessFlags := 1537
  interfaces := #[]
  cf := some (fileOf pool20 1 #[] #[] 1537 3 #[] #[])
  fields := #[]
  methods := #[]
  instanceTypes := #[]
  staticTypes := #[]
  resolved := Array.replicate 7 none
  statics := none }

def pool21 : Array CpInfo := pool [(1, .methodref 2 3), (0, .class_ 4), (0, .nameAndType 5 6), (0, u "java/util/AbstractList"), (0, u "<init>"), (0, u "()V"), (0, .class_ 8), (0, u "java/lang/Object"), (0, .fieldref 10 11), (0, .class_ 12), (0, .nameAndType 13 14), (0, u "java/util/ArrayList"), (0, u "elementData"), (0, u "[Ljava/lang/Object;"), (2, u "EMPTY_ELEMENTDATA"), (21, .fieldref 10 40), (0, .nameAndType 41 14), (0, u "DEFAULTCAPACITY_EMPTY_ELEMENTDATA"), (5, u "()[Ljava/lang/Object;"), (0, .fieldref 10 49), (0, .nameAndType 50 51), (0, u "size"), (0, u "I"), (11, .fieldref 10 64), (0, .nameAndType 65 51), (0, u "modCount"), (3, .methodref 10 70), (0, .nameAndType 71 72), (0, u "grow"), (0, u "(I)[Ljava/lang/Object;"), (6, .methodref 80 81), (0, .class_ 82), (0, .nameAndType 83 84), (0, u "java/lang/Math"), (0, u "max"), (0, u "(II)I"), (11, u "(Ljava/lang/Object;)Z"), (21, .methodref 119 120), (0, .class_ 121), (0, .nameAndType 122 84), (0, u "java/util/Objects"), (0, u "checkIndex"), (0, .methodref 10 124), (0, .nameAndType 13 125), (0, u "(I)Ljava/lang/Object;"), (3, .methodref 10 130), (0, .nameAndType 71 47), (0, .methodref 10 132), (0, .nameAndType 133 134), (0, u "add"), (0, u "(Ljava/lang/Object;[Ljava/lang/Object;I)V"), (13, .class_ 149), (0, u "java/util/List"), (36, u "()I"), (75, .class_ 263), (0, u "java/util/ArrayList$ListItr"), (3, .class_ 268), (0, u "java/util/ArrayList$Itr"), (7, .class_ 277), (0, u "java/util/ArrayList$SubList"), (12, .class_ 291), (0, u "java/util/ArrayList$ArrayListSpliterator"), (37, .class_ 330), (0, u "java/util/RandomAccess"), (0, .class_ 332), (0, u "java/lang/Cloneable"), (0, .class_ 334), (0, u "java/io/Serializable"), (0, u "serialVersionUID"), (0, u "J"), (3, u "DEFAULT_CAPACITY"), (40, u "get"), (118, .class_ 501), (0, u "java/util/ArrayList$SubList$2"), (0, .class_ 503), (0, u "java/util/ArrayList$SubList$1")] 5

def k21c0 : Code := { maxStack := 2, maxLocals := 1, code := jdk_38_method_2_code, exceptionTable := #[], attributes := #[] }
def k21m0 : Method := { name := "<init>", desc := "()V", sig := { parameters := [], returnType := none }, accessFlags := 1, code := some k21c0 }
def k21c1 : Code := { maxStack := 4, maxLocals := 4, code := jdk_38_method_6_code, exceptionTable := #[], attributes := #[] }
def k21m1 : Method := { name := "grow", desc := "(I)[Ljava/lang/Object;", sig := { parameters := [.int], returnType := some (.array (.object "java/lang/Object")) }, accessFlags := 2, code := some k21c1 }
def k21c2 : Code := { maxStack := 3, maxLocals := 1, code := jdk_38_method_7_code, exceptionTable := #[], attributes := #[] }
def k21m2 : Method := { name := "grow", desc := "()[Ljava/lang/Object;", sig := { parameters := [], returnType := some (.array (.object "java/lang/Object")) }, accessFlags := 2, code := some k21c2 }
def k21c3 : Code := { maxStack := 1, maxLocals := 1, code := jdk_38_method_8_code, exceptionTable := #[], attributes := #[] }
def k21m3 : Method := { name := "size", desc := "()I", sig := { parameters := [], returnType := some .int }, accessFlags := 1, code := some k21c3 }
def k21c4 : Code := { maxStack := 2, maxLocals := 2, code := jdk_38_method_18_code, exceptionTable := #[], attributes := #[] }
def k21m4 : Method := { name := "elementData", desc := "(I)Ljava/lang/Object;", sig := { parameters := [.int], returnType := some (.object "java/lang/Object") }, accessFlags := 0, code := some k21c4 }
def k21c5 : Code := { maxStack := 2, maxLocals := 2, code := jdk_38_method_20_code, exceptionTable := #[], attributes := #[] }
def k21m5 : Method := { name := "get", desc := "(I)Ljava/lang/Object;", sig := { parameters := [.int], returnType := some (.object "java/lang/Object") }, accessFlags := 1, code := some k21c5 }
def k21c6 : Code := { maxStack := 3, maxLocals := 4, code := jdk_38_method_24_code, exceptionTable := #[], attributes := #[] }
def k21m6 : Method := { name := "add", desc := "(Ljava/lang/Object;[Ljava/lang/Object;I)V", sig := { parameters := [(.object "java/lang/Object"), (.array (.object "java/lang/Object")), .int], returnType := none }, accessFlags := 2, code := some k21c6 }
def k21c7 : Code := { maxStack := 4, maxLocals := 2, code := jdk_38_method_25_code, exceptionTable := #[], attributes := #[] }
def k21m7 : Method := { name := "add", desc := "(Ljava/lang/Object;)Z", sig := { parameters := [(.object "java/lang/Object")], returnType := some .boolean }, accessFlags := 1, code := some k21c7 }
/-- java/util/ArrayList -/
def k21 : Class := { plain "java/util/ArrayList" (some 19) with
  accessFlags := 33
  interfaces := #[12, 16, 20, 6]
  cf := some (fileOf pool21 10 #[.nestMembers #[290, 276, 500, 502, 262, 267]] #[{ accessFlags := 1, nameIndex := 5, descriptorIndex := 6, attributes := #[] }, { accessFlags := 2, nameIndex := 71, descriptorIndex := 72, attributes := #[] }, { accessFlags := 2, nameIndex := 71, descriptorIndex := 47, attributes := #[] }, { accessFlags := 1, nameIndex := 50, descriptorIndex := 186, attributes := #[] }, { accessFlags := 0, nameIndex := 13, descriptorIndex := 125, attributes := #[] }, { accessFlags := 1, nameIndex := 381, descriptorIndex := 125, attributes := #[] }, { accessFlags := 2, nameIndex := 133, descriptorIndex := 134, attributes := #[] }, { accessFlags := 1, nameIndex := 133, descriptorIndex := 96, attributes := #[] }] 33 2 #[148, 329, 331, 333] #[{ accessFlags := 26, nameIndex := 335, descriptorIndex := 336, attributes := #[] }, { accessFlags := 26, nameIndex := 340, descriptorIndex := 51, attributes := #[] }, { accessFlags := 26, nameIndex := 17, descriptorIndex := 14, attributes := #[] }, { accessFlags := 26, nameIndex := 41, descriptorIndex := 14, attributes := #[] }, { accessFlags := 128, nameIndex := 13, descriptorIndex := 14, attributes := #[] }, { accessFlags := 2, nameIndex := 50, descriptorIndex := 51, attributes := #[] }])
  fields := #[{ name := "serialVersionUID", type := .long, accessFlags := 26, slot := 0, constantValue := 0 }, { name := "DEFAULT_CAPACITY", type := .int, accessFlags := 26, slot := 1, constantValue := 0 }, { name := "EMPTY_ELEMENTDATA", type := (.array (.object "java/lang/Object")), accessFlags := 26, slot := 2, constantValue := 0 }, { name := "DEFAULTCAPACITY_EMPTY_ELEMENTDATA", type := (.array (.object "java/lang/Object")), accessFlags := 26, slot := 3, constantValue := 0 }, { name := "elementData", type := (.array (.object "java/lang/Object")), accessFlags := 128, slot := 1, constantValue := 0 }, { name := "size", type := .int, accessFlags := 2, slot := 2, constantValue := 0 }]
  methods := #[k21m0, k21m1, k21m2, k21m3, k21m4, k21m5, k21m6, k21m7]
  instanceTypes := #[.int, (.array (.object "java/lang/Object")), .int]
  staticTypes := #[.long, .int, (.array (.object "java/lang/Object")), (.array (.object "java/lang/Object"))]
  resolved := Array.replicate 509 none
  statics := some 2 }

def pool22 : Array CpInfo := pool [(1, .methodref 2 3), (0, .class_ 4), (0, .nameAndType 5 6), (0, u "java/lang/Object"), (0, u "<init>"), (0, u "()V"), (0, .class_ 8), (0, u "java/lang/Record")] 13

def k22c0 : Code := { maxStack := 1, maxLocals := 1, code := jdk_30_method_1_code, exceptionTable := #[], attributes := #[] }
def k22m0 : Method := { name := "<init>", desc := "()V", sig := { parameters := [], returnType := none }, accessFlags := 4, code := some k22c0 }
/-- java/lang/Record -/
def k22 : Class := { plain "java/lang/Record" (some 0) with
  accessFlags := 1057
  interfaces := #[]
  cf := some (fileOf pool22 7 #[] #[{ accessFlags := 4, nameIndex := 5, descriptorIndex := 6, attributes := #[] }] 1057 2 #[] #[])
  fields := #[]
  methods := #[k22m0]
  instanceTypes := #[]
  staticTypes := #[]
  resolved := Array.replicate 22 none
  statics := none }

def pool23 : Array CpInfo := pool [(1, .methodref 2 3), (0, .class_ 4), (0, .nameAndType 5 6), (0, u "java/lang/Record"), (0, u "<init>"), (0, u "()V"), (0, .fieldref 8 9), (0, .class_ 10), (0, .nameAndType 11 12), (0, u "com/example/notation_search/notationsearch/math/Row$Script"), (0, u "relation"), (0, u "Lcom/example/notation_search/notationsearch/math/Relation;"), (0, .fieldref 8 14), (0, .nameAndType 15 16), (0, u "region"), (0, u "Lcom/example/notation_search/notationsearch/math/Row;"), (0, .fieldref 8 18), (0, .nameAndType 19 20), (0, u "before"), (0, u "Lcom/example/notation_search/notationsearch/math/Symbol;"), (12, u "(Lcom/example/notation_search/notationsearch/math/Relation;Lcom/example/notation_search/notationsearch/math/Row;Lcom/example/notation_search/notationsearch/math/Symbol;)V"), (6, u "()Lcom/example/notation_search/notationsearch/math/Relation;"), (0, u "()Lcom/example/notation_search/notationsearch/math/Row;"), (0, u "()Lcom/example/notation_search/notationsearch/math/Symbol;"), (3, .class_ 47), (0, u "com/example/notation_search/notationsearch/math/Row")] 21

def k23c0 : Code := { maxStack := 2, maxLocals := 4, code := prog_34_method_1_code, exceptionTable := #[], attributes := #[] }
def k23m0 : Method := { name := "<init>", desc := "(Lcom/example/notation_search/notationsearch/math/Relation;Lcom/example/notation_search/notationsearch/math/Row;Lcom/example/notation_search/notationsearch/math/Symbol;)V", sig := { parameters := [(.object "com/example/notation_search/notationsearch/math/Relation"), (.object "com/example/notation_search/notationsearch/math/Row"), (.object "com/example/notation_search/notationsearch/math/Symbol")], returnType := none }, accessFlags := 0, code := some k23c0 }
def k23c1 : Code := { maxStack := 1, maxLocals := 1, code := prog_34_method_5_code, exceptionTable := #[], attributes := #[] }
def k23m1 : Method := { name := "relation", desc := "()Lcom/example/notation_search/notationsearch/math/Relation;", sig := { parameters := [], returnType := some (.object "com/example/notation_search/notationsearch/math/Relation") }, accessFlags := 1, code := some k23c1 }
def k23c2 : Code := { maxStack := 1, maxLocals := 1, code := prog_34_method_6_code, exceptionTable := #[], attributes := #[] }
def k23m2 : Method := { name := "region", desc := "()Lcom/example/notation_search/notationsearch/math/Row;", sig := { parameters := [], returnType := some (.object "com/example/notation_search/notationsearch/math/Row") }, accessFlags := 1, code := some k23c2 }
def k23c3 : Code := { maxStack := 1, maxLocals := 1, code := prog_34_method_7_code, exceptionTable := #[], attributes := #[] }
def k23m3 : Method := { name := "before", desc := "()Lcom/example/notation_search/notationsearch/math/Symbol;", sig := { parameters := [], returnType := some (.object "com/example/notation_search/notationsearch/math/Symbol") }, accessFlags := 1, code := some k23c3 }
/-- com/example/notation_search/notationsearch/math/Row$Script -/
def k23 : Class := { plain "com/example/notation_search/notationsearch/math/Row$Script" (some 22) with
  accessFlags := 48
  interfaces := #[]
  cf := some (fileOf pool23 8 #[.nestHost 46] #[{ accessFlags := 0, nameIndex := 5, descriptorIndex := 33, attributes := #[] }, { accessFlags := 1, nameIndex := 11, descriptorIndex := 40, attributes := #[] }, { accessFlags := 1, nameIndex := 15, descriptorIndex := 41, attributes := #[] }, { accessFlags := 1, nameIndex := 19, descriptorIndex := 42, attributes := #[] }] 48 2 #[] #[{ accessFlags := 18, nameIndex := 11, descriptorIndex := 12, attributes := #[] }, { accessFlags := 18, nameIndex := 15, descriptorIndex := 16, attributes := #[] }, { accessFlags := 18, nameIndex := 19, descriptorIndex := 20, attributes := #[] }])
  fields := #[{ name := "relation", type := (.object "com/example/notation_search/notationsearch/math/Relation"), accessFlags := 18, slot := 0, constantValue := 0 }, { name := "region", type := (.object "com/example/notation_search/notationsearch/math/Row"), accessFlags := 18, slot := 1, constantValue := 0 }, { name := "before", type := (.object "com/example/notation_search/notationsearch/math/Symbol"), accessFlags := 18, slot := 2, constantValue := 0 }]
  methods := #[k23m0, k23m1, k23m2, k23m3]
  instanceTypes := #[(.object "com/example/notation_search/notationsearch/math/Relation"), (.object "com/example/notation_search/notationsearch/math/Row"), (.object "com/example/notation_search/notationsearch/math/Symbol")]
  staticTypes := #[]
  resolved := Array.replicate 69 none
  statics := none }

def pool24 : Array CpInfo := pool [(1, .class_ 2), (0, u "java/lang/Math"), (1, .class_ 6), (1, u "java/lang/Object"), (0, u "<init>"), (0, u "()V"), (89, .class_ 100), (1, u "java/lang/Math$RandomNumberGeneratorHolder"), (71, u "negativeZeroFloatBits"), (0, u "J"), (2, u "negativeZeroDoubleBits"), (21, u "max"), (46, u "$assertionsDisabled"), (0, u "Z"), (88, u "(II)I"), (2, u "twoToTheDoubleScaleDown"), (0, u "D"), (4, u "twoToTheDoubleScaleUp"), (9, u "E"), (3, u "PI"), (2, u "TAU"), (2, u "DEGREES_TO_RADIANS"), (0, u "RADIANS_TO_DEGREES")] 94

def k24m0 : Method := { name := "<init>", desc := "()V", sig := { parameters := [], returnType := none }, accessFlags := 2, code := none }
def k24c1 : Code := { maxStack := 2, maxLocals := 2, code := jdk_29_method_65_code, exceptionTable := #[], attributes := #[] }
def k24m1 : Method := { name := "max", desc := "(II)I", sig := { parameters := [.int, .int], returnType := some .int }, accessFlags := 9, code := some k24c1 }
/-- java/lang/Math -/
def k24 : Class := { plain "java/lang/Math" (some 0) with
  accessFlags := 49
  interfaces := #[]
  cf := some (fileOf pool24 1 #[.nestMembers #[98]] #[{ accessFlags := 2, nameIndex := 7, descriptorIndex := 8, attributes := #[] }, { accessFlags := 9, nameIndex := 198, descriptorIndex := 335, attributes := #[] }] 49 4 #[] #[{ accessFlags := 25, nameIndex := 354, descriptorIndex := 339, attributes := #[] }, { accessFlags := 25, nameIndex := 358, descriptorIndex := 339, attributes := #[] }, { accessFlags := 25, nameIndex := 361, descriptorIndex := 339, attributes := #[] }, { accessFlags := 26, nameIndex := 364, descriptorIndex := 339, attributes := #[] }, { accessFlags := 26, nameIndex := 365, descriptorIndex := 339, attributes := #[] }, { accessFlags := 26, nameIndex := 172, descriptorIndex := 173, attributes := #[] }, { accessFlags := 26, nameIndex := 176, descriptorIndex := 173, attributes := #[] }, { accessFlags := 8, nameIndex := 344, descriptorIndex := 339, attributes := #[] }, { accessFlags := 8, nameIndex := 338, descriptorIndex := 339, attributes := #[] }, { accessFlags := 4120, nameIndex := 245, descriptorIndex := 246, attributes := #[] }])
  fields := #[{ name := "E", type := .double, accessFlags := 25, slot := 0, constantValue := 0 }, { name := "PI", type := .double, accessFlags := 25, slot := 1, constantValue := 0 }, { name := "TAU", type := .double, accessFlags := 25, slot := 2, constantValue := 0 }, { name := "DEGREES_TO_RADIANS", type := .double, accessFlags := 26, slot := 3, constantValue := 0 }, { name := "RADIANS_TO_DEGREES", type := .double, accessFlags := 26, slot := 4, constantValue := 0 }, { name := "negativeZeroFloatBits", type := .long, accessFlags := 26, slot := 5, constantValue := 0 }, { name := "negativeZeroDoubleBits", type := .long, accessFlags := 26, slot := 6, constantValue := 0 }, { name := "twoToTheDoubleScaleUp", type := .double, accessFlags := 8, slot := 7, constantValue := 0 }, { name := "twoToTheDoubleScaleDown", type := .double, accessFlags := 8, slot := 8, constantValue := 0 }, { name := "$assertionsDisabled", type := .boolean, accessFlags := 4120, slot := 9, constantValue := 0 }]
  methods := #[k24m0, k24m1]
  instanceTypes := #[]
  staticTypes := #[.double, .double, .double, .double, .double, .long, .long, .double, .double, .boolean]
  resolved := Array.replicate 460 none
  statics := none }

def pool25 : Array CpInfo := pool [(2, .class_ 4), (1, u "java/lang/Object"), (0, u "<init>"), (0, u "()V"), (35, .class_ 44), (1, u "java/util/Objects"), (60, .methodref 106 107), (0, .class_ 108), (0, .nameAndType 109 110), (0, u "jdk/internal/util/Preconditions"), (0, u "checkIndex"), (0, u "(IILjava/util/function/BiFunction;)I"), (60, u "(II)I")] 12

def k25m0 : Method := { name := "<init>", desc := "()V", sig := { parameters := [], returnType := none }, accessFlags := 2, code := none }
def k25c1 : Code := { maxStack := 3, maxLocals := 2, code := jdk_31_method_17_code, exceptionTable := #[], attributes := #[] }
def k25m1 : Method := { name := "checkIndex", desc := "(II)I", sig := { parameters := [.int, .int], returnType := some .int }, accessFlags := 9, code := some k25c1 }
/-- java/util/Objects -/
def k25 : Class := { plain "java/util/Objects" (some 0) with
  accessFlags := 49
  interfaces := #[]
  cf := some (fileOf pool25 42 #[] #[{ accessFlags := 2, nameIndex := 5, descriptorIndex := 6, attributes := #[] }, { accessFlags := 9, nameIndex := 109, descriptorIndex := 171, attributes := #[] }] 49 2 #[] #[])
  fields := #[]
  methods := #[k25m0, k25m1]
  instanceTypes := #[]
  staticTypes := #[]
  resolved := Array.replicate 184 none
  statics := none }

def pool26 : Array CpInfo := pool [(2, .class_ 4), (1, u "java/lang/Object"), (0, u "<init>"), (0, u "()V"), (17, .class_ 26), (1, u "jdk/internal/util/Preconditions"), (6, u "checkIndex"), (21, .class_ 56), (0, u "jdk/internal/util/Preconditions$4"), (57, .class_ 115), (0, u "jdk/internal/util/Preconditions$1"), (7, u "SIOOBE_FORMATTER"), (0, u "Ljava/util/function/BiFunction;"), (0, .class_ 126), (0, u "jdk/internal/util/Preconditions$2"), (3, u "AIOOBE_FORMATTER"), (0, .class_ 132), (0, u "jdk/internal/util/Preconditions$3"), (3, u "IOOBE_FORMATTER"), (41, u "(IILjava/util/function/BiFunction;)I")] 15

def k26m0 : Method := { name := "<init>", desc := "()V", sig := { parameters := [], returnType := none }, accessFlags := 1, code := none }
def k26c1 : Code := { maxStack := 3, maxLocals := 3, code := jdk_41_method_11_code, exceptionTable := #[], attributes := #[] }
def k26m1 : Method := { name := "checkIndex", desc := "(IILjava/util/function/BiFunction;)I", sig := { parameters := [.int, .int, (.object "java/util/function/BiFunction")], returnType := some .int }, accessFlags := 9, code := some k26c1 }
/-- jdk/internal/util/Preconditions -/
def k26 : Class := { plain "jdk/internal/util/Preconditions" (some 0) with
  accessFlags := 33
  interfaces := #[]
  cf := some (fileOf pool26 24 #[.nestMembers #[55, 131, 125, 114]] #[{ accessFlags := 1, nameIndex := 5, descriptorIndex := 6, attributes := #[] }, { accessFlags := 9, nameIndex := 33, descriptorIndex := 178, attributes := #[] }] 33 2 #[] #[{ accessFlags := 25, nameIndex := 123, descriptorIndex := 124, attributes := #[] }, { accessFlags := 25, nameIndex := 130, descriptorIndex := 124, attributes := #[] }, { accessFlags := 25, nameIndex := 136, descriptorIndex := 124, attributes := #[] }])
  fields := #[{ name := "SIOOBE_FORMATTER", type := (.object "java/util/function/BiFunction"), accessFlags := 25, slot := 0, constantValue := 0 }, { name := "AIOOBE_FORMATTER", type := (.object "java/util/function/BiFunction"), accessFlags := 25, slot := 1, constantValue := 0 }, { name := "IOOBE_FORMATTER", type := (.object "java/util/function/BiFunction"), accessFlags := 25, slot := 2, constantValue := 0 }]
  methods := #[k26m0, k26m1]
  instanceTypes := #[]
  staticTypes := #[(.object "java/util/function/BiFunction"), (.object "java/util/function/BiFunction"), (.object "java/util/function/BiFunction")]
  resolved := Array.replicate 194 none
  statics := none }

/-- the primitive byte -/
def k27 : Class := { plain "byte" none with kind := .primitive 'B', accessFlags := 0x411 }
/-- [B -/
def k28 : Class := { plain "[B" (some 0) with kind := .array 27 .byte, interfaces := #[20, 6], accessFlags := 1041 }

/-- the primitive int -/
def k29 : Class := { plain "int" none with kind := .primitive 'I', accessFlags := 0x411 }
/-- [I -/
def k30 : Class := { plain "[I" (some 0) with kind := .array 29 .int, interfaces := #[20, 6], accessFlags := 1041 }

/-- [Ljava/lang/Object; -/
def k31 : Class := { plain "[Ljava/lang/Object;" (some 0) with kind := .array 0 (.object "java/lang/Object"), interfaces := #[20, 6], accessFlags := 1041 }

def heap : Heap := #[{ cls := 8, slots := #[.ref 3, .ref 3, .ref 3, .ref 3, .ref 3, .ref 3, .ref 3, .ref 3, .null], vm := .statics 8 },
  { cls := 13, slots := #[.long 0, .int 0, .null, .null, .ref 4, .null, .null, .null, .int 0, .int 0], vm := .statics 13 },
  { cls := 21, slots := #[.long 0, .int 0, .ref 5, .ref 6], vm := .statics 21 },
  { cls := 8, slots := #[.null, .int 0, .int 0, .int 0], vm := .none },
  { cls := 18, slots := #[.ref 5, .int 0], vm := .none },
  { cls := 31, slots := #[], vm := .none },
  { cls := 31, slots := #[], vm := .none }]
def classes : Array Class := #[k0, k1, k2, k3, k4, k5, k6, k7, k8, k9, k10, k11, k12, k13, k14, k15, k16, k17, k18, k19, k20, k21, k22, k23, k24, k25, k26, k27, k28, k29, k30, k31]
def interned : List (Array UInt16 × Addr) := []
def slotsUsed : Nat := 29
def theMethod : MethodId := ⟨1, 3⟩
def args0 : Array Value := #[.int 5, .int 7, .int 3, .int 9, .int 1]
def aboutOver (below : List Frame) : State where
  vm := { classes := classes, interned := interned.toArray }
  heap := heap
  slotsUsed := slotsUsed
  threads := #[{ frames := .invoking theMethod args0 :: below }]
def below0 : List Frame := [.native { method := ⟨0, 0⟩, args := #[] }]
def about1 : State := aboutOver below0
def p0 : Program := .bare "" "" ""
def e0 : Env := launch0.env 0 0 0
theorem w_frames : about1.frames = Frame.invoking theMethod args0 :: below0 := rfl
set_option maxRecDepth 65536 in
theorem w_args : argsFit about1.vm theMethod args0 = true := by decide +kernel
set_option maxRecDepth 65536 in
theorem w_heap : heapFits about1 = true := by decide +kernel
set_option maxRecDepth 65536 in
theorem w_runnable : about1.curStatus? = some .runnable := by decide +kernel
set_option maxRecDepth 65536 in
theorem w_alone : about1.alone = true := by decide +kernel
set_option maxRecDepth 65536 in
theorem w_named : about1.methodNamed? x = some theMethod := by decide +kernel
set_option maxRecDepth 65536 in
theorem w_hears : about1.hears theMethod below0 = true := by decide +kernel
set_option maxRecDepth 65536 in
theorem w_ripe : about1.ripe theMethod args0 below0 = true := by decide +kernel
theorem w_running : about1.status = .running := rfl
set_option maxRecDepth 65536 in
theorem w_room : about1.hasRoom e0.platform room_1 = true :=
  launch0.hasRoom_least _ room_1 (by decide +kernel) (by decide +kernel) (by decide +kernel) (by decide +kernel) (by decide +kernel) (by decide +kernel)
theorem allAtoms_all (ts : List Jvm.Cond) (a : Array Jvm.Value) (st : Jvm.State) : (allAtoms ts).before a st = ts.all (fun c => c.before a st) := by
  induction ts with
  | nil => rfl
  | cons c t ih =>
    show (Jvm.Cond.and c (allAtoms t)).before a st = _
    rw [Jvm.Cond.before_and, ih, List.all_cons]
def words1 : List Jvm.Cond := Jvm.Cond.code x code maxLocals ret :: tables_1
/-- a 'code' word, met by the world's own term for the bytes: nothing is compared byte by byte -/
theorem code_word {y : MethodName} {bytes : ByteArray} {mx : Nat} {rt : Option FieldType} {a : Array Value} {s : State} {m : MethodId} {meth : Method} {c : Code} (h1 : s.methodNamed? y = some m) (h2 : s.vm.method? m = some meth) (h3 : meth.code = some c) (h4 : c.code = bytes)
    (h5 : (c.maxLocals == mx && c.exceptionTable.isEmpty && decide (c.maxStack ≤ mostOperands) && decide (meth.sig.returnType = rt) && !meth.locks && decide (parseMethodDescriptor y.desc = some meth.sig)) = true) : (Jvm.Cond.code y bytes mx rt).before a s = true := by
  simp only [Bool.and_eq_true, beq_iff_eq, Bool.not_eq_true', decide_eq_true_eq] at h5
  obtain ⟨⟨⟨⟨⟨g1, g2⟩, g3⟩, g4⟩, g5⟩, g6⟩ := h5
  simp [Cond.before, Cond.holds, Cond.value, h1, h2, h3, h4, g1, g2, g3, g4, g5, g6]
def isCode : Jvm.Cond → Bool
  | .code _ _ _ _ => true
  | _ => false
theorem all_split {L : List Jvm.Cond} {P : Jvm.Cond → Bool} (h1 : L.all (fun c => isCode c || P c) = true) (h2 : ∀ c ∈ L.filter isCode, P c = true) : L.all P = true := by
  refine List.all_eq_true.mpr fun c hc => ?_
  have h := List.all_eq_true.mp h1 c hc
  rcases Bool.eq_false_or_eq_true (isCode c) with hi | hi
  · exact h2 c (List.mem_filter.mpr ⟨hc, hi⟩)
  · simpa [hi] using h
set_option maxRecDepth 65536 in
theorem w_c0 : (Jvm.Cond.code x code maxLocals ret).before args0 about1 = true := code_word (m := ⟨1, 3⟩) (meth := k1m3) (c := k1c3) (by decide +kernel) rfl rfl rfl (by decide +kernel)
set_option maxRecDepth 65536 in
theorem w_c1 : (Jvm.Cond.code ({ cls := "com/example/notation_search/notationsearch/math/SymbolCount", name := "<init>", desc := "()V" } : Jvm.MethodName) prog_38_method_1_code (1 : Nat) (Option.none : Option Jvm.ClassFile.FieldType)).before args0 about1 = true := code_word (m := ⟨2, 0⟩) (meth := k2m0) (c := k2c0) (by decide +kernel) rfl rfl rfl (by decide +kernel)
set_option maxRecDepth 65536 in
theorem w_c2 : (Jvm.Cond.code ({ cls := "java/lang/Object", name := "<init>", desc := "()V" } : Jvm.MethodName) object_method_1_code (1 : Nat) (Option.none : Option Jvm.ClassFile.FieldType)).before args0 about1 = true := code_word (m := ⟨0, 0⟩) (meth := k0m0) (c := k0c0) (by decide +kernel) rfl rfl rfl (by decide +kernel)
set_option maxRecDepth 65536 in
theorem w_c3 : (Jvm.Cond.code ({ cls := "com/example/notation_search/notationsearch/math/Row", name := "<init>", desc := "(Lcom/example/notation_search/notationsearch/math/SymbolCount;)V" } : Jvm.MethodName) prog_33_method_1_code (2 : Nat) (Option.none : Option Jvm.ClassFile.FieldType)).before args0 about1 = true := code_word (m := ⟨3, 0⟩) (meth := k3m0) (c := k3c0) (by decide +kernel) rfl rfl rfl (by decide +kernel)
set_option maxRecDepth 65536 in
theorem w_c4 : (Jvm.Cond.code ({ cls := "com/example/notation_search/notationsearch/math/RowReleasePinLaw", name := "relation", desc := "(I)Lcom/example/notation_search/notationsearch/math/Relation;" } : Jvm.MethodName) method_2_code (2 : Nat) (Option.some (Jvm.ClassFile.FieldType.object "com/example/notation_search/notationsearch/math/Relation"))).before args0 about1 = true := code_word (m := ⟨1, 1⟩) (meth := k1m1) (c := k1c1) (by decide +kernel) rfl rfl rfl (by decide +kernel)
set_option maxRecDepth 65536 in
theorem w_c5 : (Jvm.Cond.code ({ cls := "com/example/notation_search/notationsearch/math/Row", name := "release", desc := "()Ljava/util/List;" } : Jvm.MethodName) prog_33_method_9_code (2 : Nat) (Option.some (Jvm.ClassFile.FieldType.object "java/util/List"))).before args0 about1 = true := code_word (m := ⟨3, 4⟩) (meth := k3m4) (c := k3c4) (by decide +kernel) rfl rfl rfl (by decide +kernel)
set_option maxRecDepth 65536 in
theorem w_c6 : (Jvm.Cond.code ({ cls := "java/util/List", name := "of", desc := "()Ljava/util/List;" } : Jvm.MethodName) jdk_40_method_36_code (0 : Nat) (Option.some (Jvm.ClassFile.FieldType.object "java/util/List"))).before args0 about1 = true := code_word (m := ⟨12, 4⟩) (meth := k12m4) (c := k12c4) (by decide +kernel) rfl rfl rfl (by decide +kernel)
set_option maxRecDepth 65536 in
theorem w_c7 : (Jvm.Cond.code ({ cls := "java/util/ImmutableCollections$ListN", name := "size", desc := "()I" } : Jvm.MethodName) jdk_45_method_3_code (1 : Nat) (Option.some Jvm.ClassFile.FieldType.int)).before args0 about1 = true := code_word (m := ⟨18, 1⟩) (meth := k18m1) (c := k18c1) (by decide +kernel) rfl rfl rfl (by decide +kernel)
set_option maxRecDepth 65536 in
theorem w_c8 : (Jvm.Cond.code ({ cls := "java/util/ImmutableCollections$ListN", name := "isEmpty", desc := "()Z" } : Jvm.MethodName) jdk_45_method_2_code (1 : Nat) (Option.some Jvm.ClassFile.FieldType.boolean)).before args0 about1 = true := code_word (m := ⟨18, 0⟩) (meth := k18m0) (c := k18c0) (by decide +kernel) rfl rfl rfl (by decide +kernel)
set_option maxRecDepth 65536 in
theorem w_c9 : (Jvm.Cond.code ({ cls := "com/example/notation_search/notationsearch/math/Row", name := "followed", desc := "()Ljava/util/List;" } : Jvm.MethodName) prog_33_method_8_code (1 : Nat) (Option.some (Jvm.ClassFile.FieldType.object "java/util/List"))).before args0 about1 = true := code_word (m := ⟨3, 3⟩) (meth := k3m3) (c := k3c3) (by decide +kernel) rfl rfl rfl (by decide +kernel)
set_option maxRecDepth 65536 in
theorem w_c10 : (Jvm.Cond.code ({ cls := "com/example/notation_search/notationsearch/math/Row", name := "hold", desc := "(Lcom/example/notation_search/notationsearch/math/Relation;Lcom/example/notation_search/notationsearch/math/Row;)V" } : Jvm.MethodName) prog_33_method_7_code (3 : Nat) (Option.none : Option Jvm.ClassFile.FieldType)).before args0 about1 = true := code_word (m := ⟨3, 2⟩) (meth := k3m2) (c := k3c2) (by decide +kernel) rfl rfl rfl (by decide +kernel)
set_option maxRecDepth 65536 in
theorem w_c11 : (Jvm.Cond.code ({ cls := "java/util/ArrayList", name := "<init>", desc := "()V" } : Jvm.MethodName) jdk_38_method_2_code (1 : Nat) (Option.none : Option Jvm.ClassFile.FieldType)).before args0 about1 = true := code_word (m := ⟨21, 0⟩) (meth := k21m0) (c := k21c0) (by decide +kernel) rfl rfl rfl (by decide +kernel)
set_option maxRecDepth 65536 in
theorem w_c12 : (Jvm.Cond.code ({ cls := "java/util/AbstractList", name := "<init>", desc := "()V" } : Jvm.MethodName) jdk_39_method_1_code (1 : Nat) (Option.none : Option Jvm.ClassFile.FieldType)).before args0 about1 = true := code_word (m := ⟨19, 0⟩) (meth := k19m0) (c := k19c0) (by decide +kernel) rfl rfl rfl (by decide +kernel)
set_option maxRecDepth 65536 in
theorem w_c13 : (Jvm.Cond.code ({ cls := "java/util/AbstractCollection", name := "<init>", desc := "()V" } : Jvm.MethodName) jdk_22_method_1_code (1 : Nat) (Option.none : Option Jvm.ClassFile.FieldType)).before args0 about1 = true := code_word (m := ⟨14, 0⟩) (meth := k14m0) (c := k14c0) (by decide +kernel) rfl rfl rfl (by decide +kernel)
set_option maxRecDepth 65536 in
theorem w_c14 : (Jvm.Cond.code ({ cls := "com/example/notation_search/notationsearch/math/Row$Script", name := "<init>", desc := "(Lcom/example/notation_search/notationsearch/math/Relation;Lcom/example/notation_search/notationsearch/math/Row;Lcom/example/notation_search/notationsearch/math/Symbol;)V" } : Jvm.MethodName) prog_34_method_1_code (4 : Nat) (Option.none : Option Jvm.ClassFile.FieldType)).before args0 about1 = true := code_word (m := ⟨23, 0⟩) (meth := k23m0) (c := k23c0) (by decide +kernel) rfl rfl rfl (by decide +kernel)
set_option maxRecDepth 65536 in
theorem w_c15 : (Jvm.Cond.code ({ cls := "java/lang/Record", name := "<init>", desc := "()V" } : Jvm.MethodName) jdk_30_method_1_code (1 : Nat) (Option.none : Option Jvm.ClassFile.FieldType)).before args0 about1 = true := code_word (m := ⟨22, 0⟩) (meth := k22m0) (c := k22c0) (by decide +kernel) rfl rfl rfl (by decide +kernel)
set_option maxRecDepth 65536 in
theorem w_c16 : (Jvm.Cond.code ({ cls := "java/util/ArrayList", name := "add", desc := "(Ljava/lang/Object;)Z" } : Jvm.MethodName) jdk_38_method_25_code (2 : Nat) (Option.some Jvm.ClassFile.FieldType.boolean)).before args0 about1 = true := code_word (m := ⟨21, 7⟩) (meth := k21m7) (c := k21c7) (by decide +kernel) rfl rfl rfl (by decide +kernel)
set_option maxRecDepth 65536 in
theorem w_c17 : (Jvm.Cond.code ({ cls := "java/util/ArrayList", name := "add", desc := "(Ljava/lang/Object;[Ljava/lang/Object;I)V" } : Jvm.MethodName) jdk_38_method_24_code (4 : Nat) (Option.none : Option Jvm.ClassFile.FieldType)).before args0 about1 = true := code_word (m := ⟨21, 6⟩) (meth := k21m6) (c := k21c6) (by decide +kernel) rfl rfl rfl (by decide +kernel)
set_option maxRecDepth 65536 in
theorem w_c18 : (Jvm.Cond.code ({ cls := "java/util/ArrayList", name := "grow", desc := "()[Ljava/lang/Object;" } : Jvm.MethodName) jdk_38_method_7_code (1 : Nat) (Option.some (Jvm.ClassFile.FieldType.array (Jvm.ClassFile.FieldType.object "java/lang/Object")))).before args0 about1 = true := code_word (m := ⟨21, 2⟩) (meth := k21m2) (c := k21c2) (by decide +kernel) rfl rfl rfl (by decide +kernel)
set_option maxRecDepth 65536 in
theorem w_c19 : (Jvm.Cond.code ({ cls := "java/util/ArrayList", name := "grow", desc := "(I)[Ljava/lang/Object;" } : Jvm.MethodName) jdk_38_method_6_code (4 : Nat) (Option.some (Jvm.ClassFile.FieldType.array (Jvm.ClassFile.FieldType.object "java/lang/Object")))).before args0 about1 = true := code_word (m := ⟨21, 1⟩) (meth := k21m1) (c := k21c1) (by decide +kernel) rfl rfl rfl (by decide +kernel)
set_option maxRecDepth 65536 in
theorem w_c20 : (Jvm.Cond.code ({ cls := "java/lang/Math", name := "max", desc := "(II)I" } : Jvm.MethodName) jdk_29_method_65_code (2 : Nat) (Option.some Jvm.ClassFile.FieldType.int)).before args0 about1 = true := code_word (m := ⟨24, 1⟩) (meth := k24m1) (c := k24c1) (by decide +kernel) rfl rfl rfl (by decide +kernel)
set_option maxRecDepth 65536 in
theorem w_c21 : (Jvm.Cond.code ({ cls := "com/example/notation_search/notationsearch/math/Row", name := "append", desc := "(Lcom/example/notation_search/notationsearch/math/Row;)V" } : Jvm.MethodName) prog_33_method_6_code (2 : Nat) (Option.none : Option Jvm.ClassFile.FieldType)).before args0 about1 = true := code_word (m := ⟨3, 1⟩) (meth := k3m1) (c := k3c1) (by decide +kernel) rfl rfl rfl (by decide +kernel)
set_option maxRecDepth 65536 in
theorem w_c22 : (Jvm.Cond.code ({ cls := "java/util/ArrayList", name := "size", desc := "()I" } : Jvm.MethodName) jdk_38_method_8_code (1 : Nat) (Option.some Jvm.ClassFile.FieldType.int)).before args0 about1 = true := code_word (m := ⟨21, 3⟩) (meth := k21m3) (c := k21c3) (by decide +kernel) rfl rfl rfl (by decide +kernel)
set_option maxRecDepth 65536 in
theorem w_c23 : (Jvm.Cond.code ({ cls := "java/util/ArrayList", name := "get", desc := "(I)Ljava/lang/Object;" } : Jvm.MethodName) jdk_38_method_20_code (2 : Nat) (Option.some (Jvm.ClassFile.FieldType.object "java/lang/Object"))).before args0 about1 = true := code_word (m := ⟨21, 5⟩) (meth := k21m5) (c := k21c5) (by decide +kernel) rfl rfl rfl (by decide +kernel)
set_option maxRecDepth 65536 in
theorem w_c24 : (Jvm.Cond.code ({ cls := "java/util/Objects", name := "checkIndex", desc := "(II)I" } : Jvm.MethodName) jdk_31_method_17_code (2 : Nat) (Option.some Jvm.ClassFile.FieldType.int)).before args0 about1 = true := code_word (m := ⟨25, 1⟩) (meth := k25m1) (c := k25c1) (by decide +kernel) rfl rfl rfl (by decide +kernel)
set_option maxRecDepth 65536 in
theorem w_c25 : (Jvm.Cond.code ({ cls := "jdk/internal/util/Preconditions", name := "checkIndex", desc := "(IILjava/util/function/BiFunction;)I" } : Jvm.MethodName) jdk_41_method_11_code (3 : Nat) (Option.some Jvm.ClassFile.FieldType.int)).before args0 about1 = true := code_word (m := ⟨26, 1⟩) (meth := k26m1) (c := k26c1) (by decide +kernel) rfl rfl rfl (by decide +kernel)
set_option maxRecDepth 65536 in
theorem w_c26 : (Jvm.Cond.code ({ cls := "java/util/ArrayList", name := "elementData", desc := "(I)Ljava/lang/Object;" } : Jvm.MethodName) jdk_38_method_18_code (2 : Nat) (Option.some (Jvm.ClassFile.FieldType.object "java/lang/Object"))).before args0 about1 = true := code_word (m := ⟨21, 4⟩) (meth := k21m4) (c := k21c4) (by decide +kernel) rfl rfl rfl (by decide +kernel)
set_option maxRecDepth 65536 in
theorem w_c27 : (Jvm.Cond.code ({ cls := "com/example/notation_search/notationsearch/math/RowReleasePinLaw", name := "same", desc := "(Lcom/example/notation_search/notationsearch/math/Row$Script;Lcom/example/notation_search/notationsearch/math/Relation;Lcom/example/notation_search/notationsearch/math/Row;)Z" } : Jvm.MethodName) method_3_code (3 : Nat) (Option.some Jvm.ClassFile.FieldType.boolean)).before args0 about1 = true := code_word (m := ⟨1, 2⟩) (meth := k1m2) (c := k1c2) (by decide +kernel) rfl rfl rfl (by decide +kernel)
set_option maxRecDepth 65536 in
theorem w_c28 : (Jvm.Cond.code ({ cls := "com/example/notation_search/notationsearch/math/Row$Script", name := "relation", desc := "()Lcom/example/notation_search/notationsearch/math/Relation;" } : Jvm.MethodName) prog_34_method_5_code (1 : Nat) (Option.some (Jvm.ClassFile.FieldType.object "com/example/notation_search/notationsearch/math/Relation"))).before args0 about1 = true := code_word (m := ⟨23, 1⟩) (meth := k23m1) (c := k23c1) (by decide +kernel) rfl rfl rfl (by decide +kernel)
set_option maxRecDepth 65536 in
theorem w_c29 : (Jvm.Cond.code ({ cls := "com/example/notation_search/notationsearch/math/Row$Script", name := "region", desc := "()Lcom/example/notation_search/notationsearch/math/Row;" } : Jvm.MethodName) prog_34_method_6_code (1 : Nat) (Option.some (Jvm.ClassFile.FieldType.object "com/example/notation_search/notationsearch/math/Row"))).before args0 about1 = true := code_word (m := ⟨23, 2⟩) (meth := k23m2) (c := k23c2) (by decide +kernel) rfl rfl rfl (by decide +kernel)
set_option maxRecDepth 65536 in
theorem w_c30 : (Jvm.Cond.code ({ cls := "com/example/notation_search/notationsearch/math/Row$Script", name := "before", desc := "()Lcom/example/notation_search/notationsearch/math/Symbol;" } : Jvm.MethodName) prog_34_method_7_code (1 : Nat) (Option.some (Jvm.ClassFile.FieldType.object "com/example/notation_search/notationsearch/math/Symbol"))).before args0 about1 = true := code_word (m := ⟨23, 3⟩) (meth := k23m3) (c := k23c3) (by decide +kernel) rfl rfl rfl (by decide +kernel)
def codes1 : List Jvm.Cond := [Jvm.Cond.code x code maxLocals ret, Jvm.Cond.code ({ cls := "com/example/notation_search/notationsearch/math/SymbolCount", name := "<init>", desc := "()V" } : Jvm.MethodName) prog_38_method_1_code (1 : Nat) (Option.none : Option Jvm.ClassFile.FieldType), Jvm.Cond.code ({ cls := "java/lang/Object", name := "<init>", desc := "()V" } : Jvm.MethodName) object_method_1_code (1 : Nat) (Option.none : Option Jvm.ClassFile.FieldType), Jvm.Cond.code ({ cls := "com/example/notation_search/notationsearch/math/Row", name := "<init>", desc := "(Lcom/example/notation_search/notationsearch/math/SymbolCount;)V" } : Jvm.MethodName) prog_33_method_1_code (2 : Nat) (Option.none : Option Jvm.ClassFile.FieldType), Jvm.Cond.code ({ cls := "com/example/notation_search/notationsearch/math/RowReleasePinLaw", name := "relation", desc := "(I)Lcom/example/notation_search/notationsearch/math/Relation;" } : Jvm.MethodName) method_2_code (2 : Nat) (Option.some (Jvm.ClassFile.FieldType.object "com/example/notation_search/notationsearch/math/Relation")), Jvm.Cond.code ({ cls := "com/example/notation_search/notationsearch/math/Row", name := "release", desc := "()Ljava/util/List;" } : Jvm.MethodName) prog_33_method_9_code (2 : Nat) (Option.some (Jvm.ClassFile.FieldType.object "java/util/List")), Jvm.Cond.code ({ cls := "java/util/List", name := "of", desc := "()Ljava/util/List;" } : Jvm.MethodName) jdk_40_method_36_code (0 : Nat) (Option.some (Jvm.ClassFile.FieldType.object "java/util/List")), Jvm.Cond.code ({ cls := "java/util/ImmutableCollections$ListN", name := "size", desc := "()I" } : Jvm.MethodName) jdk_45_method_3_code (1 : Nat) (Option.some Jvm.ClassFile.FieldType.int), Jvm.Cond.code ({ cls := "java/util/ImmutableCollections$ListN", name := "isEmpty", desc := "()Z" } : Jvm.MethodName) jdk_45_method_2_code (1 : Nat) (Option.some Jvm.ClassFile.FieldType.boolean), Jvm.Cond.code ({ cls := "com/example/notation_search/notationsearch/math/Row", name := "followed", desc := "()Ljava/util/List;" } : Jvm.MethodName) prog_33_method_8_code (1 : Nat) (Option.some (Jvm.ClassFile.FieldType.object "java/util/List")), Jvm.Cond.code ({ cls := "com/example/notation_search/notationsearch/math/Row", name := "hold", desc := "(Lcom/example/notation_search/notationsearch/math/Relation;Lcom/example/notation_search/notationsearch/math/Row;)V" } : Jvm.MethodName) prog_33_method_7_code (3 : Nat) (Option.none : Option Jvm.ClassFile.FieldType), Jvm.Cond.code ({ cls := "java/util/ArrayList", name := "<init>", desc := "()V" } : Jvm.MethodName) jdk_38_method_2_code (1 : Nat) (Option.none : Option Jvm.ClassFile.FieldType), Jvm.Cond.code ({ cls := "java/util/AbstractList", name := "<init>", desc := "()V" } : Jvm.MethodName) jdk_39_method_1_code (1 : Nat) (Option.none : Option Jvm.ClassFile.FieldType), Jvm.Cond.code ({ cls := "java/util/AbstractCollection", name := "<init>", desc := "()V" } : Jvm.MethodName) jdk_22_method_1_code (1 : Nat) (Option.none : Option Jvm.ClassFile.FieldType), Jvm.Cond.code ({ cls := "com/example/notation_search/notationsearch/math/Row$Script", name := "<init>", desc := "(Lcom/example/notation_search/notationsearch/math/Relation;Lcom/example/notation_search/notationsearch/math/Row;Lcom/example/notation_search/notationsearch/math/Symbol;)V" } : Jvm.MethodName) prog_34_method_1_code (4 : Nat) (Option.none : Option Jvm.ClassFile.FieldType), Jvm.Cond.code ({ cls := "java/lang/Record", name := "<init>", desc := "()V" } : Jvm.MethodName) jdk_30_method_1_code (1 : Nat) (Option.none : Option Jvm.ClassFile.FieldType), Jvm.Cond.code ({ cls := "java/util/ArrayList", name := "add", desc := "(Ljava/lang/Object;)Z" } : Jvm.MethodName) jdk_38_method_25_code (2 : Nat) (Option.some Jvm.ClassFile.FieldType.boolean), Jvm.Cond.code ({ cls := "java/util/ArrayList", name := "add", desc := "(Ljava/lang/Object;[Ljava/lang/Object;I)V" } : Jvm.MethodName) jdk_38_method_24_code (4 : Nat) (Option.none : Option Jvm.ClassFile.FieldType), Jvm.Cond.code ({ cls := "java/util/ArrayList", name := "grow", desc := "()[Ljava/lang/Object;" } : Jvm.MethodName) jdk_38_method_7_code (1 : Nat) (Option.some (Jvm.ClassFile.FieldType.array (Jvm.ClassFile.FieldType.object "java/lang/Object"))), Jvm.Cond.code ({ cls := "java/util/ArrayList", name := "grow", desc := "(I)[Ljava/lang/Object;" } : Jvm.MethodName) jdk_38_method_6_code (4 : Nat) (Option.some (Jvm.ClassFile.FieldType.array (Jvm.ClassFile.FieldType.object "java/lang/Object"))), Jvm.Cond.code ({ cls := "java/lang/Math", name := "max", desc := "(II)I" } : Jvm.MethodName) jdk_29_method_65_code (2 : Nat) (Option.some Jvm.ClassFile.FieldType.int), Jvm.Cond.code ({ cls := "com/example/notation_search/notationsearch/math/Row", name := "append", desc := "(Lcom/example/notation_search/notationsearch/math/Row;)V" } : Jvm.MethodName) prog_33_method_6_code (2 : Nat) (Option.none : Option Jvm.ClassFile.FieldType), Jvm.Cond.code ({ cls := "java/util/ArrayList", name := "size", desc := "()I" } : Jvm.MethodName) jdk_38_method_8_code (1 : Nat) (Option.some Jvm.ClassFile.FieldType.int), Jvm.Cond.code ({ cls := "java/util/ArrayList", name := "get", desc := "(I)Ljava/lang/Object;" } : Jvm.MethodName) jdk_38_method_20_code (2 : Nat) (Option.some (Jvm.ClassFile.FieldType.object "java/lang/Object")), Jvm.Cond.code ({ cls := "java/util/Objects", name := "checkIndex", desc := "(II)I" } : Jvm.MethodName) jdk_31_method_17_code (2 : Nat) (Option.some Jvm.ClassFile.FieldType.int), Jvm.Cond.code ({ cls := "jdk/internal/util/Preconditions", name := "checkIndex", desc := "(IILjava/util/function/BiFunction;)I" } : Jvm.MethodName) jdk_41_method_11_code (3 : Nat) (Option.some Jvm.ClassFile.FieldType.int), Jvm.Cond.code ({ cls := "java/util/ArrayList", name := "elementData", desc := "(I)Ljava/lang/Object;" } : Jvm.MethodName) jdk_38_method_18_code (2 : Nat) (Option.some (Jvm.ClassFile.FieldType.object "java/lang/Object")), Jvm.Cond.code ({ cls := "com/example/notation_search/notationsearch/math/RowReleasePinLaw", name := "same", desc := "(Lcom/example/notation_search/notationsearch/math/Row$Script;Lcom/example/notation_search/notationsearch/math/Relation;Lcom/example/notation_search/notationsearch/math/Row;)Z" } : Jvm.MethodName) method_3_code (3 : Nat) (Option.some Jvm.ClassFile.FieldType.boolean), Jvm.Cond.code ({ cls := "com/example/notation_search/notationsearch/math/Row$Script", name := "relation", desc := "()Lcom/example/notation_search/notationsearch/math/Relation;" } : Jvm.MethodName) prog_34_method_5_code (1 : Nat) (Option.some (Jvm.ClassFile.FieldType.object "com/example/notation_search/notationsearch/math/Relation")), Jvm.Cond.code ({ cls := "com/example/notation_search/notationsearch/math/Row$Script", name := "region", desc := "()Lcom/example/notation_search/notationsearch/math/Row;" } : Jvm.MethodName) prog_34_method_6_code (1 : Nat) (Option.some (Jvm.ClassFile.FieldType.object "com/example/notation_search/notationsearch/math/Row")), Jvm.Cond.code ({ cls := "com/example/notation_search/notationsearch/math/Row$Script", name := "before", desc := "()Lcom/example/notation_search/notationsearch/math/Symbol;" } : Jvm.MethodName) prog_34_method_7_code (1 : Nat) (Option.some (Jvm.ClassFile.FieldType.object "com/example/notation_search/notationsearch/math/Symbol"))]
set_option maxRecDepth 65536 in
theorem codes_eq : words1.filter isCode = codes1 := rfl
theorem w_codes : ∀ c ∈ words1.filter isCode, c.before args0 about1 = true := by
  rw [codes_eq]
  intro c hc
  simp only [codes1, List.mem_cons, List.not_mem_nil, or_false] at hc
  rcases hc with rfl | rfl | rfl | rfl | rfl | rfl | rfl | rfl | rfl | rfl | rfl | rfl | rfl | rfl | rfl | rfl | rfl | rfl | rfl | rfl | rfl | rfl | rfl | rfl | rfl | rfl | rfl | rfl | rfl | rfl | rfl
  · exact w_c0
  · exact w_c1
  · exact w_c2
  · exact w_c3
  · exact w_c4
  · exact w_c5
  · exact w_c6
  · exact w_c7
  · exact w_c8
  · exact w_c9
  · exact w_c10
  · exact w_c11
  · exact w_c12
  · exact w_c13
  · exact w_c14
  · exact w_c15
  · exact w_c16
  · exact w_c17
  · exact w_c18
  · exact w_c19
  · exact w_c20
  · exact w_c21
  · exact w_c22
  · exact w_c23
  · exact w_c24
  · exact w_c25
  · exact w_c26
  · exact w_c27
  · exact w_c28
  · exact w_c29
  · exact w_c30
set_option maxRecDepth 65536 in
theorem w_t1 : (words1.take 24).all (fun c => isCode c || c.before args0 about1) = true := by decide +kernel
set_option maxRecDepth 65536 in
theorem w_t2 : ((words1.drop 24).take 24).all (fun c => isCode c || c.before args0 about1) = true := by decide +kernel
set_option maxRecDepth 65536 in
theorem w_t3 : (((words1.drop 24).drop 24).take 24).all (fun c => isCode c || c.before args0 about1) = true := by decide +kernel
set_option maxRecDepth 65536 in
theorem w_t4 : ((((words1.drop 24).drop 24).drop 24).take 24).all (fun c => isCode c || c.before args0 about1) = true := by decide +kernel
set_option maxRecDepth 65536 in
theorem w_t5 : (((((words1.drop 24).drop 24).drop 24).drop 24).take 24).all (fun c => isCode c || c.before args0 about1) = true := by decide +kernel
set_option maxRecDepth 65536 in
theorem w_t6 : ((((((words1.drop 24).drop 24).drop 24).drop 24).drop 24).take 24).all (fun c => isCode c || c.before args0 about1) = true := by decide +kernel
set_option maxRecDepth 65536 in
theorem w_t7 : (((((((words1.drop 24).drop 24).drop 24).drop 24).drop 24).drop 24).take 24).all (fun c => isCode c || c.before args0 about1) = true := by decide +kernel
set_option maxRecDepth 65536 in
theorem w_t8 : ((((((((words1.drop 24).drop 24).drop 24).drop 24).drop 24).drop 24).drop 24).take 24).all (fun c => isCode c || c.before args0 about1) = true := by decide +kernel
set_option maxRecDepth 65536 in
theorem w_t9 : (((((((((words1.drop 24).drop 24).drop 24).drop 24).drop 24).drop 24).drop 24).drop 24).take 24).all (fun c => isCode c || c.before args0 about1) = true := by decide +kernel
set_option maxRecDepth 65536 in
theorem w_t10 : (((((((((words1.drop 24).drop 24).drop 24).drop 24).drop 24).drop 24).drop 24).drop 24).drop 24).all (fun c => isCode c || c.before args0 about1) = true := by decide +kernel
theorem w_tables : (allAtoms (Jvm.Cond.code x code maxLocals ret :: tables_1)).before args0 about1 = true := by
  rw [allAtoms_all]
  show words1.all (fun c => c.before args0 about1) = true
  refine all_split ?_ w_codes
  rw [← List.take_append_drop 24 words1, List.all_append, w_t1, ← List.take_append_drop 24 (words1.drop 24), List.all_append, w_t2, ← List.take_append_drop 24 ((words1.drop 24).drop 24), List.all_append, w_t3, ← List.take_append_drop 24 (((words1.drop 24).drop 24).drop 24), List.all_append, w_t4, ← List.take_append_drop 24 ((((words1.drop 24).drop 24).drop 24).drop 24), List.all_append, w_t5, ← List.take_append_drop 24 (((((words1.drop 24).drop 24).drop 24).drop 24).drop 24), List.all_append, w_t6, ← List.take_append_drop 24 ((((((words1.drop 24).drop 24).drop 24).drop 24).drop 24).drop 24), List.all_append, w_t7, ← List.take_append_drop 24 (((((((words1.drop 24).drop 24).drop 24).drop 24).drop 24).drop 24).drop 24), List.all_append, w_t8, ← List.take_append_drop 24 ((((((((words1.drop 24).drop 24).drop 24).drop 24).drop 24).drop 24).drop 24).drop 24), List.all_append, w_t9, w_t10]
  rfl
set_option maxRecDepth 65536 in
theorem w_rest : rest_1_c.before args0 about1 = true := by decide +kernel
set_option maxRecDepth 65536 in
theorem w_case : (Jvm.Cond.and given_1 narrow_1).before args0 about1 = true := by decide +kernel
theorem w_applies : (headSpec (Jvm.Cond.code x code maxLocals ret :: tables_1) room_1).applies x e0.platform about1 = true :=
  (Spec.applies_iff w_frames).mpr ⟨w_running, w_runnable, w_alone, w_named, w_hears, w_ripe, w_room, w_tables⟩
theorem atStart : AtStart classFile x code maxLocals ret World_1 tables_1 room_1 Calls_1 rest_1 Pre_1 launch0 p0 e0 about1 theMethod args0 below0 :=
  ⟨lists_1, trivial, launch0.admits_env _ _ _, launch0.least_env, fairChoices_fair.cas, fairChoices_fair.clock, w_frames, w_args, w_heap, w_applies, trivial, w_rest, w_case⟩
end start1
theorem witness_1 : WitnessClaimed_1 := ⟨start1.p0, start1.e0, start1.about1, start1.theMethod, start1.args0, start1.below0, start1.atStart⟩
end Jvm.Pilot.@@N@@
