import JvmDerived
import JvmDerived.Pilot.@@N@@Statement
import JvmDerived.Pilot.@@N@@Code
set_option linter.unusedVariables false
set_option linter.unusedSimpArgs false
@@BLOCK:NumsL.lean.txt@@
@@BLOCK:LamKit.lean.txt@@
namespace Jvm.Pilot.@@N@@
open Jvm Jvm.ClassFile Sem Op Lib Jvm.Free Jvm.Stand Jvm.LawKit Jvm.RoadKit Bundle Jvm.Pilot.@@N@@.Jvm.D
theorem wd {Z : State} {a0 : Array Value} (hw : ∀ d ∈ tables_1, d.before a0 Z = true) (i : Nat) {d : Jvm.Cond} (h : tables_1[i]? = some d) : d.before a0 Z = true := hw _ (List.mem_of_getElem? h)
/-! own layer: a body's rest as one predicate (OFin), a contract (OMet), calls that give the plain facts back -/
def OFin (p : Program) (e : Env) (below : List Frame) (s : State) (kc ks : Nat) (Q : Option Value → Heap → List Loc → Prop) (S : State) : Prop :=
  ∃ s₂ o, Steps p.tables e below S s₂ ∧ s₂.status = .running ∧ Ended s₂ below o ∧ ∃ v L, o = .returned v ∧ Q v s₂.heap L ∧ FrameEnd s o s₂ L kc ks
def OMet (l : Launch) (Z : State) (y : MethodName) (bytes : ByteArray) (maxL : Nat) (ret : Option FieldType) (rm : Room) (as' : Array Value) (h0 : Heap) (Q : Option Value → Heap → List Loc → Prop) : Prop :=
  ∀ ws : List Jvm.Cond, MetFree l y (head1 (Jvm.Cond.code y bytes maxL ret :: ws) rm) (fun a U => a = as' ∧ Z.WarmedH U.vm ∧ U.heap = h0) (fun _ _ _ _ _ => True) (fun _ U o U' => ∃ v L, o = .returned v ∧ Q v U'.heap L ∧ FrameEnd U o U' L rm.cells rm.slots)
def OCtx (Z : State) (p : Program) (s : State) (m : MethodId) (meth : Method) (c : Code) (cls nam : String) (bytes : ByteArray) (maxL : Nat) (ret : Option FieldType) : Prop :=
  p.tables.exec = Jvm.exec ∧ Z.WarmedH s.vm ∧ c.code = bytes ∧ c.maxLocals = maxL ∧ s.vm.findClass cls = some m.cls ∧ meth.sig.returnType = ret ∧ meth.locks = false ∧ meth.name = nam
section OwnLayer
variable {p : Program} {l : Launch} {e : Env} {R : Room} {s : State} {m : MethodId} {args : Array Value} {below : List Frame} {meth : Method} {c : Code} {T : State} {locs : List Loc} {cells slots : Nat} {Z : State} {a0 : Array Value} {h : Heap}
variable {kc ks : Nat} {Q : Option Value → Heap → List Loc → Prop}
theorem own_st {A B : State} (hs : ∀ t, Steps p.tables e below B t → Steps p.tables e below A t) (k : OFin p e below s kc ks Q B) : OFin p e below s kc ks Q A := by
  obtain ⟨s₂, o, h1, r⟩ := k; exact ⟨s₂, o, hs _ h1, r⟩
theorem own_at {g g' : JFrame} (q : g = g') (k : OFin p e below s kc ks Q (T.setTop g')) : OFin p e below s kc ks Q (T.setTop g) := q ▸ k
theorem own_mono {Q' : Option Value → Heap → List Loc → Prop} {S : State} (k : OFin p e below s kc ks Q S) (q : ∀ v h L, Q v h L → Q' v h L) : OFin p e below s kc ks Q' S := by
  obtain ⟨s₂, o, h1, h2, h3, v, L, h4, h5, h6⟩ := k; exact ⟨s₂, o, h1, h2, h3, v, L, h4, q _ _ _ h5, h6⟩
theorem own_enter {y : MethodName} {bytes : ByteArray} {maxL : Nat} {ret : Option FieldType} {rm : Room} {as' : Array Value} {h0 : Heap} (hp : plainFor y = true)
    (hB : ∀ (p : Program) (e : Env) (s : State) (m : MethodId) (below : List Frame) (meth : Method) (c : Code) (T : State), Stand p l e rm s m as' below meth c T [] 0 0 → OCtx Z p s m meth c y.cls y.name bytes maxL ret → T.heap = h0 → s.methodNamed? y = some m → OFin p e below s rm.cells rm.slots Q (T.setTop (entryFrame m as' maxL))) :
    OMet l Z y bytes maxL ret rm as' h0 Q := by
  intro ws
  refine MetFree.of_bodySF hp hisR ?_
  intro p e s m args below meth c s₁ Bd hml0 hP hK
  obtain ⟨rfl, hZ, hh⟩ := hP
  exact hB p e s m below meth c s₁ (Stand.of_body Bd) ⟨Bd.exec, hZ, Bd.bytes, hml0, findClass_of_methodNamed Bd.named, Bd.returns, BodyLoose.notSynchronized Bd, (name_of_methodNamed Bd.named Bd.method).1⟩ (by rw [← hh, Bd.state]; rfl) Bd.named
theorem own_ret (X : Stand p l e R s m args below meth c T locs cells slots) (hx : p.tables.exec = Jvm.exec) {t : FieldType} (hret : meth.sig.returnType = some t) (hlk : meth.locks = false) {pc : Nat} {Ls : Array Slot} {w : Value} {i : Instr} {rest : List Value} (hn : narrow t w = w)
    (hi : (i = .ireturn ∧ (t = .int ∨ t = .boolean ∨ t = .byte ∨ t = .char ∨ t = .short) ∧ ∃ z, w = .int z) ∨ (i = .lreturn ∧ t = .long ∧ ∃ z, w = .long z) ∨ (i = .dreturn ∧ t = .double ∧ ∃ z, w = .double z) ∨ (i = .freturn ∧ t = .float ∧ ∃ z, w = .float z) ∨ (i = .areturn ∧ t.isReference = true ∧ w.isRef = true))
    (hd : decode c.code pc = .ok (i, 1)) (hc : cells ≤ kc) (hs : slots ≤ ks) (hq : Q (some w) T.heap locs) : OFin p e below s kc ks Q (T.setTop (mkF m pc Ls (w :: rest))) := by
  obtain ⟨fs, hr, hrun, hended, hW, hsame⟩ := X.leave (v := some w) (fun h => by rw [hret] at h; cases h) hlk
  exact ⟨_, _, retOut X hx hret hn hi hd hr, hrun, hended, _, _, rfl, hq, ⟨_, rfl⟩, hW, hsame.mono hc hs⟩
theorem own_retV (X : Stand p l e R s m args below meth c T locs cells slots) (hx : p.tables.exec = Jvm.exec) (hret : meth.sig.returnType = none) (hlk : meth.locks = false) {pc : Nat} {Ls : Array Slot}
    (hd : decode c.code pc = .ok (.return_, 1)) (hc : cells ≤ kc) (hs : slots ≤ ks) (hq : Q none T.heap locs) : OFin p e below s kc ks Q (T.setTop (mkF m pc Ls [])) := by
  obtain ⟨fs, hr, hrun, hended, hW, hsame⟩ := X.leave (v := none) (fun _ => rfl) hlk
  exact ⟨_, _, X.returnOut hx hret hd hr, hrun, hended, _, _, rfl, hq, ⟨_, rfl⟩, hW, hsame.mono hc hs⟩
theorem own_back {y : MethodName} {bytes : ByteArray} {maxL : Nat} {ret : Option FieldType} {rm : Room} {len W : Nat} {as' : Array Value} (hM : OMet l Z y bytes maxL ret rm as' h Q) (hZH : Z.WarmedH s.vm) (wc : (Jvm.Cond.code y bytes maxL ret).before a0 Z = true) (wz : (Jvm.Cond.initialized y.cls).before a0 Z = true) (hf : rm.frames + 1 ≤ R.frames) (hl : W + (maxL + 11) + rm.locals ≤ R.locals) :
    Back l R p e below s args y len W (fun A a => a = as' ∧ A.U.heap = h ∧ A.cells + rm.cells ≤ R.cells ∧ A.slots + rm.slots ≤ R.slots)
      (fun A _ v B => ∃ L, Q v B.U.heap L ∧ B.locs = A.locs ++ L ∧ B.cells = A.cells + rm.cells ∧ B.slots = A.slots + rm.slots) :=
  Back.of_free (bytes := bytes) (maxL := maxL) (ret := ret) (E := fun _ _ o t L k n => k = rm.cells ∧ n = rm.slots ∧ ∃ v, o = .returned v ∧ Q v t.heap L) (hM []) hf hl
    (fun m meth c A a Y hp => have hU : Z.Warmed39 A.U.vm := wtrans hZH.wide Y.warmed
      ⟨by show (Jvm.Cond.and _ .tt).before a A.U = true; rw [Cond.before_and, mv hU wc]; rfl, mv hU wc, mv hU wz, hp.2.2.1, hp.2.2.2⟩)
    (fun m meth c A a g mk Y hp => ⟨hp.1, hZH.trans Y.warmed, hp.2.1⟩) (fun _ _ _ _ _ _ _ _ _ => trivial)
    (fun _ _ _ _ ⟨v, L, h1, h2, h3⟩ => ⟨L, _, _, h3, rfl, rfl, v, h1, h2⟩)
    (fun m meth c A a g mk v t L k n Y hp _ _ ⟨e1, e2, v', e3, e4⟩ => by cases e3; subst e1 e2; exact ⟨L, e4, rfl, rfl, rfl⟩)
theorem own_static (X : Stand p l e R s m args below meth c T locs cells slots) (hx : p.tables.exec = Jvm.exec) (hZ : Z.Warmed39 s.vm) {own : String} {index : Nat} {y : MethodName} {bytes : ByteArray} {maxL : Nat} {ret : Option FieldType} {rm : Room} {W : Nat} {argsL rest : List Value}
    (hown : s.vm.findClass own = some m.cls) (w1 : (Jvm.Cond.methodLink own index y).before a0 Z = true) (w2 : (Jvm.Cond.static y).before a0 Z = true) (wz : (Jvm.Cond.initialized y.cls).before a0 Z = true) (wc : (Jvm.Cond.code y bytes maxL ret).before a0 Z = true)
    (hM : OMet l Z y bytes maxL ret rm argsL.toArray h Q) (eT : T.heap = h) {g : JFrame} (hg : g.method = m) (hsize : g.locals.size = c.maxLocals) (hlen : ∀ sig, parseMethodDescriptor y.desc = some sig → argsL.length = sig.parameters.length)
    (hstack : g.stack = argsL.reverse ++ rest) (hW : 2 * g.monitorRoom + (rest.map fun v => v.category).sum ≤ W) (hdg : decode c.code g.pc = .ok (.invokestatic index, 3))
    (hf : rm.frames + 1 ≤ R.frames := by decide) (hl : W + (maxL + 11) + rm.locals ≤ R.locals := by decide) (hc : cells + rm.cells ≤ R.cells := by decide) (hs : slots + rm.slots ≤ R.slots := by decide)
    (hy : y.cls ≠ "java/lang/invoke/MethodHandle" ∧ y.cls ≠ "java/lang/invoke/VarHandle" := by decide) (hZH : Z.WarmedH s.vm := by assumption) :
    ∃ (v : Option Value) (T' : State) (L : List Loc), Stand p l e R s m args below meth c T' (locs ++ L) (cells + rm.cells) (slots + rm.slots) ∧ Q v T'.heap L ∧
      ∀ target, Steps p.tables e below (T'.setTop { g with pc := g.pc + 3, stack := v.toList ++ rest }) target → Steps p.tables e below (T.setTop g) target := by
  obtain ⟨v, vm₁, ⟨T', L', k', n'⟩, -, X', ⟨L, hQ, l1, y1, z1⟩, st⟩ := Jvm.LawKit.callS X hx hown (mvT hZ w1) (mvT hZ w2) (mvT hZ wz) (mvT hZ wc) hy (own_back (W := W) hM hZH wc wz hf hl) hg hsize hlen hstack hW hdg (fun _ _ => ⟨rfl, eT, hc, hs⟩)
  dsimp only [Pt.U, Pt.locs, Pt.cells, Pt.slots] at X' l1 y1 z1 st hQ
  subst l1 y1 z1
  exact ⟨v, T', L, X', hQ, st⟩
theorem own_init (X : Stand p l e R s m args below meth c T locs cells slots) (hx : p.tables.exec = Jvm.exec) (hZ : Z.Warmed39 s.vm) {own : String} {index : Nat} {y : MethodName} {bytes : ByteArray} {maxL : Nat} {rm : Room} {W : Nat} {a : Addr} {argsL rest : List Value} (hy1 : y.name = "<init>")
    (hown : s.vm.findClass own = some m.cls) (w1 : (Jvm.Cond.methodLink own index y).before a0 Z = true) (w2 : (Jvm.Cond.instanceMethod y).before a0 Z = true) (wz : (Jvm.Cond.initialized y.cls).before a0 Z = true) (wc : (Jvm.Cond.code y bytes maxL none).before a0 Z = true)
    (hM : OMet l Z y bytes maxL none rm (.ref a :: argsL).toArray h Q) (eT : T.heap = h) {g : JFrame} (hg : g.method = m) (hsize : g.locals.size = c.maxLocals) (hlen : ∀ sig, parseMethodDescriptor y.desc = some sig → argsL.length = sig.parameters.length)
    (hstack : g.stack = argsL.reverse ++ .ref a :: rest) (hW : 2 * g.monitorRoom + (rest.map fun v => v.category).sum ≤ W) (hdg : decode c.code g.pc = .ok (.invokespecial index, 3))
    (hf : rm.frames + 1 ≤ R.frames := by decide) (hl : W + (maxL + 11) + rm.locals ≤ R.locals := by decide) (hc : cells + rm.cells ≤ R.cells := by decide) (hs : slots + rm.slots ≤ R.slots := by decide)
    (hy : y.cls ≠ "java/lang/invoke/MethodHandle" ∧ y.cls ≠ "java/lang/invoke/VarHandle" := by decide) (hZH : Z.WarmedH s.vm := by assumption) :
    ∃ (v : Option Value) (T' : State) (L : List Loc), Stand p l e R s m args below meth c T' (locs ++ L) (cells + rm.cells) (slots + rm.slots) ∧ Q v T'.heap L ∧
      ∀ target, Steps p.tables e below (T'.setTop { g with pc := g.pc + 3, stack := v.toList ++ rest }) target → Steps p.tables e below (T.setTop g) target := by
  obtain ⟨v, vm₁, ⟨T', L', k', n'⟩, -, X', ⟨L, hQ, l1, y1, z1⟩, st⟩ := X.specialBack hx hy1 hown (mvT hZ w1) (mvT hZ w2) (mvT hZ wc) hy (own_back (W := W) hM hZH wc wz hf hl) hg hsize (Steps.refl _) hlen hstack hW hdg (fun _ _ => ⟨rfl, eT, hc, hs⟩)
  dsimp only [Pt.U, Pt.locs, Pt.cells, Pt.slots] at X' l1 y1 z1 st hQ
  subst l1 y1 z1
  exact ⟨v, T', L, X', hQ, fun t k => st.trans k⟩
theorem own_virtual (X : Stand p l e R s m args below meth c T locs cells slots) (hx : p.tables.exec = Jvm.exec) (hZ : Z.Warmed39 s.vm) {own C : String} {index : Nat} {y z : MethodName} {bytes : ByteArray} {maxL : Nat} {ret : Option FieldType} {rm : Room} {W : Nat} {a : Addr} {argsL rest : List Value}
    (hown : s.vm.findClass own = some m.cls) (w1 : (Jvm.Cond.methodLink own index y).before a0 Z = true) (w2 : (Jvm.Cond.declares y).before a0 Z = true) (hnf : NotFace s y) (w3 : (Jvm.Cond.selects C y z).before a0 Z = true) (w4 : (Jvm.Cond.instanceMethod z).before a0 Z = true) (wz : (Jvm.Cond.initialized z.cls).before a0 Z = true) (wc : (Jvm.Cond.code z bytes maxL ret).before a0 Z = true)
    (hM : OMet l Z z bytes maxL ret rm (.ref a :: argsL).toArray h Q) (eT : T.heap = h) (E : Exa Z h a C) {g : JFrame} (hg : g.method = m) (hsize : g.locals.size = c.maxLocals) (hlen : ∀ sig, parseMethodDescriptor y.desc = some sig → argsL.length = sig.parameters.length)
    (hstack : g.stack = argsL.reverse ++ .ref a :: rest) (hW : 2 * g.monitorRoom + (rest.map fun v => v.category).sum ≤ W) (hdg : decode c.code g.pc = .ok (.invokevirtual index, 3))
    (hf : rm.frames + 1 ≤ R.frames := by decide) (hl : W + (maxL + 11) + rm.locals ≤ R.locals := by decide) (hc : cells + rm.cells ≤ R.cells := by decide) (hs : slots + rm.slots ≤ R.slots := by decide)
    (hy : y.cls ≠ "java/lang/invoke/MethodHandle" ∧ y.cls ≠ "java/lang/invoke/VarHandle" := by decide) (hZH : Z.WarmedH s.vm := by assumption) :
    ∃ (v : Option Value) (T' : State) (L : List Loc), Stand p l e R s m args below meth c T' (locs ++ L) (cells + rm.cells) (slots + rm.slots) ∧ Q v T'.heap L ∧
      ∀ target, Steps p.tables e below (T'.setTop { g with pc := g.pc + 3, stack := v.toList ++ rest }) target → Steps p.tables e below (T.setTop g) target := by
  obtain ⟨cq, kq, qa, qb, qc⟩ := isOf hZ eT E
  obtain ⟨v, vm₁, ⟨T', L', k', n'⟩, -, X', ⟨L, hQ, l1, y1, z1⟩, st⟩ := X.virtualBack hx hown (mvT hZ w1) (mvT hZ w2) hnf (mvT hZ w3) (mvT hZ w4) hy (own_back (W := W) hM hZH wc wz hf hl) qa qc hg hsize (Steps.refl _) hlen hstack hW hdg (fun _ _ => ⟨rfl, eT, hc, hs⟩)
  dsimp only [Pt.U, Pt.locs, Pt.cells, Pt.slots] at X' l1 y1 z1 st hQ
  subst l1 y1 z1
  exact ⟨v, T', L, X', hQ, fun t k => st.trans k⟩
end OwnLayer
/-! own layer 2: an array as a function of the place -/
def OArr (Z : State) (h : Heap) (a : Addr) (ty : FieldType) (N : Nat) (f : Nat → Value) : Prop := ∃ c : Cell, Arr Z h a c ty ∧ c.slots.size = N ∧ N < 2 ^ 31 ∧ ∀ i, i < N → c.slots[i]? = some (f i)
section OwnArr
variable {Z : State} {h h' : Heap} {a b : Addr} {ty : FieldType} {N : Nat} {f : Nat → Value} {ws : List Addr} {sl : Nat} {v : Value}
theorem OArr.lt (F : OArr Z h a ty N f) : a < h.size := by obtain ⟨c, A, -⟩ := F; exact A.lt
theorem OArr.ext (F : OArr Z h a ty N f) (E : Ext h h') : OArr Z h' a ty N f := by obtain ⟨c, A, r⟩ := F; exact ⟨c, A.ext E, r⟩
theorem OArr.other (F : OArr Z h b ty N f) (W : Wr h h' a sl v) (q : b ≠ a) : OArr Z h' b ty N f := by obtain ⟨c, A, r⟩ := F; exact ⟨c, A.other W q, r⟩
theorem OArr.keep (F : OArr Z h a ty N f) (K : Keep h h' ws) (q : a ∉ ws) : OArr Z h' a ty N f := by obtain ⟨c, A, r⟩ := F; exact ⟨c, ⟨K.2.1 a c A.1 q, A.2⟩, r⟩
theorem OArr.set (F : OArr Z h a ty N f) {j : Nat} (W : Wr h h' a j v) : OArr Z h' a ty N (fun i => if i = j then v else f i) := by
  obtain ⟨c, A, S, B, H⟩ := F
  refine ⟨_, A.same W, by rw [sz_set]; exact S, B, fun i hi => ?_⟩
  show (c.slots.setIfInBounds j v)[i]? = some (if i = j then v else f i)
  by_cases q : i = j
  · subst q; simp [S, hi]
  · rw [Array.getElem?_setIfInBounds_ne (Ne.symm q), if_neg q]; exact H i hi
theorem OArr.setI {g : Nat → Int32} (F : OArr Z h a ty N (fun i => .int (g i))) {j : Nat} {x : Int32} (W : Wr h h' a j (.int x)) : OArr Z h' a ty N (fun i => .int (if i = j then x else g i)) := by
  have q := F.set W
  have e : (fun i => if i = j then Value.int x else Value.int (g i)) = fun i => Value.int (if i = j then x else g i) := by funext i; split <;> rfl
  rw [e] at q; exact q
theorem OArr.setJ {g : Nat → Int64} (F : OArr Z h a ty N (fun i => .long (g i))) {j : Nat} {x : Int64} (W : Wr h h' a j (.long x)) : OArr Z h' a ty N (fun i => .long (if i = j then x else g i)) := by
  have q := F.set W
  have e : (fun i => if i = j then Value.long x else Value.long (g i)) = fun i => Value.long (if i = j then x else g i) := by funext i; split <;> rfl
  rw [e] at q; exact q
theorem own_clamp (z : Int32) : z.toNatClampNeg < 2 ^ 31 := by have := z.toInt_lt; simp only [Int32.toNatClampNeg]; omega
theorem OArr.new {k : ClassId} {z : Int32} (A : Arr Z h a (newA k ty z) ty) (q : z.toNatClampNeg = N) : OArr Z h a ty N (fun _ => defaultValue ty) :=
  ⟨_, A, by rw [sz_new]; exact q, by rw [← q]; exact own_clamp z, fun i hi => by rw [← q] at hi; simp [newA, hi]⟩
theorem OArr.of {k : ClassId} {z : Int32} {vs : List Value} {dv : Value} (A : Arv Z h a k ty z vs dv) (q : z.toNatClampNeg = N) (r : ∀ i, i < N → vs.getD i dv = f i) : OArr Z h a ty N f := by
  obtain ⟨c, A1, -, S, -, H, -⟩ := A
  exact ⟨c, A1, by rw [S]; exact q, by rw [← q]; exact own_clamp z, fun i hi => by rw [← r i hi]; exact H i (by rw [S, q]; exact hi)⟩
theorem OArr.congr {g : Nat → Value} (F : OArr Z h a ty N f) (r : ∀ i, i < N → f i = g i) : OArr Z h a ty N g := by
  obtain ⟨c, A, S, B, H⟩ := F; exact ⟨c, A, S, B, fun i hi => by rw [← r i hi]; exact H i hi⟩
theorem own_inb {c : Cell} {j : Int32} {i : Nat} (S : c.slots.size = N) (h0 : ¬ j < 0) (hj : j.toNatClampNeg = i) (hi : i < N) : ¬ (j < 0 ∨ c.slots.size ≤ j.toNatClampNeg) := by
  rintro (q | q)
  · exact h0 q
  · rw [S, hj] at q; omega
theorem own_hv {c : Cell} {j : Int32} {i : Nat} (H : ∀ i, i < N → c.slots[i]? = some (f i)) (hj : j.toNatClampNeg = i) (hi : i < N) : c.slots[j.toNatClampNeg]? = some (f i) := by rw [hj]; exact H i hi
theorem own_len {c : Cell} {z : Int32} (S : c.slots.size = N) (q : N.toInt32 = z) : c.slots.size.toInt32 = z := by rw [S]; exact q
theorem own_wrj {j : Int32} {i : Nat} (W : Wr h h' a j.toNatClampNeg v) (hj : j.toNatClampNeg = i) : Wr h h' a i v := hj ▸ W
theorem own_nb (x : Int32) : nar .byte (x.toInt8.toInt32) = x.toInt8.toInt32 := by show (x.toInt8.toInt32).toInt8.toInt32 = _; simp
theorem own_nwb (x : Int32) : narrow .byte (.int x.toInt8.toInt32) = .int x.toInt8.toInt32 := by show Value.int ((x.toInt8.toInt32).toInt8.toInt32) = _; simp
end OwnArr
/-! own layer 3: a double constant, the comparison of doubles -/
section OwnDbl
variable {p : Program} {l : Launch} {e : Env} {R : Room} {s : State} {m : MethodId} {args : Array Value} {below : List Frame} {meth : Method} {c : Code} {T : State} {locs : List Loc} {cells slots : Nat}
theorem own_dconst0 (X : Stand p l e R s m args below meth c T locs cells slots) (hx : p.tables.exec = Jvm.exec) {g : JFrame} (hg : g.method = m) (hd : decode c.code g.pc = .ok (.dconst 0, 1)) :
    ∀ target, Steps p.tables e below (T.setTop { g with pc := g.pc + 1, stack := .double FP.dconst0 :: g.stack }) target → Steps p.tables e below (T.setTop g) target := by
  intro target hr
  subst hg
  have h := X.here
  jvm_step h [h.top, hx, hd, dconst.wp_sem]
  exact hr
theorem own_dcmpl (X : Stand p l e R s m args below meth c T locs cells slots) (hx : p.tables.exec = Jvm.exec) {g : JFrame} (hg : g.method = m) {x y : UInt64} {rest : List Value} (hd : decode c.code g.pc = .ok (.dcmp .l, 1)) (hs : g.stack = .double y :: .double x :: rest) :
    ∀ target, Steps p.tables e below (T.setTop { g with pc := g.pc + 1, stack := .int (cmpValue (FP.dcmp x y) .l) :: rest }) target → Steps p.tables e below (T.setTop g) target := by
  intro target hr
  subst hg
  have h := X.here
  jvm_step h [h.top, hx, hd, hs, dcmp.wp_sem]
  exact hr
end OwnDbl
/-! own layer 6: whole numbers among the doubles -/
theorem own_nn {i : Int} {a : UInt64} (h : FP.Core.DInt i a) : Jvm.Free.Fl.NoNaN64 a := (Jvm.Free.Fl.dcmp_some (show FP.dcmp a a = some _ from FP.Core.dcmp_int h h)).1
/-! own layer F: which doubles are no NaN: magnitudes, and whole numbers -/
open Jvm.Free.Fl (Mag64 Fin64 NoNaN64)
theorem own_mn {K : Nat} {x : UInt64} (h : Mag64 K x) (hK : K ≤ 2047 := by decide) : NoNaN64 x := by
  have q := (Jvm.Free.Fl.Mag64.fin h hK); rw [Jvm.Free.Fl.fin64_iff] at q; rw [Jvm.Free.Fl.noNaN64_iff]; omega
def OPos (x : UInt64) : Prop := ∃ n : Int32, 1 ≤ n.toInt ∧ n.toInt ≤ 1000000 ∧ x = FP.i2d n
theorem own_o32 {k : Int} (h1 : -1000000 ≤ k) (h2 : k ≤ 1000000) : (Int32.ofInt k).toInt = k := Int32.toInt_ofInt_of_le (by show -2147483648 ≤ k; omega) (by show k < 2147483648; omega)
theorem OPos.of {k : Int} {x : UInt64} (h : FP.Core.DInt k x) (h1 : 1 ≤ k) (h2 : k ≤ 1000000) : OPos x :=
  ⟨Int32.ofInt k, by rw [own_o32 (by omega) h2]; exact h1, by rw [own_o32 (by omega) h2]; exact h2, FP.Core.dint_unique (by omega) h (by have q := FP.Core.i2d_int (Int32.ofInt k); rw [own_o32 (by omega) h2] at q; exact q)⟩
theorem OPos.dint {x : UInt64} (h : OPos x) : ∃ k : Int, 1 ≤ k ∧ k ≤ 1000000 ∧ FP.Core.DInt k x := by obtain ⟨n, a, b, rfl⟩ := h; exact ⟨n.toInt, a, b, FP.Core.i2d_int n⟩
theorem OPos.mag {x : UInt64} (h : OPos x) : Mag64 1056 x := by obtain ⟨n, a, b, rfl⟩ := h; exact Jvm.Free.Fl.i2d_mag n
theorem own_dv {K : Nat} {a b : UInt64} (ha : Mag64 K a) (hb : OPos b) (hK : K ≤ 2047 := by decide) (hK0 : 1000 ≤ K := by decide) : Mag64 (K + 1) (FP.ddiv a b) := by
  obtain ⟨n, h1, h2, rfl⟩ := hb
  obtain ⟨q1, q2⟩ := FP.Core.i2d_big (v := n) (by omega)
  have q := FP.Core.ddiv_mag (a := a) (b := FP.i2d n) (K := K) (L := 1023) ha q1 q2 hK (by decide)
  rw [show K + (1074 - 52 - 1) - 1023 + 3 = K + 1 by omega] at q
  exact q
theorem own_ab {K : Nat} {x : UInt64} (h : Mag64 K x) : Mag64 K (x &&& 0x7fffffffffffffff) := by
  unfold Mag64 at *
  have e : (x &&& 0x7fffffffffffffff).toNat = x.toNat % 9223372036854775808 := by rw [UInt64.toNat_and]; exact Nat.and_two_pow_sub_one_eq_mod x.toNat 63
  rw [e]; omega
theorem own_sum {a b : UInt64} (ha : OPos a) (hb : OPos b) (h2 : Mag64 1056 a) : ∃ k : Int, 1 ≤ k ∧ k ≤ 2000000 ∧ FP.Core.DInt k (FP.dadd a b) := by
  obtain ⟨i, i1, i2, hi⟩ := ha.dint
  obtain ⟨j, j1, j2, hj⟩ := hb.dint
  exact ⟨i + j, by omega, by omega, FP.Core.dadd_int hi hj (by omega)⟩
def OLen (x : UInt64) : Prop := ∃ k : Int, 1 ≤ k ∧ k ≤ 10000 ∧ FP.Core.DInt k x
theorem OLen.pos {x : UInt64} (h : OLen x) : OPos x := by obtain ⟨k, a, b, c⟩ := h; exact OPos.of c a (by omega)
theorem OLen.add {x y : UInt64} (h : OLen x) (h' : OLen y) : OPos (FP.dadd x y) := by
  obtain ⟨i, i1, i2, hi⟩ := h
  obtain ⟨j, j1, j2, hj⟩ := h'
  exact OPos.of (FP.Core.dadd_int hi hj (by omega)) (by omega) (by omega)
theorem OLen.no {x : UInt64} (h : OLen x) : NoNaN64 x := own_mn h.pos.mag
theorem own_big : FP.Core.val64 9209861237972664319 = .fin false 9007199254740991 969 := by decide +kernel
theorem own_bigI : ∃ B : Int, 100000 ≤ B ∧ FP.Core.DInt B 9209861237972664319 := by
  obtain ⟨E, hE⟩ : ∃ E : Nat, E = 2 ^ (969 : Int).toNat := ⟨_, rfl⟩
  have h1 : 1 ≤ E := by rw [hE]; exact Nat.one_le_two_pow
  refine ⟨((9007199254740991 * E : Nat) : Int), by omega, ?_⟩
  unfold FP.Core.DInt; rw [own_big]
  show FP.Core.signed false (9007199254740991 * 2 ^ (969 : Int).toNat) = ((9007199254740991 * E : Nat) : Int) * ((2 ^ (-969 : Int).toNat : Nat) : Int)
  rw [← hE, show (-969 : Int).toNat = 0 from rfl]
  clear hE
  simp [FP.Core.signed]
theorem own_bigno : NoNaN64 9209861237972664319 := by rw [Jvm.Free.Fl.noNaN64_iff]; decide +kernel
theorem own_min {x : UInt64} (h : OLen x) : Native.java_lang_Math.nans.pick64 false x 9209861237972664319 = x := by
  obtain ⟨k, k1, k2, hk⟩ := h
  obtain ⟨B, hB, hb⟩ := own_bigI
  have e : FP.dcmp x 9209861237972664319 = some (compare k B) := FP.Core.dcmp_int hk hb
  have l : compare k B = .lt := by
    show compareOfLessAndEq k B = .lt
    unfold compareOfLessAndEq
    rw [if_pos (by omega)]
  unfold Native.java_lang_Math.nans.pick64
  rw [e, l]; rfl
/-- the thresholds, the counts -/
def OUp (f : Nat → UInt64) : Prop := (∀ i, i < 4 → Mag64 1062 (f i)) ∧ ∀ i j, i < j → j < 4 → OLen (FP.dsub (f j) (f i))
def OCn (f : Nat → UInt64) : Prop := ∀ i, i < 4 → Mag64 1062 (f i)
section OwnDbl2
variable {p : Program} {l : Launch} {e : Env} {R : Room} {s : State} {m : MethodId} {args : Array Value} {below : List Frame} {meth : Method} {c : Code} {T : State} {locs : List Loc} {cells slots : Nat} {Z : State} {a0 : Array Value} {h : Heap}
theorem own_dconst1 (X : Stand p l e R s m args below meth c T locs cells slots) (hx : p.tables.exec = Jvm.exec) {g : JFrame} (hg : g.method = m) (hd : decode c.code g.pc = .ok (.dconst 1, 1)) :
    ∀ target, Steps p.tables e below (T.setTop { g with pc := g.pc + 1, stack := .double FP.dconst1 :: g.stack }) target → Steps p.tables e below (T.setTop g) target := by
  intro target hr
  subst hg
  have h := X.here
  jvm_step h [h.top, hx, hd, dconst.wp_sem]
  exact hr
theorem own_dcmpg (X : Stand p l e R s m args below meth c T locs cells slots) (hx : p.tables.exec = Jvm.exec) {g : JFrame} (hg : g.method = m) {x y : UInt64} {rest : List Value} (hd : decode c.code g.pc = .ok (.dcmp .g, 1)) (hs : g.stack = .double y :: .double x :: rest) :
    ∀ target, Steps p.tables e below (T.setTop { g with pc := g.pc + 1, stack := .int (cmpValue (FP.dcmp x y) .g) :: rest }) target → Steps p.tables e below (T.setTop g) target := by
  intro target hr
  subst hg
  have h := X.here
  jvm_step h [h.top, hx, hd, hs, dcmp.wp_sem]
  exact hr
theorem own_mathB (X : Stand p l e R s m args below meth c T locs cells slots) (hx : p.tables.exec = Jvm.exec) (hZ : Z.Warmed39 s.vm) {own : String} {index : Nat} {y : MethodName} {bytes : ByteArray} {maxL W : Nat} {argsL rest : List Value} {w : UInt64} {Pre : Pt → Array Value → Prop} {Post : Pt → Array Value → Option Value → Pt → Prop}
    (hown : s.vm.findClass own = some m.cls) (w1 : (Jvm.Cond.methodLink own index y).before a0 Z = true) (w2 : (Jvm.Cond.static y).before a0 Z = true) (wz : (Jvm.Cond.initialized y.cls).before a0 Z = true) (wc : (Jvm.Cond.code y bytes maxL (some .double)).before a0 Z = true)
    (hK : (Jvm.Cond.code y bytes maxL (some .double)).before args s = true → Back l R p e below s args y 3 W Pre Post) (hpost : ∀ A a v B, Post A a v B → v = some (.double w) ∧ B = A) (eT : T.heap = h)
    {g : JFrame} (hg : g.method = m) (hsize : g.locals.size = c.maxLocals) (hlen : ∀ sig, parseMethodDescriptor y.desc = some sig → argsL.length = sig.parameters.length) (hstack : g.stack = argsL.reverse ++ rest) (hW : 2 * g.monitorRoom + (rest.map fun v => v.category).sum ≤ W)
    (hdg : decode c.code g.pc = .ok (.invokestatic index, 3)) (hpre : ∀ vm₁, Pre ⟨T.setVm vm₁, locs, cells, slots⟩ argsL.toArray) (hy : y.cls ≠ "java/lang/invoke/MethodHandle" ∧ y.cls ≠ "java/lang/invoke/VarHandle" := by decide) :
    ∃ T' : State, Stand p l e R s m args below meth c T' locs cells slots ∧ T'.heap = h ∧ ∀ target, Steps p.tables e below (T'.setTop { g with pc := g.pc + 3, stack := .double w :: rest }) target → Steps p.tables e below (T.setTop g) target := by
  obtain ⟨v, vm₁, B, -, X', q, st⟩ := Jvm.LawKit.callS X hx hown (mvT hZ w1) (mvT hZ w2) (mvT hZ wz) (mvT hZ wc) hy (hK (mvT hZ wc)) hg hsize hlen hstack hW hdg (fun vm _ => hpre vm)
  obtain ⟨rfl, rfl⟩ := hpost _ _ _ _ q
  exact ⟨_, X', eT, st⟩
end OwnDbl2
/-! own layer 10: private calls, unlike objects, small tables -/
section OwnTen
variable {p : Program} {l : Launch} {e : Env} {R : Room} {s : State} {m : MethodId} {args : Array Value} {below : List Frame} {meth : Method} {c : Code} {T : State} {locs : List Loc} {cells slots : Nat} {Z : State} {a0 : Array Value} {h h' : Heap} {Q : Option Value → Heap → List Loc → Prop}
theorem own_private (X : Stand p l e R s m args below meth c T locs cells slots) (hx : p.tables.exec = Jvm.exec) (hZ : Z.Warmed39 s.vm) {own C K : String} {u : MethodName} {index : Nat} {y : MethodName} {bytes : ByteArray} {maxL : Nat} {ret : Option FieldType} {rm : Room} {W : Nat} {a : Addr} {argsL rest : List Value}
    (hown : s.vm.findClass own = some m.cls) (w1 : (Jvm.Cond.methodLink own index y).before a0 Z = true) (w4 : (Jvm.Cond.instanceMethod y).before a0 Z = true) (w5 : (Jvm.Cond.privateMethod y).before a0 Z = true) (w6 : (Jvm.Cond.selects K u u).before a0 Z = true) (hu : u.cls = y.cls) (wz : (Jvm.Cond.initialized y.cls).before a0 Z = true) (wc : (Jvm.Cond.code y bytes maxL ret).before a0 Z = true)
    (hM : OMet l Z y bytes maxL ret rm (.ref a :: argsL).toArray h Q) (eT : T.heap = h) (E : Exa Z h a C) {g : JFrame} (hg : g.method = m) (hsize : g.locals.size = c.maxLocals) (hlen : ∀ sig, parseMethodDescriptor y.desc = some sig → argsL.length = sig.parameters.length)
    (hstack : g.stack = argsL.reverse ++ .ref a :: rest) (hW : 2 * g.monitorRoom + (rest.map fun v => v.category).sum ≤ W) (hdg : decode c.code g.pc = .ok (.invokevirtual index, 3))
    (hf : rm.frames + 1 ≤ R.frames := by decide) (hl : W + (maxL + 11) + rm.locals ≤ R.locals := by decide) (hc : cells + rm.cells ≤ R.cells := by decide) (hs : slots + rm.slots ≤ R.slots := by decide)
    (hy : y.cls ≠ "java/lang/invoke/MethodHandle" ∧ y.cls ≠ "java/lang/invoke/VarHandle" := by decide) (hZH : Z.WarmedH s.vm := by assumption) :
    ∃ (v : Option Value) (T' : State) (L : List Loc), Stand p l e R s m args below meth c T' (locs ++ L) (cells + rm.cells) (slots + rm.slots) ∧ Q v T'.heap L ∧
      ∀ target, Steps p.tables e below (T'.setTop { g with pc := g.pc + 3, stack := v.toList ++ rest }) target → Steps p.tables e below (T.setTop g) target := by
  obtain ⟨cell, hcell, hobj⟩ := E.cell
  have hpriv : s.PrivateAt y := Cond.privateMethod_at (mvP hZ w5 (args := args))
  have hinst : (Jvm.Cond.instanceMethod y).before args s = true := mvT hZ w4
  obtain ⟨c2, r2, m2, -, -, q3, -, kP, hkP, hkPi⟩ := Cond.selects_spec (mvT hZ w6 : (Jvm.Cond.selects K u u).before args s = true)
  have hfc : s.vm.findClass y.cls = some m2.cls := by rw [← hu]; exact findClass_of_methodNamed q3
  have hsel := selects_self_of_private (args := args) hfc hkP hkPi hpriv hinst hy
  obtain ⟨v, vm₁, ⟨T', L', k', n'⟩, -, X', ⟨L, hQ, l1, y1, z1⟩, st⟩ := X.privateBack hx hown (mvT hZ w1) hinst hsel hpriv (mvT hZ wc) hy (own_back (W := W) hM hZH wc wz hf hl) hg hsize (Steps.refl _) (by rw [eT]; exact hcell) hobj hlen hstack hW hdg (fun _ _ => ⟨rfl, eT, hc, hs⟩)
  dsimp only [Pt.U, Pt.locs, Pt.cells, Pt.slots] at X' l1 y1 z1 st hQ
  subst l1 y1 z1
  exact ⟨v, T', L, X', hQ, fun t k => st.trans k⟩
theorem OArr.setD {a : Addr} {ty : FieldType} {N : Nat} {g : Nat → UInt64} (F : OArr Z h a ty N (fun i => .double (g i))) {j : Nat} {x : UInt64} (W : Wr h h' a j (.double x)) : OArr Z h' a ty N (fun i => .double (if i = j then x else g i)) := by
  have q := F.set W
  have e : (fun i => if i = j then Value.double x else Value.double (g i)) = fun i => Value.double (if i = j then x else g i) := by funext i; split <;> rfl
  rw [e] at q; exact q
end OwnTen
def OOrd (n0 : Nat) (l : List Addr) : Prop := (∀ x ∈ l, n0 ≤ x) ∧ l.Pairwise (· ≠ ·)
theorem OOrd.nil {n0 : Nat} : OOrd n0 [] := ⟨all0, List.Pairwise.nil⟩
theorem OOrd.cons {n0 : Nat} {a : Addr} {l : List Addr} (g : n0 ≤ a) (q : ∀ x ∈ l, a ≠ x) (r : OOrd n0 l) : OOrd n0 (a :: l) := ⟨allS g r.1, List.Pairwise.cons q r.2⟩
theorem OOrd.ge {n0 : Nat} {l : List Addr} (h : OOrd n0 l) (i : Nat) {a : Addr} (q : l[i]? = some a) : n0 ≤ a := h.1 a (List.mem_of_getElem? q)
theorem OOrd.ne {n0 : Nat} {l : List Addr} (h : OOrd n0 l) (i j : Nat) {a b : Addr} (hij : i < j := by decide) (ha : l[i]? = some a := by rfl) (hb : l[j]? = some b := by rfl) : a ≠ b := by
  obtain ⟨hi, rfl⟩ := List.getElem?_eq_some_iff.mp ha
  obtain ⟨hj, rfl⟩ := List.getElem?_eq_some_iff.mp hb
  exact List.pairwise_iff_getElem.mp h.2 i j hi hj hij
def own_q1 {α : Type} (a : α) : Nat → α := fun _ => a
def own_q2 {α : Type} (a b : α) : Nat → α | 0 => a | _ => b
def own_q4 {α : Type} (a b c d : α) : Nat → α | 0 => a | 1 => b | 2 => c | _ => d
theorem own_lt1 {f g : Nat → Value} (h0 : f 0 = g 0) : ∀ i, i < 1 → f i = g i := fun i hi => by
  obtain rfl : i = 0 := by omega
  exact h0
theorem own_lt2 {f g : Nat → Value} (h0 : f 0 = g 0) (h1 : f 1 = g 1) : ∀ i, i < 2 → f i = g i := fun i hi => by rcases (by omega : i = 0 ∨ i = 1) with rfl | rfl <;> assumption
theorem own_lt4 {f g : Nat → Value} (h0 : f 0 = g 0) (h1 : f 1 = g 1) (h2 : f 2 = g 2) (h3 : f 3 = g 3) : ∀ i, i < 4 → f i = g i := fun i hi => by rcases (by omega : i = 0 ∨ i = 1 ∨ i = 2 ∨ i = 3) with rfl | rfl | rfl | rfl <;> assumption
theorem own_pk {K : Nat} {g : Bool} {a b : UInt64} (ha : Mag64 K a) (hb : Mag64 K b) : Mag64 K (Native.java_lang_Math.nans.pick64 g a b) := by
  rcases Jvm.Free.Fl.pick64_or g a b with q | q <;> rw [q] <;> assumption
def own_has (M : Int64) (q : Int32) : Int32 := if lcmpW (M &&& ((1 : Int64) <<< (q &&& 0x3f).toInt64)) (0 : Int64) = (0 : Int32) then 0 else 1
def own_minJ (a b : Int64) : Int64 := if 0 < lcmpW a b then b else a
def own_maxI (a b : Int32) : Int32 := if a < b then b else a
/-! own layer 9: a bound method reference (int -> double) *) -/
def OLB : ByteArray := ⟨#[0x2a, 0xb4, 0x00, 0x0f, 0x1b, 0xb6, 0x00, 0x16, 0xaf]⟩
theorem own_l0 : decode OLB 0 = .ok (.aload_n 0, 1) := by decide +kernel
theorem own_l1 : decode OLB 1 = .ok (.getfield 15, 3) := by decide +kernel
theorem own_l4 : decode OLB 4 = .ok (.iload_n 1, 1) := by decide +kernel
theorem own_l5 : decode OLB 5 = .ok (.invokevirtual 22, 3) := by decide +kernel
theorem own_l8 : decode OLB 8 = .ok (.dreturn, 1) := by decide +kernel
/-- what a made class holds -/
def OMade (vm : Vm) (c : ClassId) (nm : String) : Prop :=
  ∃ (k tk : Class) (file : ClassFile) (methk : Method) (ck : Code) (toy : ClassId) (t : MethodId) (f1 : Field), vm.classes[c]? = some k ∧ k.cf = some file ∧ file.constantPool[22]? = some (.methodref 19 21) ∧ plainName k.name = true ∧ k.kind = .ordinary ∧ k.instanceTypes = #[.object "com/example/rankfold/rankfold/summaries/BucketEditor"] ∧
    vm.method? ⟨c, 1⟩ = some methk ∧ methk.code = some ck ∧ ck.code = OLB ∧ ck.maxLocals = 2 ∧ methk.locks = false ∧ methk.accessFlags = 0x0001 ∧ methk.sig.returnType = some .double ∧
    vm.fieldReady c 15 c f1 ∧ f1.isStatic = false ∧ f1.slot = 0 ∧ vm.findClass "com/example/rankfold/rankfold/summaries/BucketEditor" = some toy ∧ vm.classes[toy]? = some tk ∧ tk.isInterface = false ∧ ((methodIn toy nm "(I)D" tk.isInterface none).ask { classPath := fun _ => none } vm).1 = .ok t ∧ vm.methodReady c 22 t ∧ vm.classReady c 19 toy
def OXI : MethodName := ⟨"java/util/function/IntToDoubleFunction", "applyAsDouble", "(I)D"⟩
def OSite (Z : State) (σ : Jvm.Lambda.Shape) (cK : ClassId) : Prop := (∃ d dk, Z.vm.classes[d]? = some dk ∧ dk.name = "com/example/rankfold/rankfold/summaries/BucketEditor" ∧ Jvm.Lambda.isMade { classPath := fun _ => none } Z.vm d σ cK = true) ∧ Jvm.Free.HMW.FnX OXI cK ⟨cK, 1⟩ Z
def OLam (Z : State) (h : Heap) (σ : Jvm.Lambda.Shape) (a b : Addr) : Prop := ∃ cell : Cell, h[a]? = some cell ∧ cell.vm = .none ∧ cell.slots = #[.ref b] ∧ OSite Z σ cell.cls
section OwnLam
variable {p : Program} {l : Launch} {e : Env} {R : Room} {s : State} {m : MethodId} {args : Array Value} {below : List Frame} {meth : Method} {c : Code} {T : State} {locs : List Loc} {cells slots : Nat} {Z : State} {a0 : Array Value} {h h' : Heap} {σ : Jvm.Lambda.Shape} {a b x : Addr} {ws : List Addr} {sl : Nat} {v : Value}
theorem OLam.lt (F : OLam Z h σ a b) : a < h.size := by obtain ⟨_, h1, -⟩ := F; exact (Array.getElem?_eq_some_iff.mp h1).1
theorem OLam.ext (F : OLam Z h σ a b) (E : Ext h h') : OLam Z h' σ a b := by obtain ⟨c, h1, r⟩ := F; exact ⟨c, E.2 _ _ h1, r⟩
theorem OLam.keep (F : OLam Z h σ a b) (K : Keep h h' ws) (q : a ∉ ws) : OLam Z h' σ a b := by obtain ⟨c, h1, r⟩ := F; exact ⟨c, K.2.1 a c h1 q, r⟩
theorem OLam.other (F : OLam Z h σ a b) (W : Wr h h' x sl v) (q : a ≠ x) : OLam Z h' σ a b := by
  obtain ⟨c, h1, r⟩ := F
  obtain ⟨c0, -, -, -, rfl⟩ := W
  exact ⟨c, by rw [Array.getElem?_setIfInBounds_ne (Ne.symm q)]; exact h1, r⟩
theorem own_fnx {cK : ClassId} (hal : Z.vm.Alike s.vm) (F : Jvm.Free.HMW.FnX OXI cK ⟨cK, 1⟩ Z) : Jvm.Free.HMW.FnX OXI cK ⟨cK, 1⟩ s := by
  obtain ⟨kF, mK, h1, h2, h3, h4, h5⟩ := F
  obtain ⟨k', g1, -⟩ := hal.2.2 _ _ h1
  refine ⟨k', mK, g1, (hal.method? _).trans h2, h3, h4, fun r0 r hn hr => ?_⟩
  have hn' : Z.methodNamed? OXI = some r0 := (State.methodNamed?_setVm hal OXI).symm.trans hn
  obtain ⟨q1, q2, q3⟩ := h5 r0 r hn' ((hal.method? _).symm.trans hr)
  refine ⟨(hal.assignable _ _).trans q1, (hal.selectMethod _ _ _).trans q2, ?_⟩
  simp only [hal.superclasses, hal.declaredIn]; exact q3
theorem own_lamNew (X : Stand p l e R s m args below meth c T locs cells slots) (hx : p.tables.exec = Jvm.exec) (hZH : Z.WarmedH s.vm) {y : MethodName} {pc index : Nat} (hnamed : s.methodNamed? y = some m) (hyc : y.cls = "com/example/rankfold/rankfold/summaries/BucketEditor") (hcap : σ.captured = [.object "com/example/rankfold/rankfold/summaries/BucketEditor"])
    (hi : σ.iface = OXI.cls) (hn : σ.name = OXI.name) (hd : σ.sam.toString = OXI.desc) (hsite : (Jvm.Cond.lambdaSite y pc index σ).before a0 Z = true) (wo : (Jvm.Cond.instantiable "java/lang/Object" 0).before a0 Z = true) (wi : (Jvm.Cond.interfaceMethod OXI.cls OXI.cls OXI.name OXI.desc).before a0 Z = true)
    {cf0 : ClassFile} {ms : Array Method} {mt : Method} (hfile : σ.file "com/example/rankfold/rankfold/summaries/BucketEditor" = some cf0) (hlay : layoutMethods cf0 = some ms) (h1 : ms[1]? = some mt) (hfl : mt.accessFlags = 0x0001) (hty : ((σ.file "com/example/rankfold/rankfold/summaries/BucketEditor").bind (layoutFields · 0)).map (·.2.1) = some #[.object "com/example/rankfold/rankfold/summaries/BucketEditor"])
    (eT : T.heap = h) {g : JFrame} (hg : g.method = m) (hsize : g.locals.size = c.maxLocals) {rest : List Value} (hstack : g.stack = .ref b :: rest) (hpc : g.pc = pc) (hdg : decode c.code g.pc = .ok (.invokedynamic index, 5))
    (hw : 2 * g.monitorRoom + (g.stack.map fun v => v.category).sum + 3072 ≤ R.locals) (hc : cells + 1 ≤ R.cells) (hs : slots + 1 ≤ R.slots) :
    ∃ T' h', Stand p l e R s m args below meth c T' locs (cells + 1) (slots + 1) ∧ T'.heap = h' ∧ Ext h h' ∧ OLam Z h' σ h.size b ∧
      ∀ target, Steps p.tables e below (T'.setTop { g with pc := g.pc + 5, stack := .ref h.size :: rest }) target → Steps p.tables e below (T.setTop g) target := by
  have hal := hZH.wide.alike
  obtain ⟨cK, one, hat⟩ := Cond.lambdaSite_spec hsite
  have hF := (Jvm.Free.Fn.of_lambdaAt hat hi hn hd wi (by rw [hyc]; exact hfile) hlay h1 hfl).1
  obtain ⟨m', kS, cfS, i0, p0, lk, hm', hkS, hcfS, hshape, -, hfind, hmade, hcan, hlk⟩ := State.lambdaAt?_spec hat
  have hm2 : s.methodNamed? y = some m' := (State.methodNamed?_setVm hal y).trans hm'
  cases hnamed.symm.trans hm2
  obtain ⟨rfl, rfl, -⟩ : lk = .makes cK ∧ one = none ∧ σ.captured ≠ [] := by
    rcases hlk with ⟨a, cell, -, -, q, -⟩ | q
    · rw [hcap] at q; cases q
    · exact q
  obtain ⟨kS0, hkS0, hnS⟩ := className_of_methodNamed hm'
  cases hkS.symm.trans hkS0
  obtain ⟨bsm, nt, desc, site, hc', hnt, hst, hpar⟩ := Jvm.Lambda.shapeOf?_site hshape
  obtain ⟨kK, hkK, htyK, hkindK, hhid⟩ := Jvm.Lambda.made_types hmade hkS wo (by rw [hnS, hyc]; exact hty)
  obtain ⟨kS', hkS', heS⟩ := hal.2.2 _ _ hkS
  obtain ⟨kK', hkK', heK⟩ := hal.2.2 _ _ hkK
  have htyK' : kK'.instanceTypes = #[.object "com/example/rankfold/rankfold/summaries/BucketEditor"] := by rw [heK]; exact htyK
  have hsl : ((kK'.instanceTypes.toList.zip [(Value.ref b)]).map fun (t, v) => narrow t v) = [Value.ref b] := by rw [htyK']; rfl
  obtain ⟨X1, st⟩ := X.lambdaMakes hx hg hsize hdg (vals := [.ref b]) (rest := rest) hkS' (by rw [heS, hpc]; exact hfind) (by rw [heS]; exact hcfS) hc' hnt (parseLong_of_parse hst) (by rw [hpar, hcap]; rfl) (by rw [hstack]; rfl) hkK'
    (by rw [X.admits.platform]; exact hw) hc (by rw [hsl]; exact hs)
    (fun i v hv => by
      rw [hsl] at hv
      match i, hv with
      | 0, hv => simp at hv; subst hv; simp [State.fitsSlot, State.slotType?, hkK', htyK', show kK'.kind = .ordinary from by rw [heK]; exact hkindK, fits]
      | k + 1, hv => simp at hv)
  rw [hsl] at X1 st
  subst eT
  have hN : (T.heap.push { cls := cK, slots := [Value.ref b].toArray, vm := .none })[T.heap.size]? = some { cls := cK, slots := [Value.ref b].toArray, vm := .none } := by simp
  exact ⟨_, _, X1, rfl, ext_of fun a q => Array.getElem?_push_lt q |>.trans (Array.getElem?_eq_getElem q).symm, ⟨_, hN, rfl, rfl, ⟨_, kS, hkS, hnS.trans hyc, hmade⟩, hF⟩, st⟩
theorem own_lamCall {P : UInt64 → Prop} (X : Stand p l e R s m args below meth c T locs cells slots) (hx : p.tables.exec = Jvm.exec) (hZH : Z.WarmedH s.vm) {own nm : String} {index count : Nat} (hown : s.vm.findClass own = some m.cls)
    (w1 : (Jvm.Cond.methodLink own index OXI).before a0 Z = true) (w2 : (Jvm.Cond.declares OXI).before a0 Z = true) (w3 : (Jvm.Cond.interfaceMethod OXI.cls OXI.cls OXI.name OXI.desc).before a0 Z = true) (wo : (Jvm.Cond.instantiable "java/lang/Object" 0).before a0 Z = true)
    (hfacts : ∀ {vm : Vm} {d c o : ClassId} {dk ok : Class}, vm.classes[d]? = some dk → dk.name = "com/example/rankfold/rankfold/summaries/BucketEditor" → vm.findClass "java/lang/Object" = some o → vm.classes[o]? = some ok → ok.instanceTypes = #[] → Jvm.Lambda.isMade { classPath := fun _ => none } vm d σ c = true → OMade vm c nm)
    {bytes : ByteArray} {maxL : Nat} {rm : Room} (wc : (Jvm.Cond.code ⟨"com/example/rankfold/rankfold/summaries/BucketEditor", nm, "(I)D"⟩ bytes maxL (some .double)).before a0 Z = true) (w4 : (Jvm.Cond.instanceMethod ⟨"com/example/rankfold/rankfold/summaries/BucketEditor", nm, "(I)D"⟩).before a0 Z = true) (w5 : (Jvm.Cond.privateMethod ⟨"com/example/rankfold/rankfold/summaries/BucketEditor", nm, "(I)D"⟩).before a0 Z = true) (wz : (Jvm.Cond.initialized "com/example/rankfold/rankfold/summaries/BucketEditor").before a0 Z = true)
    (eT : T.heap = h) (F : OLam Z h σ a b) (E : Exa Z h b "com/example/rankfold/rankfold/summaries/BucketEditor") {q : Int32} (hM : OMet l Z ⟨"com/example/rankfold/rankfold/summaries/BucketEditor", nm, "(I)D"⟩ bytes maxL (some .double) rm #[.ref b, .int q] h (fun v h' L => (∃ w, v = some (.double w) ∧ P w) ∧ h' = h ∧ L = []))
    (hrc : rm.cells = 0) (hrs : rm.slots = 0) {g : JFrame} (hg : g.method = m) (hsize : g.locals.size = c.maxLocals) {rest : List Value} (hstack : g.stack = .int q :: .ref a :: rest) {W : Nat} (hW : 2 * g.monitorRoom + (rest.map fun v => v.category).sum ≤ W) (hdg : decode c.code g.pc = .ok (.invokeinterface index count, 5))
    (hf : rm.frames + 2 ≤ R.frames) (hl : W + 13 + (maxL + 11) + rm.locals ≤ R.locals) (hc : cells ≤ R.cells) (hs : slots ≤ R.slots) :
    ∃ (w : UInt64) (T' : State), P w ∧ Stand p l e R s m args below meth c T' locs cells slots ∧ T'.heap = h ∧
      ∀ target, Steps p.tables e below (T'.setTop { g with pc := g.pc + 5, stack := .double w :: rest }) target → Steps p.tables e below (T.setTop g) target := by
  obtain ⟨cell, hcell, hvm, hslots, ⟨d, dk, hd, hdn, hmade⟩, hFn⟩ := F
  have hpd : parseMethodDescriptor "(I)D" = some ⟨[.int], some .double⟩ := by decide +kernel
  have hZ := hZH.wide
  obtain ⟨cb, kb, eb1, eb2, eb3, eb4, -⟩ := E
  let R' : Room := ⟨rm.frames + 1, 0, 0, (maxL + 11) + rm.locals⟩
  have hK : BackW l R p e below s args (fun _ m' => m' = ⟨cell.cls, 1⟩) 5 W (fun A a' => a' = #[.ref a, .int q] ∧ A.U.heap = h ∧ A.cells ≤ R.cells ∧ A.slots ≤ R.slots)
      (fun A _ v B => (∃ w, v = some (.double w) ∧ P w) ∧ B.U.heap = h ∧ B.locs = A.locs ∧ B.cells = A.cells ∧ B.slots = A.slots) := by
    intro m meth c A gj ig mk a' X hg hsize hdg hW hwho hpre
    obtain ⟨U, L, cc, nn⟩ := A
    dsimp only [Pt.U, Pt.locs, Pt.cells, Pt.slots] at X hpre hwho ⊢
    obtain ⟨rfl, hUh, hcl, hsl⟩ := hpre
    subst hwho
    have hU : Z.WarmedH U.vm := hZH.trans X.warmed
    have hal := hU.wide.alike
    obtain ⟨dk', hd', hde⟩ := hal.2.2 _ _ hd
    obtain ⟨cO, kO, hfO, hkO, -, -, -, hsz⟩ := Cond.instantiable_spec (mv (s := U) (args := #[]) hU.wide wo)
    obtain ⟨k, tk, file, methk, ck, toy, t, f1, hk, hfile, h22, hpn, hkind, hty, hmk, hck, hbytes, hml, hlk, hfl, hretk, hf1, hf1s, hf1n, htoy, htk, hitf, hlook, hready, hcls⟩ := hfacts hd' (by rw [hde]; exact hdn) hfO hkO (Array.eq_empty_of_size_eq_zero hsz) (Jvm.Lambda.isMade_warmer hU hmade)
    obtain ⟨mB, metB, hnB, hmB, hstB, habB⟩ := Cond.instanceMethod_spec (mv (s := U) (args := #[]) hU.wide w4)
    have hcode := mv (s := U) (args := #[]) hU.wide wc
    obtain ⟨metB', cB, hmB', -, -, -, -, -, -, hsigB⟩ := Cond.code_spec hnB hcode
    cases hmB.symm.trans hmB'
    have hpriv : metB.isPrivate = true := by
      have q := mv (s := U) (args := #[]) hU.wide w5
      simpa [Cond.before, Cond.holds, Cond.value, hnB, hmB] using q
    have htB : t = mB := by
      have q := Jvm.Free.Fw.look_of_named hnB (by decide : ("com/example/rankfold/rankfold/summaries/BucketEditor" : String) ≠ "java/lang/invoke/MethodHandle" ∧ ("com/example/rankfold/rankfold/summaries/BucketEditor" : String) ≠ "java/lang/invoke/VarHandle") toy tk htoy htk
      exact Except.ok.inj (hlook.symm.trans q)
    subst htB
    have hclsT : t.cls = toy := Option.some.inj ((findClass_of_methodNamed hnB).symm.trans htoy)
    obtain ⟨kT, hkT, hnT⟩ := className_of_methodNamed hnB
    rw [hclsT] at hkT
    cases htk.symm.trans hkT
    have hpoly : signaturePolymorphic tk metB = false := by simp [signaturePolymorphic, hnT]
    obtain ⟨v, T', U₁, L₁, c₁, n₁, X', ⟨⟨hv, hp⟩, hh1, hL1, hc1, hn1⟩, hh, hvv, -, steps⟩ := X.through hg hsize hdg #[.ref a, .int q] (R' := R') hmk hck hlk (State.plainMethod.of_name (fun k' hk' => by cases hk.symm.trans hk'; exact hpn)) (by show rm.frames + 1 + 1 ≤ R.frames; omega) (by rw [hml]; show _ + (2 + 11) + (maxL + 11 + rm.locals) ≤ _; omega) (by show cc + 0 ≤ _; omega) (by show nn + 0 ≤ _; omega)
      (Φ := fun v U₁ L₁ c₁ n₁ => ((∃ w, v = some (.double w) ∧ P w) ∧ True) ∧ U₁.heap = h ∧ L₁ = [] ∧ c₁ = 0 ∧ n₁ = 0)
      (fun U₀ hU₀ Y₀ => by
        have hvm0 : U₀.vm = U.vm := by rw [hU₀]; rfl
        have hheap : U₀.heap = h := by rw [hU₀]; exact hUh
        have hloc : entryFrame (⟨cell.cls, 1⟩ : MethodId) #[.ref a, .int q] ck.maxLocals = { method := ⟨cell.cls, 1⟩, pc := 0, locals := #[.val (.ref a), .val (.int q)], stack := [], locked := none } := by rw [hml]; rfl
        rw [hloc]
        have c1 : Steps p.tables e (.java gj :: below) (U₀.setTop { method := ⟨cell.cls, 1⟩, pc := 0, locals := #[.val (.ref a), .val (.int q)], stack := [], locked := none }) (U₀.setTop { method := ⟨cell.cls, 1⟩, pc := 1, locals := #[.val (.ref a), .val (.int q)], stack := [.ref a], locked := none }) := by
          jvm_step Y₀.here [hx, hbytes, own_l0, Value.isRef]
          exact Steps.refl _
        have c2 := Y₀.getfieldR hx (g := { method := ⟨cell.cls, 1⟩, pc := 1, locals := #[.val (.ref a), .val (.int q)], stack := [.ref a], locked := none }) rfl (index := 15) (cF := cell.cls) (a := a) (field := f1) (cell := cell) (v := .ref b) (rest := []) (by rw [hvm0]; exact hf1) hf1s rfl (by rw [hheap]; exact hcell) (by rw [hvm]; simp) (by rw [hslots, hf1n]; rfl) (by rw [hbytes]; exact own_l1) c1
        have c3 : Steps p.tables e (.java gj :: below) (U₀.setTop { method := ⟨cell.cls, 1⟩, pc := 4, locals := #[.val (.ref a), .val (.int q)], stack := [.ref b], locked := none }) (U₀.setTop { method := ⟨cell.cls, 1⟩, pc := 5, locals := #[.val (.ref a), .val (.int q)], stack := [.int q, .ref b], locked := none }) := by
          jvm_step Y₀.here [hx, hbytes, own_l4]
          exact Steps.refl _
        obtain ⟨v, ⟨U₁, L₁, c₁, n₁⟩, Y₁, ⟨Lq, ⟨⟨w, rfl, hpw⟩, hhq, rfl⟩, hlq, hcq, hnq⟩, c4⟩ := Y₀.virtualR hx (g := { method := ⟨cell.cls, 1⟩, pc := 5, locals := #[.val (.ref a), .val (.int q)], stack := [.int q, .ref b], locked := none }) rfl (by rw [hml]; rfl) (index := 22) (a := b) (y := ⟨"com/example/rankfold/rankfold/summaries/BucketEditor", nm, "(I)D"⟩) (r := t) (t := t) (kr := tk) (kt := tk) (methr := metB) (metht := metB) (cell := cb) (argsL := [.int q]) (rest := [])
          ⟨k, file, 19, 21, toy, tk, by rw [hvm0]; exact hk, hfile, h22, by rw [hvm0]; exact hcls, by rw [hvm0]; exact htk, hitf⟩ (by rw [hvm0]; exact hready) (by rw [hvm0, hclsT]; exact htk) (by rw [hvm0]; exact hmB) hpoly hstB (by rw [← Option.some.inj (hpd.symm.trans hsigB)]; rfl) rfl (by rw [hheap]; exact eb1) (fun z q => by rw [q] at eb4; cases eb4)
          (by rw [hvm0]; exact selectMethod_private hmB hpriv) (by rw [hvm0]; exact hmB) habB (by rw [hvm0, hclsT]; exact htk) hitf (show (U.setVm U₀.vm).methodNamed? ⟨"com/example/rankfold/rankfold/summaries/BucketEditor", nm, "(I)D"⟩ = some t by rw [hvm0]; exact hnB)
          (own_back (R := R') (s := U.calling gj ⟨cell.cls, 1⟩ #[.ref a, .int q]) (W := 0) hM hU wc wz (Nat.le_refl _) (by show 0 + (maxL + 11) + rm.locals ≤ maxL + 11 + rm.locals; omega)) (by show 2 * 0 + 0 ≤ 0; decide) ⟨rfl, hheap, by show 0 + rm.cells ≤ 0; omega, by show 0 + rm.slots ≤ 0; omega⟩ (by rw [hbytes]; exact own_l5) (c2.trans c3)
        dsimp only [Pt.U, Pt.locs, Pt.cells, Pt.slots] at Y₁ c4 hlq hcq hnq hhq
        exact ⟨some (.double w), U₁, L₁, c₁, n₁, Y₁, (fun h => by rw [hretk] at h; cases h), ⟨⟨⟨w, rfl, hpw⟩, trivial⟩, hhq, by rw [hlq]; rfl, by omega, by omega⟩,
          fun fs hleave => c4.trans (retOut Y₁ hx hretk rfl (Or.inr (Or.inr (Or.inl ⟨rfl, rfl, w, rfl⟩))) (by rw [hbytes]; exact own_l8) hleave)⟩)
    subst hL1 hc1 hn1
    exact ⟨v, ⟨T', L ++ [], cc + 0, nn + 0⟩, X', ⟨hv, hh.trans hh1, by simp, rfl, rfl⟩, steps⟩
  obtain ⟨v, vm₁, ⟨T', L', k', n'⟩, -, X', ⟨⟨w, rfl, hpw⟩, hh, hl', hc', hn'⟩, st⟩ := X.fnAt hx hown (xi := OXI) (fun w hw => by
      simp only [Jvm.Free.Fn.fnW, List.mem_cons, List.not_mem_nil, or_false] at hw
      rcases hw with rfl | rfl | rfl
      · exact mv hZ w1
      · exact mv hZ w2
      · exact mvT hZ w3) (by decide) (own_fnx hZ.alike hFn) hK (fun _ _ => rfl) (b := a) ⟨cell, by rw [eT]; exact hcell, rfl, by rw [hvm]; rfl⟩ hg hsize (Steps.refl _) (argsL := [.int q]) (rest := rest) (fun sig hs => by cases hpd.symm.trans hs; rfl) hstack hW hdg (fun _ _ => ⟨rfl, eT, hc, hs⟩)
  dsimp only [Pt.U, Pt.locs, Pt.cells, Pt.slots] at X' hl' hc' hn' st hh
  subst hl' hc' hn'
  exact ⟨w, T', hpw, X', hh, fun t k => st.trans k⟩
end OwnLam
namespace LJ
def sg : Jvm.Lambda.Shape := Jvm.Lambda.Shape.mk "java/util/function/IntToDoubleFunction" "applyAsDouble" (Jvm.ClassFile.MethodDescriptor.mk ([Jvm.ClassFile.FieldType.int] : List Jvm.ClassFile.FieldType) (Option.some Jvm.ClassFile.FieldType.double)) ([(Jvm.ClassFile.FieldType.object "com/example/rankfold/rankfold/summaries/BucketEditor")] : List Jvm.ClassFile.FieldType) (5 : Nat) "com/example/rankfold/rankfold/summaries/BucketEditor" "joinedError" (Jvm.ClassFile.MethodDescriptor.mk ([Jvm.ClassFile.FieldType.int] : List Jvm.ClassFile.FieldType) (Option.some Jvm.ClassFile.FieldType.double)) false (Jvm.ClassFile.MethodDescriptor.mk ([Jvm.ClassFile.FieldType.int] : List Jvm.ClassFile.FieldType) (Option.some Jvm.ClassFile.FieldType.double))
def D : ClassFile := (sg.file "com/example/rankfold/rankfold/summaries/BucketEditor").getD { minorVersion := 0, majorVersion := 0, constantPool := #[], accessFlags := 0, thisClass := 0, superClass := 0, interfaces := #[], fields := #[], methods := #[], attributes := #[] }
def fw : Method := ((layoutMethods D).bind (·[1]?)).getD default
theorem file_is : sg.file "com/example/rankfold/rankfold/summaries/BucketEditor" = some D := by
  obtain ⟨x, hx⟩ := Option.isSome_iff_exists.mp (by decide +kernel : (sg.file "com/example/rankfold/rankfold/summaries/BucketEditor").isSome = true)
  simp [D, hx]
theorem second_is {ms : Array Method} (h : layoutMethods D = some ms) : ms[1]? = some fw := by
  obtain ⟨x, hx⟩ := Option.isSome_iff_exists.mp (by decide +kernel : ((layoutMethods D).bind (·[1]?)).isSome = true)
  have hf : fw = x := by simp [fw, hx]
  rw [h] at hx; rw [hf]; exact hx
theorem lay_is : ∃ ms, layoutMethods D = some ms := by
  obtain ⟨x, hx⟩ := Option.isSome_iff_exists.mp (by decide +kernel : (layoutMethods D).isSome = true)
  exact ⟨x, hx⟩
theorem ty_is : ((sg.file "com/example/rankfold/rankfold/summaries/BucketEditor").bind (layoutFields · 0)).map (·.2.1) = some #[.object "com/example/rankfold/rankfold/summaries/BucketEditor"] := by decide +kernel
theorem f_code : (fw.code.map fun c => (c.code.data, c.maxLocals)) = some (OLB.data, 2) := by decide +kernel
theorem f_flags : (fw.accessFlags, fw.sig.returnType) = (0x0001, some FieldType.double) := by decide +kernel
theorem fl_is : fw.accessFlags = 0x0001 := by have q := f_flags; simp only [Prod.mk.injEq] at q; exact q.1
theorem e22 : D.constantPool[22]? = some (.methodref 19 21) ∧ D.constantPool.className? 19 = some "com/example/rankfold/rankfold/summaries/BucketEditor" ∧ D.constantPool.nameAndType? 21 = some ("joinedError", "(I)D") := by decide +kernel
theorem e19 : D.constantPool[19]? = some (.class_ 18) ∧ D.constantPool.string? 18 = some "com/example/rankfold/rankfold/summaries/BucketEditor" ∧ 19 ≠ D.thisClass := by decide +kernel
theorem e15 : D.constantPool[15]? = some (.fieldref 2 14) ∧ D.constantPool.nameAndType? 14 = some ("arg$1", "Lcom/example/rankfold/rankfold/summaries/BucketEditor;") := by decide +kernel
theorem e_lay : (layoutFields D 0).map (fun q => (q.1.findIdx? (fun f => f.name == "arg$1"), (q.1[0]?).map (fun f => (f.slot, f.isStatic)), q.2.1)) = some (some 0, some (0, false), #[.object "com/example/rankfold/rankfold/summaries/BucketEditor"]) := by decide +kernel
theorem facts {vm : Vm} {d c o : ClassId} {dk ok : Class} (hd : vm.classes[d]? = some dk) (hname : dk.name = "com/example/rankfold/rankfold/summaries/BucketEditor") (ho : vm.findClass "java/lang/Object" = some o) (hok : vm.classes[o]? = some ok) (hz : ok.instanceTypes = #[])
    (h : Jvm.Lambda.isMade { classPath := fun _ => none } vm d sg c = true) : OMade vm c "joinedError" := by
  obtain ⟨dk', k, ok', tk, file, cf, object, iface, toy, lay, methods, target, found, hd', hk, hfile, hcf, ho', -, hok', hlay, hms, ht, htk, hg, -, hrec, -, -, -, hitf, hpool, hmeth, hfld, hty, hres, -⟩ := Jvm.Lambda.isMade_spec h
  cases hd.symm.trans hd'
  cases ho.symm.trans ho'
  cases hok.symm.trans hok'
  rw [hname, file_is] at hcf
  cases hcf
  rw [hz] at hlay hty
  have hl := e_lay
  rw [show layoutFields D 0 = some lay from hlay] at hl
  simp only [Option.map_some, Option.some.injEq, Prod.mk.injEq] at hl
  obtain ⟨l1, l2, l3⟩ := hl
  rcases h0 : lay.1[0]? with _ | f1
  · rw [h0] at l2; cases l2
  rw [h0] at l2
  simp only [Option.map_some, Option.some.injEq, Prod.mk.injEq] at l2
  obtain ⟨b, hb, hsame⟩ := hmeth 1 fw (second_is hms)
  have hsm := Jvm.Lambda.sameMethod_spec hsame
  simp only [Jvm.Lambda.sameMethod, Bool.and_eq_true, decide_eq_true_eq] at hsame
  obtain ⟨⟨-, -, hsig, hfl⟩, hcode⟩ := hsame
  have fc := f_code
  have ff := f_flags
  simp only [Prod.mk.injEq] at ff
  rcases hfc : fw.code with _ | x
  · rw [hfc] at fc; cases fc
  rcases hbc : b.code with _ | y
  · simp [hfc, hbc] at hcode
  simp only [hfc, hbc, Bool.and_eq_true, decide_eq_true_eq] at hcode
  simp only [hfc, Option.map_some, Option.some.injEq, Prod.mk.injEq] at fc
  refine ⟨k, tk, file, b, y, toy, target, f1, hk, hfile, by rw [hpool.2.1]; exact e22.1, by rw [hrec.1, hname]; decide, hrec.2.1, by rw [hty.1, l3]; rfl, by simp [Vm.method?, hk, hb], hbc, ?_, by rw [← hcode.1.1.1.1.2.1]; exact fc.2, ?_, by rw [← hfl]; exact ff.1, by rw [← hsig]; exact ff.2,
    ⟨k, 0, k, hk, hres 15 _ (Jvm.Lambda.resolvedOf_field e15.1 e15.2 l1), hk, hfld 0 _ h0⟩, l2.2, l2.1, ht, htk, hitf, hg, ⟨k, hk, hres 22 _ (Jvm.Lambda.resolvedOf_method e22.1 e22.2.1 ht htk e22.2.2 hg)⟩, ⟨k, hk, hres 19 _ (Jvm.Lambda.resolvedOf_class e19.1 e19.2.2 e19.2.1 ht)⟩⟩
  · rw [← hcode.1.1.1.1.2.2]; exact ByteArray.ext fc.1
  · simp [Method.locks, Method.isSynchronized, ← hfl, ff.1, hasFlag, Acc.synchronized]
end LJ
namespace LT
def sg : Jvm.Lambda.Shape := Jvm.Lambda.Shape.mk "java/util/function/IntToDoubleFunction" "applyAsDouble" (Jvm.ClassFile.MethodDescriptor.mk ([Jvm.ClassFile.FieldType.int] : List Jvm.ClassFile.FieldType) (Option.some Jvm.ClassFile.FieldType.double)) ([(Jvm.ClassFile.FieldType.object "com/example/rankfold/rankfold/summaries/BucketEditor")] : List Jvm.ClassFile.FieldType) (5 : Nat) "com/example/rankfold/rankfold/summaries/BucketEditor" "threshold" (Jvm.ClassFile.MethodDescriptor.mk ([Jvm.ClassFile.FieldType.int] : List Jvm.ClassFile.FieldType) (Option.some Jvm.ClassFile.FieldType.double)) false (Jvm.ClassFile.MethodDescriptor.mk ([Jvm.ClassFile.FieldType.int] : List Jvm.ClassFile.FieldType) (Option.some Jvm.ClassFile.FieldType.double))
def D : ClassFile := (sg.file "com/example/rankfold/rankfold/summaries/BucketEditor").getD { minorVersion := 0, majorVersion := 0, constantPool := #[], accessFlags := 0, thisClass := 0, superClass := 0, interfaces := #[], fields := #[], methods := #[], attributes := #[] }
def fw : Method := ((layoutMethods D).bind (·[1]?)).getD default
theorem file_is : sg.file "com/example/rankfold/rankfold/summaries/BucketEditor" = some D := by
  obtain ⟨x, hx⟩ := Option.isSome_iff_exists.mp (by decide +kernel : (sg.file "com/example/rankfold/rankfold/summaries/BucketEditor").isSome = true)
  simp [D, hx]
theorem second_is {ms : Array Method} (h : layoutMethods D = some ms) : ms[1]? = some fw := by
  obtain ⟨x, hx⟩ := Option.isSome_iff_exists.mp (by decide +kernel : ((layoutMethods D).bind (·[1]?)).isSome = true)
  have hf : fw = x := by simp [fw, hx]
  rw [h] at hx; rw [hf]; exact hx
theorem lay_is : ∃ ms, layoutMethods D = some ms := by
  obtain ⟨x, hx⟩ := Option.isSome_iff_exists.mp (by decide +kernel : (layoutMethods D).isSome = true)
  exact ⟨x, hx⟩
theorem ty_is : ((sg.file "com/example/rankfold/rankfold/summaries/BucketEditor").bind (layoutFields · 0)).map (·.2.1) = some #[.object "com/example/rankfold/rankfold/summaries/BucketEditor"] := by decide +kernel
theorem f_code : (fw.code.map fun c => (c.code.data, c.maxLocals)) = some (OLB.data, 2) := by decide +kernel
theorem f_flags : (fw.accessFlags, fw.sig.returnType) = (0x0001, some FieldType.double) := by decide +kernel
theorem fl_is : fw.accessFlags = 0x0001 := by have q := f_flags; simp only [Prod.mk.injEq] at q; exact q.1
theorem e22 : D.constantPool[22]? = some (.methodref 19 21) ∧ D.constantPool.className? 19 = some "com/example/rankfold/rankfold/summaries/BucketEditor" ∧ D.constantPool.nameAndType? 21 = some ("threshold", "(I)D") := by decide +kernel
theorem e19 : D.constantPool[19]? = some (.class_ 18) ∧ D.constantPool.string? 18 = some "com/example/rankfold/rankfold/summaries/BucketEditor" ∧ 19 ≠ D.thisClass := by decide +kernel
theorem e15 : D.constantPool[15]? = some (.fieldref 2 14) ∧ D.constantPool.nameAndType? 14 = some ("arg$1", "Lcom/example/rankfold/rankfold/summaries/BucketEditor;") := by decide +kernel
theorem e_lay : (layoutFields D 0).map (fun q => (q.1.findIdx? (fun f => f.name == "arg$1"), (q.1[0]?).map (fun f => (f.slot, f.isStatic)), q.2.1)) = some (some 0, some (0, false), #[.object "com/example/rankfold/rankfold/summaries/BucketEditor"]) := by decide +kernel
theorem facts {vm : Vm} {d c o : ClassId} {dk ok : Class} (hd : vm.classes[d]? = some dk) (hname : dk.name = "com/example/rankfold/rankfold/summaries/BucketEditor") (ho : vm.findClass "java/lang/Object" = some o) (hok : vm.classes[o]? = some ok) (hz : ok.instanceTypes = #[])
    (h : Jvm.Lambda.isMade { classPath := fun _ => none } vm d sg c = true) : OMade vm c "threshold" := by
  obtain ⟨dk', k, ok', tk, file, cf, object, iface, toy, lay, methods, target, found, hd', hk, hfile, hcf, ho', -, hok', hlay, hms, ht, htk, hg, -, hrec, -, -, -, hitf, hpool, hmeth, hfld, hty, hres, -⟩ := Jvm.Lambda.isMade_spec h
  cases hd.symm.trans hd'
  cases ho.symm.trans ho'
  cases hok.symm.trans hok'
  rw [hname, file_is] at hcf
  cases hcf
  rw [hz] at hlay hty
  have hl := e_lay
  rw [show layoutFields D 0 = some lay from hlay] at hl
  simp only [Option.map_some, Option.some.injEq, Prod.mk.injEq] at hl
  obtain ⟨l1, l2, l3⟩ := hl
  rcases h0 : lay.1[0]? with _ | f1
  · rw [h0] at l2; cases l2
  rw [h0] at l2
  simp only [Option.map_some, Option.some.injEq, Prod.mk.injEq] at l2
  obtain ⟨b, hb, hsame⟩ := hmeth 1 fw (second_is hms)
  have hsm := Jvm.Lambda.sameMethod_spec hsame
  simp only [Jvm.Lambda.sameMethod, Bool.and_eq_true, decide_eq_true_eq] at hsame
  obtain ⟨⟨-, -, hsig, hfl⟩, hcode⟩ := hsame
  have fc := f_code
  have ff := f_flags
  simp only [Prod.mk.injEq] at ff
  rcases hfc : fw.code with _ | x
  · rw [hfc] at fc; cases fc
  rcases hbc : b.code with _ | y
  · simp [hfc, hbc] at hcode
  simp only [hfc, hbc, Bool.and_eq_true, decide_eq_true_eq] at hcode
  simp only [hfc, Option.map_some, Option.some.injEq, Prod.mk.injEq] at fc
  refine ⟨k, tk, file, b, y, toy, target, f1, hk, hfile, by rw [hpool.2.1]; exact e22.1, by rw [hrec.1, hname]; decide, hrec.2.1, by rw [hty.1, l3]; rfl, by simp [Vm.method?, hk, hb], hbc, ?_, by rw [← hcode.1.1.1.1.2.1]; exact fc.2, ?_, by rw [← hfl]; exact ff.1, by rw [← hsig]; exact ff.2,
    ⟨k, 0, k, hk, hres 15 _ (Jvm.Lambda.resolvedOf_field e15.1 e15.2 l1), hk, hfld 0 _ h0⟩, l2.2, l2.1, ht, htk, hitf, hg, ⟨k, hk, hres 22 _ (Jvm.Lambda.resolvedOf_method e22.1 e22.2.1 ht htk e22.2.2 hg)⟩, ⟨k, hk, hres 19 _ (Jvm.Lambda.resolvedOf_class e19.1 e19.2.2 e19.2.1 ht)⟩⟩
  · rw [← hcode.1.1.1.1.2.2]; exact ByteArray.ext fc.1
  · simp [Method.locks, Method.isSynchronized, ← hfl, ff.1, hasFlag, Acc.synchronized]
end LT
theorem own_mkJ {p : Program} {l : Launch} {e : Env} {R : Room} {s : State} {m : MethodId} {args : Array Value} {below : List Frame} {meth : Method} {c : Code} {T : State} {locs : List Loc} {cells slots : Nat} {Z : State} {a0 : Array Value} {h : Heap} {b : Addr}
    (X : Stand p l e R s m args below meth c T locs cells slots) (hx : p.tables.exec = Jvm.exec) (hZH : Z.WarmedH s.vm) {y : MethodName} {pc index : Nat} (hnamed : s.methodNamed? y = some m) (hyc : y.cls = "com/example/rankfold/rankfold/summaries/BucketEditor")
    (hsite : (Jvm.Cond.lambdaSite y pc index LJ.sg).before a0 Z = true) (wo : (Jvm.Cond.instantiable "java/lang/Object" 0).before a0 Z = true) (wi : (Jvm.Cond.interfaceMethod OXI.cls OXI.cls OXI.name OXI.desc).before a0 Z = true)
    (eT : T.heap = h) {g : JFrame} (hg : g.method = m) (hsize : g.locals.size = c.maxLocals) {rest : List Value} (hstack : g.stack = .ref b :: rest) (hpc : g.pc = pc) (hdg : decode c.code g.pc = .ok (.invokedynamic index, 5))
    (hw : 2 * g.monitorRoom + (g.stack.map fun v => v.category).sum + 3072 ≤ R.locals) (hc : cells + 1 ≤ R.cells) (hs : slots + 1 ≤ R.slots) :
    ∃ T' h', Stand p l e R s m args below meth c T' locs (cells + 1) (slots + 1) ∧ T'.heap = h' ∧ Ext h h' ∧ OLam Z h' LJ.sg h.size b ∧
      ∀ target, Steps p.tables e below (T'.setTop { g with pc := g.pc + 5, stack := .ref h.size :: rest }) target → Steps p.tables e below (T.setTop g) target := by
  obtain ⟨ms, hms⟩ := LJ.lay_is
  exact own_lamNew X hx hZH hnamed hyc rfl rfl rfl (by decide +kernel) hsite wo wi LJ.file_is hms (LJ.second_is hms) LJ.fl_is LJ.ty_is eT hg hsize hstack hpc hdg hw hc hs
theorem own_mkT {p : Program} {l : Launch} {e : Env} {R : Room} {s : State} {m : MethodId} {args : Array Value} {below : List Frame} {meth : Method} {c : Code} {T : State} {locs : List Loc} {cells slots : Nat} {Z : State} {a0 : Array Value} {h : Heap} {b : Addr}
    (X : Stand p l e R s m args below meth c T locs cells slots) (hx : p.tables.exec = Jvm.exec) (hZH : Z.WarmedH s.vm) {y : MethodName} {pc index : Nat} (hnamed : s.methodNamed? y = some m) (hyc : y.cls = "com/example/rankfold/rankfold/summaries/BucketEditor")
    (hsite : (Jvm.Cond.lambdaSite y pc index LT.sg).before a0 Z = true) (wo : (Jvm.Cond.instantiable "java/lang/Object" 0).before a0 Z = true) (wi : (Jvm.Cond.interfaceMethod OXI.cls OXI.cls OXI.name OXI.desc).before a0 Z = true)
    (eT : T.heap = h) {g : JFrame} (hg : g.method = m) (hsize : g.locals.size = c.maxLocals) {rest : List Value} (hstack : g.stack = .ref b :: rest) (hpc : g.pc = pc) (hdg : decode c.code g.pc = .ok (.invokedynamic index, 5))
    (hw : 2 * g.monitorRoom + (g.stack.map fun v => v.category).sum + 3072 ≤ R.locals) (hc : cells + 1 ≤ R.cells) (hs : slots + 1 ≤ R.slots) :
    ∃ T' h', Stand p l e R s m args below meth c T' locs (cells + 1) (slots + 1) ∧ T'.heap = h' ∧ Ext h h' ∧ OLam Z h' LT.sg h.size b ∧
      ∀ target, Steps p.tables e below (T'.setTop { g with pc := g.pc + 5, stack := .ref h.size :: rest }) target → Steps p.tables e below (T.setTop g) target := by
  obtain ⟨ms, hms⟩ := LT.lay_is
  exact own_lamNew X hx hZH hnamed hyc rfl rfl rfl (by decide +kernel) hsite wo wi LT.file_is hms (LT.second_is hms) LT.fl_is LT.ty_is eT hg hsize hstack hpc hdg hw hc hs
/-! own layer 11: short forms -/
section OwnP
variable {p : Program} {l : Launch} {e : Env} {R : Room} {s : State} {m : MethodId} {args : Array Value} {below : List Frame} {meth : Method} {c : Code} {T : State} {locs : List Loc} {cells slots : Nat} {Z : State} {a0 : Array Value} {h : Heap} {kc ks : Nat} {Q : Option Value → Heap → List Loc → Prop} {pc n pc' : Nat} {Ls l' : Array Slot} {S S' : List Value}
theorem pA (X : Stand p l e R s m args below meth c T locs cells slots) (hx : p.tables.exec = Jvm.exec) {k : Fin 4} {v : Value} (hd : decode c.code pc = .ok (.aload_n k, 1)) (hl : Ls[k.val]? = some (.val v)) (hv : v.isRef = true) (K : OFin p e below s kc ks Q (T.setTop (mkF m (pc + 1) Ls (v :: S)))) : OFin p e below s kc ks Q (T.setTop (mkF m pc Ls S)) := own_st (fun _ kS => XS.aloadN X.here hx rfl hd hl hv kS) K
theorem pa (X : Stand p l e R s m args below meth c T locs cells slots) (hx : p.tables.exec = Jvm.exec) {k : Nat} {v : Value} (hd : decode c.code pc = .ok (.aload k, 2)) (hl : Ls[k]? = some (.val v)) (hv : v.isRef = true) (K : OFin p e below s kc ks Q (T.setTop (mkF m (pc + 2) Ls (v :: S)))) : OFin p e below s kc ks Q (T.setTop (mkF m pc Ls S)) := own_st (fun _ kS => XS.aload X.here hx rfl hd hl hv kS) K
theorem pI (X : Stand p l e R s m args below meth c T locs cells slots) (hx : p.tables.exec = Jvm.exec) {k : Fin 4} {v : Int32} (hd : decode c.code pc = .ok (.iload_n k, 1)) (hl : Ls[k.val]? = some (.val (.int v))) (K : OFin p e below s kc ks Q (T.setTop (mkF m (pc + 1) Ls (.int v :: S)))) : OFin p e below s kc ks Q (T.setTop (mkF m pc Ls S)) := own_st (fun _ kS => XS.iloadN X.here hx rfl hd hl kS) K
theorem pi (X : Stand p l e R s m args below meth c T locs cells slots) (hx : p.tables.exec = Jvm.exec) {k : Nat} {v : Int32} (hd : decode c.code pc = .ok (.iload k, 2)) (hl : Ls[k]? = some (.val (.int v))) (K : OFin p e below s kc ks Q (T.setTop (mkF m (pc + 2) Ls (.int v :: S)))) : OFin p e below s kc ks Q (T.setTop (mkF m pc Ls S)) := own_st (fun _ kS => XS.iload X.here hx rfl hd hl kS) K
theorem pD (X : Stand p l e R s m args below meth c T locs cells slots) (hx : p.tables.exec = Jvm.exec) {k : Fin 4} {v : UInt64} (hd : decode c.code pc = .ok (.dload_n k, 1)) (hl : Ls[k.val]? = some (.val (.double v))) (K : OFin p e below s kc ks Q (T.setTop (mkF m (pc + 1) Ls (.double v :: S)))) : OFin p e below s kc ks Q (T.setTop (mkF m pc Ls S)) := own_st (fun _ kS => XT.dloadN X.here hx rfl hd hl kS) K
theorem pd (X : Stand p l e R s m args below meth c T locs cells slots) (hx : p.tables.exec = Jvm.exec) {k : Nat} {v : UInt64} (hd : decode c.code pc = .ok (.dload k, 2)) (hl : Ls[k]? = some (.val (.double v))) (K : OFin p e below s kc ks Q (T.setTop (mkF m (pc + 2) Ls (.double v :: S)))) : OFin p e below s kc ks Q (T.setTop (mkF m pc Ls S)) := own_st (fun _ kS => XT.dload X.here hx rfl hd hl kS) K
theorem pC (X : Stand p l e R s m args below meth c T locs cells slots) (hx : p.tables.exec = Jvm.exec) {i : Int} (v : Int32) (hd : decode c.code pc = .ok (.iconst i, 1)) (hv : Int32.ofInt i = v) (K : OFin p e below s kc ks Q (T.setTop (mkF m (pc + 1) Ls (.int v :: S)))) : OFin p e below s kc ks Q (T.setTop (mkF m pc Ls S)) := by subst hv; exact own_st (fun _ kS => XS.iconst X.here hx rfl hd kS) K
theorem pB (X : Stand p l e R s m args below meth c T locs cells slots) (hx : p.tables.exec = Jvm.exec) {i : Int} (v : Int32) (hd : decode c.code pc = .ok (.bipush i, 2)) (hv : (Int8.ofInt i).toInt32 = v) (K : OFin p e below s kc ks Q (T.setTop (mkF m (pc + 2) Ls (.int v :: S)))) : OFin p e below s kc ks Q (T.setTop (mkF m pc Ls S)) := by subst hv; exact own_st (fun _ kS => XS.bipush X.here hx rfl hd kS) K
theorem pP (X : Stand p l e R s m args below meth c T locs cells slots) (hx : p.tables.exec = Jvm.exec) {i : Int} (v : Int32) (hd : decode c.code pc = .ok (.sipush i, 3)) (hv : (Int16.ofInt i).toInt32 = v) (K : OFin p e below s kc ks Q (T.setTop (mkF m (pc + 3) Ls (.int v :: S)))) : OFin p e below s kc ks Q (T.setTop (mkF m pc Ls S)) := by subst hv; exact own_st (fun _ kS => XS.sipush X.here hx rfl hd kS) K
theorem pG (X : Stand p l e R s m args below meth c T locs cells slots) (hx : p.tables.exec = Jvm.exec) {o : Int} (pc' : Nat) (hd : decode c.code pc = .ok (.goto o, 3))  (K : OFin p e below s kc ks Q (T.setTop (mkF m pc' Ls S))) (ho : 0 ≤ (pc : Int) + o := by decide) (hp : ((pc : Int) + o).toNat = pc' := by decide) : OFin p e below s kc ks Q (T.setTop (mkF m pc Ls S)) := own_st (fun _ kS => XS.goto (pc0 := pc) (pc' := pc') X.here hx rfl rfl hd ho hp kS) K
theorem pS (X : Stand p l e R s m args below meth c T locs cells slots) (hx : p.tables.exec = Jvm.exec) {k : Fin 4} {v : Int32} (l' : Array Slot) (hd : decode c.code pc = .ok (.istore_n k, 1)) (hl : storeLocals Ls k.val (.int v) = some l') (K : OFin p e below s kc ks Q (T.setTop (mkF m (pc + 1) l' S))) : OFin p e below s kc ks Q (T.setTop (mkF m pc Ls (.int v :: S))) := own_st (fun _ kS => XS.istoreN X.here hx rfl hd rfl hl kS) K
theorem ps (X : Stand p l e R s m args below meth c T locs cells slots) (hx : p.tables.exec = Jvm.exec) {k : Nat} {v : Int32} (l' : Array Slot) (hd : decode c.code pc = .ok (.istore k, 2)) (hl : storeLocals Ls k (.int v) = some l') (K : OFin p e below s kc ks Q (T.setTop (mkF m (pc + 2) l' S))) : OFin p e below s kc ks Q (T.setTop (mkF m pc Ls (.int v :: S))) := own_st (fun _ kS => XS.istore X.here hx rfl hd rfl hl kS) K
theorem pT (X : Stand p l e R s m args below meth c T locs cells slots) (hx : p.tables.exec = Jvm.exec) {k : Fin 4} {v : UInt64} (l' : Array Slot) (hd : decode c.code pc = .ok (.dstore_n k, 1)) (hl : storeLocals Ls k.val (.double v) = some l') (K : OFin p e below s kc ks Q (T.setTop (mkF m (pc + 1) l' S))) : OFin p e below s kc ks Q (T.setTop (mkF m pc Ls (.double v :: S))) := own_st (fun _ kS => Jvm.Free.XS.dstoreN X.here hx rfl hd rfl hl kS) K
theorem pt (X : Stand p l e R s m args below meth c T locs cells slots) (hx : p.tables.exec = Jvm.exec) {k : Nat} {v : UInt64} (l' : Array Slot) (hd : decode c.code pc = .ok (.dstore k, 2)) (hl : storeLocals Ls k (.double v) = some l') (K : OFin p e below s kc ks Q (T.setTop (mkF m (pc + 2) l' S))) : OFin p e below s kc ks Q (T.setTop (mkF m pc Ls (.double v :: S))) := own_st (fun _ kS => Jvm.Free.XS.dstore X.here hx rfl hd rfl hl kS) K
theorem pN (X : Stand p l e R s m args below meth c T locs cells slots) (hx : p.tables.exec = Jvm.exec) {k : Nat} {cst : Int} {x : Int32} (y : Int32) (l' : Array Slot) (hd : decode c.code pc = .ok (.iinc k cst, 3)) (hl : Ls[k]? = some (.val (.int x))) (hy : x + Int32.ofInt cst = y) (hl' : storeLocals Ls k (.int y) = some l') (K : OFin p e below s kc ks Q (T.setTop (mkF m (pc + 3) l' S))) : OFin p e below s kc ks Q (T.setTop (mkF m pc Ls S)) := by subst hy; exact own_st (fun _ kS => XS.iinc X.here hx rfl hd hl hl' kS) K
theorem pfY (X : Stand p l e R s m args below meth c T locs cells slots) (hx : p.tables.exec = Jvm.exec) {cd : ClassFile.Cond} {o : Int} {x : Int32} (pc' : Nat) (hd : decode c.code pc = .ok (.ifCond cd o, 3)) (hc : ifCond.holds cd x = true)  (K : OFin p e below s kc ks Q (T.setTop (mkF m pc' Ls S))) (ho : 0 ≤ (pc : Int) + o := by decide) (hp : ((pc : Int) + o).toNat = pc' := by decide) : OFin p e below s kc ks Q (T.setTop (mkF m pc Ls (.int x :: S))) := own_st (fun _ kS => XS.ifYes (pc0 := pc) (pc' := pc') X.here hx rfl rfl hd rfl hc ho hp kS) K
theorem pfN (X : Stand p l e R s m args below meth c T locs cells slots) (hx : p.tables.exec = Jvm.exec) {cd : ClassFile.Cond} {o : Int} {x : Int32} (hd : decode c.code pc = .ok (.ifCond cd o, 3)) (hc : ifCond.holds cd x = false) (K : OFin p e below s kc ks Q (T.setTop (mkF m (pc + 3) Ls S))) : OFin p e below s kc ks Q (T.setTop (mkF m pc Ls (.int x :: S))) := own_st (fun _ kS => XS.ifNo X.here hx rfl hd rfl hc kS) K
theorem pcY (X : Stand p l e R s m args below meth c T locs cells slots) (hx : p.tables.exec = Jvm.exec) {cd : ClassFile.Cond} {o : Int} {x y : Int32} (pc' : Nat) (hd : decode c.code pc = .ok (.if_icmp cd o, 3)) (hc : if_icmp.holds cd x y = true)  (K : OFin p e below s kc ks Q (T.setTop (mkF m pc' Ls S))) (ho : 0 ≤ (pc : Int) + o := by decide) (hp : ((pc : Int) + o).toNat = pc' := by decide) : OFin p e below s kc ks Q (T.setTop (mkF m pc Ls (.int y :: .int x :: S))) := own_st (fun _ kS => XS.icmpYes (pc0 := pc) (pc' := pc') X.here hx rfl rfl hd rfl hc ho hp kS) K
theorem pcN (X : Stand p l e R s m args below meth c T locs cells slots) (hx : p.tables.exec = Jvm.exec) {cd : ClassFile.Cond} {o : Int} {x y : Int32} (hd : decode c.code pc = .ok (.if_icmp cd o, 3)) (hc : if_icmp.holds cd x y = false) (K : OFin p e below s kc ks Q (T.setTop (mkF m (pc + 3) Ls S))) : OFin p e below s kc ks Q (T.setTop (mkF m pc Ls (.int y :: .int x :: S))) := own_st (fun _ kS => XS.icmpNo X.here hx rfl hd rfl hc kS) K
theorem rI (X : Stand p l e R s m args below meth c T locs cells slots) (hx : p.tables.exec = Jvm.exec) (hZ : Z.Warmed39 s.vm) (eT : T.heap = h) {a : Addr} {N : Nat} {f : Nat → Value}  (F : OArr Z h a .int N f) (i : Nat) (v : Value) {j : Int32} (hv : f i = v) (hd : decode c.code pc = .ok (.iaload, 1)) (K : OFin p e below s kc ks Q (T.setTop (mkF m (pc + 1) Ls (v :: S)))) (h0 : ¬ j < 0 := by decide) (hj : j.toNatClampNeg = i := by decide) (hi : i < N := by decide) : OFin p e below s kc ks Q (T.setTop (mkF m pc Ls (.int j :: .ref a :: S))) := by
  obtain ⟨cl, A, Sz, -, H⟩ := F
  exact own_st (X.iaload hx (j := j) (v := v) (by rw [eT]; exact A.1) (State.isArrayOf_alike hZ.alike A.2.1) A.2.2 (own_inb Sz h0 hj hi) ((own_hv H hj hi).trans (congrArg some hv)) rfl rfl hd) K
theorem rJ (X : Stand p l e R s m args below meth c T locs cells slots) (hx : p.tables.exec = Jvm.exec) (hZ : Z.Warmed39 s.vm) (eT : T.heap = h) {a : Addr} {N : Nat} {f : Nat → Value}  (F : OArr Z h a .long N f) (i : Nat) (v : Value) {j : Int32} (hv : f i = v) (hd : decode c.code pc = .ok (.laload, 1)) (K : OFin p e below s kc ks Q (T.setTop (mkF m (pc + 1) Ls (v :: S)))) (h0 : ¬ j < 0 := by decide) (hj : j.toNatClampNeg = i := by decide) (hi : i < N := by decide) : OFin p e below s kc ks Q (T.setTop (mkF m pc Ls (.int j :: .ref a :: S))) := by
  obtain ⟨cl, A, Sz, -, H⟩ := F
  exact own_st (X.laload hx (j := j) (v := v) (by rw [eT]; exact A.1) (State.isArrayOf_alike hZ.alike A.2.1) A.2.2 (own_inb Sz h0 hj hi) ((own_hv H hj hi).trans (congrArg some hv)) rfl rfl hd) K
theorem rD (X : Stand p l e R s m args below meth c T locs cells slots) (hx : p.tables.exec = Jvm.exec) (hZ : Z.Warmed39 s.vm) (eT : T.heap = h) {a : Addr} {N : Nat} {f : Nat → Value}  (F : OArr Z h a .double N f) (i : Nat) (v : Value) {j : Int32} (hv : f i = v) (hd : decode c.code pc = .ok (.daload, 1)) (K : OFin p e below s kc ks Q (T.setTop (mkF m (pc + 1) Ls (v :: S)))) (h0 : ¬ j < 0 := by decide) (hj : j.toNatClampNeg = i := by decide) (hi : i < N := by decide) : OFin p e below s kc ks Q (T.setTop (mkF m pc Ls (.int j :: .ref a :: S))) := by
  obtain ⟨cl, A, Sz, -, H⟩ := F
  exact own_st (X.daload hx (j := j) (v := v) (by rw [eT]; exact A.1) (State.isArrayOf_alike hZ.alike A.2.1) A.2.2 (own_inb Sz h0 hj hi) ((own_hv H hj hi).trans (congrArg some hv)) rfl rfl hd) K
theorem rZ (X : Stand p l e R s m args below meth c T locs cells slots) (hx : p.tables.exec = Jvm.exec) (hZ : Z.Warmed39 s.vm) (eT : T.heap = h) {a : Addr} {N : Nat} {f : Nat → Value}  (F : OArr Z h a .boolean N f) (i : Nat) (v : Value) {j : Int32} (hv : f i = v) (hd : decode c.code pc = .ok (.baload, 1)) (K : OFin p e below s kc ks Q (T.setTop (mkF m (pc + 1) Ls (v :: S)))) (h0 : ¬ j < 0 := by decide) (hj : j.toNatClampNeg = i := by decide) (hi : i < N := by decide) : OFin p e below s kc ks Q (T.setTop (mkF m pc Ls (.int j :: .ref a :: S))) := by
  obtain ⟨cl, A, Sz, -, H⟩ := F
  exact own_st (X.baloadBooleans hx (j := j) (v := v) (by rw [eT]; exact A.1) (State.isArrayOf_alike hZ.alike A.2.1) A.2.2 (own_inb Sz h0 hj hi) ((own_hv H hj hi).trans (congrArg some hv)) rfl rfl hd) K
theorem wI (X : Stand p l e R s m args below meth c T locs cells slots) (hx : p.tables.exec = Jvm.exec) (hZ : Z.Warmed39 s.vm) (eT : T.heap = h) {a : Addr} {N : Nat}  {g : Nat → Int32} (F : OArr Z h a .int N (fun i => .int (g i))) (i : Nat) {j : Int32} {x : Int32} (hd : decode c.code pc = .ok (.iastore, 1)) (K : ∀ T' h', Stand p l e R s m args below meth c T' (locs ++ [⟨a, j.toNatClampNeg⟩]) cells slots → T'.heap = h' → Wr h h' a i (.int x) → OArr Z h' a .int N (fun i' => .int (if i' = i then x else g i')) → OFin p e below s kc ks Q (T'.setTop (mkF m (pc + 1) Ls S))) (h0 : ¬ j < 0 := by decide) (hj : j.toNatClampNeg = i := by decide) (hi : i < N := by decide) : OFin p e below s kc ks Q (T.setTop (mkF m pc Ls (.int x :: .int j :: .ref a :: S))) := by
  obtain ⟨cl, A, Sz, B, H⟩ := id F
  obtain ⟨T', h', X', e', W, st⟩ := stI X hx hZ eT A (j := j) (own_inb Sz h0 hj hi) (g := mkF m pc Ls (.int x :: .int j :: .ref a :: S)) rfl rfl hd
  have W' := own_wrj W hj
  exact own_st st (K T' h' X' e' W' (F.setI W'))
theorem wJ (X : Stand p l e R s m args below meth c T locs cells slots) (hx : p.tables.exec = Jvm.exec) (hZ : Z.Warmed39 s.vm) (eT : T.heap = h) {a : Addr} {N : Nat}  {g : Nat → Int64} (F : OArr Z h a .long N (fun i => .long (g i))) (i : Nat) {j : Int32} {x : Int64} (hd : decode c.code pc = .ok (.lastore, 1)) (K : ∀ T' h', Stand p l e R s m args below meth c T' (locs ++ [⟨a, j.toNatClampNeg⟩]) cells slots → T'.heap = h' → Wr h h' a i (.long x) → OArr Z h' a .long N (fun i' => .long (if i' = i then x else g i')) → OFin p e below s kc ks Q (T'.setTop (mkF m (pc + 1) Ls S))) (h0 : ¬ j < 0 := by decide) (hj : j.toNatClampNeg = i := by decide) (hi : i < N := by decide) : OFin p e below s kc ks Q (T.setTop (mkF m pc Ls (.long x :: .int j :: .ref a :: S))) := by
  obtain ⟨cl, A, Sz, B, H⟩ := id F
  obtain ⟨T', h', X', e', W, st⟩ := stJ X hx hZ eT A (j := j) (own_inb Sz h0 hj hi) (g := mkF m pc Ls (.long x :: .int j :: .ref a :: S)) rfl rfl hd
  have W' := own_wrj W hj
  exact own_st st (K T' h' X' e' W' (F.setJ W'))
theorem wD (X : Stand p l e R s m args below meth c T locs cells slots) (hx : p.tables.exec = Jvm.exec) (hZ : Z.Warmed39 s.vm) (eT : T.heap = h) {a : Addr} {N : Nat}  {g : Nat → UInt64} (F : OArr Z h a .double N (fun i => .double (g i))) (i : Nat) {j : Int32} {x : UInt64} (hd : decode c.code pc = .ok (.dastore, 1)) (K : ∀ T' h', Stand p l e R s m args below meth c T' (locs ++ [⟨a, j.toNatClampNeg⟩]) cells slots → T'.heap = h' → Wr h h' a i (.double x) → OArr Z h' a .double N (fun i' => .double (if i' = i then x else g i')) → OFin p e below s kc ks Q (T'.setTop (mkF m (pc + 1) Ls S))) (h0 : ¬ j < 0 := by decide) (hj : j.toNatClampNeg = i := by decide) (hi : i < N := by decide) : OFin p e below s kc ks Q (T.setTop (mkF m pc Ls (.double x :: .int j :: .ref a :: S))) := by
  obtain ⟨cl, A, Sz, B, H⟩ := id F
  obtain ⟨T', h', X', e', W, st⟩ := stD X hx hZ eT A (j := j) (own_inb Sz h0 hj hi) (g := mkF m pc Ls (.double x :: .int j :: .ref a :: S)) rfl rfl hd
  have W' := own_wrj W hj
  exact own_st st (K T' h' X' e' W' (F.setD W'))
theorem wZ (X : Stand p l e R s m args below meth c T locs cells slots) (hx : p.tables.exec = Jvm.exec) (hZ : Z.Warmed39 s.vm) (eT : T.heap = h) {a : Addr} {N : Nat}  {g : Nat → Int32} (F : OArr Z h a .boolean N (fun i => .int (g i))) (i : Nat) {j : Int32} {x : Int32} (hn : nar .boolean x = x) (hd : decode c.code pc = .ok (.bastore, 1)) (K : ∀ T' h', Stand p l e R s m args below meth c T' (locs ++ [⟨a, j.toNatClampNeg⟩]) cells slots → T'.heap = h' → Wr h h' a i (.int x) → OArr Z h' a .boolean N (fun i' => .int (if i' = i then x else g i')) → OFin p e below s kc ks Q (T'.setTop (mkF m (pc + 1) Ls S))) (h0 : ¬ j < 0 := by decide) (hj : j.toNatClampNeg = i := by decide) (hi : i < N := by decide) : OFin p e below s kc ks Q (T.setTop (mkF m pc Ls (.int x :: .int j :: .ref a :: S))) := by
  obtain ⟨cl, A, Sz, B, H⟩ := id F
  obtain ⟨T', h', X', e', W, st⟩ := stZ X hx hZ eT A (j := j) (own_inb Sz h0 hj hi) (g := mkF m pc Ls (.int x :: .int j :: .ref a :: S)) rfl rfl hd
  rw [hn] at W
  have W' := own_wrj W hj
  exact own_st st (K T' h' X' e' W' (F.setI W'))
theorem pg1 {P0 : State → Prop} {P1 : State → Prop} {n : Nat} {S' : State → List Value} (H : ∃ (T' : State), P0 T' ∧ P1 T' ∧ ∀ t, Steps p.tables e below (T'.setTop { mkF m pc Ls S with pc := (mkF m pc Ls S).pc + n, stack := S' T' }) t → Steps p.tables e below (T.setTop (mkF m pc Ls S)) t) (K : ∀ (T' : State), P0 T' → P1 T' → OFin p e below s kc ks Q (T'.setTop (mkF m (pc + n) Ls (S' T')))) : OFin p e below s kc ks Q (T.setTop (mkF m pc Ls S)) := by
  obtain ⟨T', q0, q1, st⟩ := H
  exact own_st st (K T' q0 q1)
theorem pg2 {P0 : State → Heap → Prop} {P1 : State → Heap → Prop} {P2 : State → Heap → Prop} {n : Nat} {S' : State → Heap → List Value} (H : ∃ (T' : State) (h' : Heap), P0 T' h' ∧ P1 T' h' ∧ P2 T' h' ∧ ∀ t, Steps p.tables e below (T'.setTop { mkF m pc Ls S with pc := (mkF m pc Ls S).pc + n, stack := S' T' h' }) t → Steps p.tables e below (T.setTop (mkF m pc Ls S)) t) (K : ∀ (T' : State) (h' : Heap), P0 T' h' → P1 T' h' → P2 T' h' → OFin p e below s kc ks Q (T'.setTop (mkF m (pc + n) Ls (S' T' h')))) : OFin p e below s kc ks Q (T.setTop (mkF m pc Ls S)) := by
  obtain ⟨T', h', q0, q1, q2, st⟩ := H
  exact own_st st (K T' h' q0 q1 q2)
theorem pg3 {P0 : Option Value → State → List Loc → Prop} {P1 : Option Value → State → List Loc → Prop} {n : Nat} {S' : Option Value → State → List Loc → List Value} (H : ∃ (v : Option Value) (T' : State) (L : List Loc), P0 v T' L ∧ P1 v T' L ∧ ∀ t, Steps p.tables e below (T'.setTop { mkF m pc Ls S with pc := (mkF m pc Ls S).pc + n, stack := S' v T' L }) t → Steps p.tables e below (T.setTop (mkF m pc Ls S)) t) (K : ∀ (v : Option Value) (T' : State) (L : List Loc), P0 v T' L → P1 v T' L → OFin p e below s kc ks Q (T'.setTop (mkF m (pc + n) Ls (S' v T' L)))) : OFin p e below s kc ks Q (T.setTop (mkF m pc Ls S)) := by
  obtain ⟨v, T', L, q0, q1, st⟩ := H
  exact own_st st (K v T' L q0 q1)
theorem pg4 {P0 : State → Heap → ClassId → Prop} {P1 : State → Heap → ClassId → Prop} {P2 : State → Heap → ClassId → Prop} {P3 : State → Heap → ClassId → Prop} {n : Nat} {S' : State → Heap → ClassId → List Value} (H : ∃ (T' : State) (h' : Heap) (k : ClassId), P0 T' h' k ∧ P1 T' h' k ∧ P2 T' h' k ∧ P3 T' h' k ∧ ∀ t, Steps p.tables e below (T'.setTop { mkF m pc Ls S with pc := (mkF m pc Ls S).pc + n, stack := S' T' h' k }) t → Steps p.tables e below (T.setTop (mkF m pc Ls S)) t) (K : ∀ (T' : State) (h' : Heap) (k : ClassId), P0 T' h' k → P1 T' h' k → P2 T' h' k → P3 T' h' k → OFin p e below s kc ks Q (T'.setTop (mkF m (pc + n) Ls (S' T' h' k)))) : OFin p e below s kc ks Q (T.setTop (mkF m pc Ls S)) := by
  obtain ⟨T', h', k, q0, q1, q2, q3, st⟩ := H
  exact own_st st (K T' h' k q0 q1 q2 q3)
theorem pg5 {P0 : State → Heap → Prop} {P1 : State → Heap → Prop} {P2 : State → Heap → Prop} {P3 : State → Heap → Prop} {P4 : State → Heap → Prop} {P5 : State → Heap → Prop} {n : Nat} {S' : State → Heap → List Value} (H : ∃ (T' : State) (h' : Heap), P0 T' h' ∧ P1 T' h' ∧ P2 T' h' ∧ P3 T' h' ∧ P4 T' h' ∧ P5 T' h' ∧ ∀ t, Steps p.tables e below (T'.setTop { mkF m pc Ls S with pc := (mkF m pc Ls S).pc + n, stack := S' T' h' }) t → Steps p.tables e below (T.setTop (mkF m pc Ls S)) t) (K : ∀ (T' : State) (h' : Heap), P0 T' h' → P1 T' h' → P2 T' h' → P3 T' h' → P4 T' h' → P5 T' h' → OFin p e below s kc ks Q (T'.setTop (mkF m (pc + n) Ls (S' T' h')))) : OFin p e below s kc ks Q (T.setTop (mkF m pc Ls S)) := by
  obtain ⟨T', h', q0, q1, q2, q3, q4, q5, st⟩ := H
  exact own_st st (K T' h' q0 q1 q2 q3 q4 q5)
theorem pg6 {P0 : State → Heap → Prop} {P1 : State → Heap → Prop} {P2 : State → Heap → Prop} {P3 : State → Heap → Prop} {n : Nat} {S' : State → Heap → List Value} (H : ∃ (T' : State) (h' : Heap), P0 T' h' ∧ P1 T' h' ∧ P2 T' h' ∧ P3 T' h' ∧ ∀ t, Steps p.tables e below (T'.setTop { mkF m pc Ls S with pc := (mkF m pc Ls S).pc + n, stack := S' T' h' }) t → Steps p.tables e below (T.setTop (mkF m pc Ls S)) t) (K : ∀ (T' : State) (h' : Heap), P0 T' h' → P1 T' h' → P2 T' h' → P3 T' h' → OFin p e below s kc ks Q (T'.setTop (mkF m (pc + n) Ls (S' T' h')))) : OFin p e below s kc ks Q (T.setTop (mkF m pc Ls S)) := by
  obtain ⟨T', h', q0, q1, q2, q3, st⟩ := H
  exact own_st st (K T' h' q0 q1 q2 q3)
theorem pg7 {P0 : UInt64 → State → Prop} {P1 : UInt64 → State → Prop} {P2 : UInt64 → State → Prop} {n : Nat} {S' : UInt64 → State → List Value} (H : ∃ (w : UInt64) (T' : State), P0 w T' ∧ P1 w T' ∧ P2 w T' ∧ ∀ t, Steps p.tables e below (T'.setTop { mkF m pc Ls S with pc := (mkF m pc Ls S).pc + n, stack := S' w T' }) t → Steps p.tables e below (T.setTop (mkF m pc Ls S)) t) (K : ∀ (w : UInt64) (T' : State), P0 w T' → P1 w T' → P2 w T' → OFin p e below s kc ks Q (T'.setTop (mkF m (pc + n) Ls (S' w T')))) : OFin p e below s kc ks Q (T.setTop (mkF m pc Ls S)) := by
  obtain ⟨w, T', q0, q1, q2, st⟩ := H
  exact own_st st (K w T' q0 q1 q2)
theorem o_iadd (X : Stand p l e R s m args below meth c T locs cells slots) (hx : p.tables.exec = Jvm.exec) {x y : Int32} (hd : decode c.code pc = .ok (.iadd, 1)) (K : OFin p e below s kc ks Q (T.setTop (mkF m (pc + 1) Ls (.int (x + y) :: S)))) : OFin p e below s kc ks Q (T.setTop (mkF m pc Ls (.int y :: .int x :: S))) := own_st (fun _ kS => XS.iadd X.here hx rfl hd rfl kS) K
theorem o_isub (X : Stand p l e R s m args below meth c T locs cells slots) (hx : p.tables.exec = Jvm.exec) {x y : Int32} (hd : decode c.code pc = .ok (.isub, 1)) (K : OFin p e below s kc ks Q (T.setTop (mkF m (pc + 1) Ls (.int (x - y) :: S)))) : OFin p e below s kc ks Q (T.setTop (mkF m pc Ls (.int y :: .int x :: S))) := own_st (fun _ kS => XS.isub X.here hx rfl hd rfl kS) K
theorem o_imul (X : Stand p l e R s m args below meth c T locs cells slots) (hx : p.tables.exec = Jvm.exec) {x y : Int32} (hd : decode c.code pc = .ok (.imul, 1)) (K : OFin p e below s kc ks Q (T.setTop (mkF m (pc + 1) Ls (.int (x * y) :: S)))) : OFin p e below s kc ks Q (T.setTop (mkF m pc Ls (.int y :: .int x :: S))) := own_st (fun _ kS => XS.imul X.here hx rfl hd rfl kS) K
theorem o_iand (X : Stand p l e R s m args below meth c T locs cells slots) (hx : p.tables.exec = Jvm.exec) {x y : Int32} (hd : decode c.code pc = .ok (.iand, 1)) (K : OFin p e below s kc ks Q (T.setTop (mkF m (pc + 1) Ls (.int (x &&& y) :: S)))) : OFin p e below s kc ks Q (T.setTop (mkF m pc Ls (.int y :: .int x :: S))) := own_st (fun _ kS => XS.iand X.here hx rfl hd rfl kS) K
theorem o_iushr (X : Stand p l e R s m args below meth c T locs cells slots) (hx : p.tables.exec = Jvm.exec) {x y : Int32} (hd : decode c.code pc = .ok (.iushr, 1)) (K : OFin p e below s kc ks Q (T.setTop (mkF m (pc + 1) Ls (.int ((x.toUInt32 >>> (y &&& 31).toUInt32).toInt32) :: S)))) : OFin p e below s kc ks Q (T.setTop (mkF m pc Ls (.int y :: .int x :: S))) := own_st (fun _ kS => XS.iushr X.here hx rfl hd rfl kS) K
theorem o_idiv (X : Stand p l e R s m args below meth c T locs cells slots) (hx : p.tables.exec = Jvm.exec) {x y : Int32} (hd : decode c.code pc = .ok (.idiv, 1)) (hy : y ≠ 0) (K : OFin p e below s kc ks Q (T.setTop (mkF m (pc + 1) Ls (.int (x / y) :: S)))) : OFin p e below s kc ks Q (T.setTop (mkF m pc Ls (.int y :: .int x :: S))) := own_st (fun _ kS => XS.idiv X.here hx rfl hd rfl hy kS) K
theorem o_ladd (X : Stand p l e R s m args below meth c T locs cells slots) (hx : p.tables.exec = Jvm.exec) {x y : Int64} (hd : decode c.code pc = .ok (.ladd, 1)) (K : OFin p e below s kc ks Q (T.setTop (mkF m (pc + 1) Ls (.long (x + y) :: S)))) : OFin p e below s kc ks Q (T.setTop (mkF m pc Ls (.long y :: .long x :: S))) := own_st (fun _ kS => XS.ladd X.here hx rfl hd rfl kS) K
theorem o_i2l (X : Stand p l e R s m args below meth c T locs cells slots) (hx : p.tables.exec = Jvm.exec) {x : Int32} (hd : decode c.code pc = .ok (.i2l, 1)) (K : OFin p e below s kc ks Q (T.setTop (mkF m (pc + 1) Ls (.long (x.toInt64) :: S)))) : OFin p e below s kc ks Q (T.setTop (mkF m pc Ls (.int x :: S))) := own_st (fun _ kS => XS.i2l X.here hx rfl hd rfl kS) K
theorem o_i2d (X : Stand p l e R s m args below meth c T locs cells slots) (hx : p.tables.exec = Jvm.exec) {x : Int32} (hd : decode c.code pc = .ok (.i2d, 1)) (K : OFin p e below s kc ks Q (T.setTop (mkF m (pc + 1) Ls (.double (FP.i2d x) :: S)))) : OFin p e below s kc ks Q (T.setTop (mkF m pc Ls (.int x :: S))) := own_st (fun _ kS => Jvm.Free.XS.i2dS X.here hx rfl hd rfl rfl kS) K
theorem o_dup (X : Stand p l e R s m args below meth c T locs cells slots) (hx : p.tables.exec = Jvm.exec) {v : Value} (hd : decode c.code pc = .ok (.dup, 1)) (hc : v.category = 1) (K : OFin p e below s kc ks Q (T.setTop (mkF m (pc + 1) Ls (v :: v :: S)))) : OFin p e below s kc ks Q (T.setTop (mkF m pc Ls (v :: S))) := own_st (fun _ kS => XS.dup X.here hx rfl hd rfl hc kS) K
theorem pw (X : Stand p l e R s m args below meth c T locs cells slots) (hx : p.tables.exec = Jvm.exec) {k : Nat} {v : Value} (l' : Array Slot) (hd : decode c.code pc = .ok (.astore k, 2)) (hv : v.isRef = true) (hl : storeLocals Ls k v = some l') (K : OFin p e below s kc ks Q (T.setTop (mkF m (pc + 2) l' S))) : OFin p e below s kc ks Q (T.setTop (mkF m pc Ls (v :: S))) := own_st (fun _ kS => XS.astore X.here hx rfl hd rfl hv hl kS) K
theorem o_dcmpl (X : Stand p l e R s m args below meth c T locs cells slots) (hx : p.tables.exec = Jvm.exec) {x y : UInt64} (hd : decode c.code pc = .ok (.dcmp .l, 1)) (K : OFin p e below s kc ks Q (T.setTop (mkF m (pc + 1) Ls (.int (cmpValue (FP.dcmp x y) .l) :: S)))) : OFin p e below s kc ks Q (T.setTop (mkF m pc Ls (.double y :: .double x :: S))) := own_st (own_dcmpl X hx (g := mkF m pc Ls (.double y :: .double x :: S)) rfl hd rfl) K
theorem pn (X : Stand p l e R s m args below meth c T locs cells slots) (hx : p.tables.exec = Jvm.exec) {o : Int} (pc' : Nat) (hd : decode c.code pc = .ok (.ifnull o, 3))  (K : OFin p e below s kc ks Q (T.setTop (mkF m pc' Ls S))) (ho : 0 ≤ (pc : Int) + o := by decide) (hp : ((pc : Int) + o).toNat = pc' := by decide) : OFin p e below s kc ks Q (T.setTop (mkF m pc Ls (.null :: S))) := own_st (fun _ kS => XS.ifnullYes (pc0 := pc) (pc' := pc') X.here hx rfl rfl hd rfl ho hp kS) K
theorem pL {v : Value} (H : ∀ t, Steps p.tables e below (T.setTop { mkF m pc Ls S with pc := (mkF m pc Ls S).pc + n, stack := v :: (mkF m pc Ls S).stack }) t → Steps p.tables e below (T.setTop (mkF m pc Ls S)) t) (K : OFin p e below s kc ks Q (T.setTop (mkF m (pc + n) Ls (v :: S)))) : OFin p e below s kc ks Q (T.setTop (mkF m pc Ls S)) := own_st H K
theorem pR (H : ∀ t, Steps p.tables e below (T.setTop { mkF m pc Ls S with pc := (mkF m pc Ls S).pc + n, stack := S' }) t → Steps p.tables e below (T.setTop (mkF m pc Ls S)) t) (K : OFin p e below s kc ks Q (T.setTop (mkF m (pc + n) Ls S'))) : OFin p e below s kc ks Q (T.setTop (mkF m pc Ls S)) := own_st H K
theorem sl {C O O' f f' d d' : String} (L : Laid Z a0 C O f d) (L' : Laid Z a0 C O' f' d') (hne : f ≠ f' := by decide) (h1 : (parseFieldDescriptor d).isSome = true := by decide) (h2 : (parseFieldDescriptor d').isSome = true := by decide) : Jvm.RoadKit.slotOf Z O f d ≠ Jvm.RoadKit.slotOf Z O' f' d' := by
  obtain ⟨t, ht⟩ := Option.isSome_iff_exists.mp h1
  obtain ⟨t', ht'⟩ := Option.isSome_iff_exists.mp h2
  exact Jvm.RoadKit.slot_ne L L' hne ht ht'
theorem pF (X : Stand p l e R s m args below meth c T locs cells slots) (hx : p.tables.exec = Jvm.exec) (hZ : Z.Warmed39 s.vm) {own O n d : String} {index : Nat} (hown : s.vm.findClass own = some m.cls) (w : (Jvm.Cond.fieldLink own index O n d).before a0 Z = true) (eT : T.heap = h) {a : Addr} {v : Value} (F : Fld Z h a O n d v) (hd : decode c.code pc = .ok (.getfield index, 3)) (K : ∀ T', Stand p l e R s m args below meth c T' locs cells slots → T'.heap = h → OFin p e below s kc ks Q (T'.setTop (mkF m (pc + 3) Ls (v :: S)))) : OFin p e below s kc ks Q (T.setTop (mkF m pc Ls (.ref a :: S))) := by
  obtain ⟨T', X', e', st⟩ := getF X hx hZ hown (host := "") (Or.inl w) Via.refl eT F (g := mkF m pc Ls (.ref a :: S)) rfl rfl hd
  exact own_st st (K T' X' e')
theorem pgP {n : Nat} {S' : List Value} {x : Value} (H : ∃ (v : Option Value) (T' : State) (L : List Loc), Stand p l e R s m args below meth c T' (locs ++ L) cells slots ∧ (v = some x ∧ T'.heap = h ∧ L = []) ∧ ∀ t, Steps p.tables e below (T'.setTop { mkF m pc Ls S with pc := (mkF m pc Ls S).pc + n, stack := v.toList ++ S' }) t → Steps p.tables e below (T.setTop (mkF m pc Ls S)) t) (K : ∀ T', Stand p l e R s m args below meth c T' locs cells slots → T'.heap = h → OFin p e below s kc ks Q (T'.setTop (mkF m (pc + n) Ls (x :: S')))) : OFin p e below s kc ks Q (T.setTop (mkF m pc Ls S)) := by
  obtain ⟨v, T', L, X, q, st⟩ := H
  obtain ⟨rfl, e0, rfl⟩ := q
  rw [List.append_nil] at X
  exact own_st st (K T' X e0)
theorem pgN {n : Nat} {S' : List Value}  (H : ∃ (v : Option Value) (T' : State) (L : List Loc), Stand p l e R s m args below meth c T' (locs ++ L) cells slots ∧ (v = none ∧ T'.heap = h ∧ L = []) ∧ ∀ t, Steps p.tables e below (T'.setTop { mkF m pc Ls S with pc := (mkF m pc Ls S).pc + n, stack := v.toList ++ S' }) t → Steps p.tables e below (T.setTop (mkF m pc Ls S)) t) (K : ∀ T', Stand p l e R s m args below meth c T' locs cells slots → T'.heap = h → OFin p e below s kc ks Q (T'.setTop (mkF m (pc + n) Ls S'))) : OFin p e below s kc ks Q (T.setTop (mkF m pc Ls S)) := by
  obtain ⟨v, T', L, X, q, st⟩ := H
  obtain ⟨rfl, e0, rfl⟩ := q
  rw [List.append_nil] at X
  exact own_st st (K T' X e0)
theorem pgE {n : Nat} {S' : List Value} {α : Type} {f : α → Value} {P : α → Prop} (H : ∃ (v : Option Value) (T' : State) (L : List Loc), Stand p l e R s m args below meth c T' (locs ++ L) cells slots ∧ ((∃ r, v = some (f r) ∧ P r) ∧ T'.heap = h ∧ L = []) ∧ ∀ t, Steps p.tables e below (T'.setTop { mkF m pc Ls S with pc := (mkF m pc Ls S).pc + n, stack := v.toList ++ S' }) t → Steps p.tables e below (T.setTop (mkF m pc Ls S)) t) (K : ∀ r T', P r → Stand p l e R s m args below meth c T' locs cells slots → T'.heap = h → OFin p e below s kc ks Q (T'.setTop (mkF m (pc + n) Ls (f r :: S')))) : OFin p e below s kc ks Q (T.setTop (mkF m pc Ls S)) := by
  obtain ⟨v, T', L, X, q, st⟩ := H
  obtain ⟨⟨r, rfl, hr⟩, e0, rfl⟩ := q
  rw [List.append_nil] at X
  exact own_st st (K r T' hr X e0)
theorem pgF {n : Nat} {S' : List Value} {α : Type} {f : α → Value} (H : ∃ (v : Option Value) (T' : State) (L : List Loc), Stand p l e R s m args below meth c T' (locs ++ L) cells slots ∧ ((∃ r, v = some (f r)) ∧ T'.heap = h ∧ L = []) ∧ ∀ t, Steps p.tables e below (T'.setTop { mkF m pc Ls S with pc := (mkF m pc Ls S).pc + n, stack := v.toList ++ S' }) t → Steps p.tables e below (T.setTop (mkF m pc Ls S)) t) (K : ∀ r T', Stand p l e R s m args below meth c T' locs cells slots → T'.heap = h → OFin p e below s kc ks Q (T'.setTop (mkF m (pc + n) Ls (f r :: S')))) : OFin p e below s kc ks Q (T.setTop (mkF m pc Ls S)) := by
  obtain ⟨v, T', L, X, q, st⟩ := H
  obtain ⟨⟨r, rfl⟩, e0, rfl⟩ := q
  rw [List.append_nil] at X
  exact own_st st (K r T' X e0)
theorem pgV {n : Nat} {S' : List Value} {P : State → List Loc → Prop} (H : ∃ (v : Option Value) (T' : State) (L : List Loc), Stand p l e R s m args below meth c T' (locs ++ L) cells slots ∧ (v = none ∧ P T' L) ∧ ∀ t, Steps p.tables e below (T'.setTop { mkF m pc Ls S with pc := (mkF m pc Ls S).pc + n, stack := v.toList ++ S' }) t → Steps p.tables e below (T.setTop (mkF m pc Ls S)) t) (K : ∀ T' L, Stand p l e R s m args below meth c T' (locs ++ L) cells slots → P T' L → OFin p e below s kc ks Q (T'.setTop (mkF m (pc + n) Ls S'))) : OFin p e below s kc ks Q (T.setTop (mkF m pc Ls S)) := by
  obtain ⟨v, T', L, X, q, st⟩ := H
  obtain ⟨rfl, hP⟩ := q
  exact own_st st (K T' L X hP)
end OwnP

def ODec (b : ByteArray) (L : List (Nat × Instr × Nat)) : Prop := ∀ x ∈ L, decode b x.1 = .ok x.2
theorem ODec.to {c : Code} {b : ByteArray} {L : List (Nat × Instr × Nat)} (H : ODec b L) (h : c.code = b) : ODec c.code L := h ▸ H
theorem ODec.at {b : ByteArray} {L : List (Nat × Instr × Nat)} (H : ODec b L) (i : Nat) {pc n : Nat} {ins : Instr} (q : L[i]? = some (pc, ins, n)) : decode b pc = .ok (ins, n) := H (pc, ins, n) (List.mem_of_getElem? q)
abbrev yN1 : MethodName := (⟨"com/example/rankfold/rankfold/summaries/BucketEditor", "<init>", "([D[D[ZIIJDD)V"⟩ : MethodName)
abbrev yN2 : MethodName := (⟨"java/lang/Object", "<init>", "()V"⟩ : MethodName)
abbrev yN3 : MethodName := (⟨"com/example/rankfold/rankfold/summaries/Tournament", "<init>", "(ZILjava/util/function/IntToDoubleFunction;Ljava/util/function/IntToDoubleFunction;)V"⟩ : MethodName)
abbrev yN4 : MethodName := (⟨"com/example/rankfold/rankfold/summaries/BucketEditor", "offerPair", "(ILcom/example/rankfold/rankfold/summaries/Tournament;Z)V"⟩ : MethodName)
abbrev yN5 : MethodName := (⟨"com/example/rankfold/rankfold/summaries/Tournament", "remove", "(I)V"⟩ : MethodName)
abbrev yN6 : MethodName := (⟨"com/example/rankfold/rankfold/summaries/Tournament", "contains", "(I)Z"⟩ : MethodName)
abbrev yN7 : MethodName := (⟨"com/example/rankfold/rankfold/summaries/Tournament", "plant", "()V"⟩ : MethodName)
abbrev yN8 : MethodName := (⟨"java/lang/Math", "max", "(II)I"⟩ : MethodName)
abbrev yN9 : MethodName := (⟨"com/example/rankfold/rankfold/summaries/Tournament", "scan", "(I)V"⟩ : MethodName)
abbrev yN10 : MethodName := (⟨"java/lang/Math", "min", "(JJ)J"⟩ : MethodName)
abbrev yN11 : MethodName := (⟨"com/example/rankfold/rankfold/summaries/BucketEditor", "write", "([D[D[Z)I"⟩ : MethodName)
abbrev yN12 : MethodName := (⟨"com/example/rankfold/rankfold/summaries/BucketEditorWritePinLaw", "slot", "([D[D[ZIIDIZ)Z"⟩ : MethodName)
abbrev yN13 : MethodName := (⟨"com/example/rankfold/rankfold/summaries/BucketEditor", "isJoinable", "(I)Z"⟩ : MethodName)
abbrev yN14 : MethodName := (⟨"com/example/rankfold/rankfold/summaries/BucketEditor", "splitBound", "()D"⟩ : MethodName)
abbrev yN15 : MethodName := (⟨"com/example/rankfold/rankfold/summaries/Tournament", "put", "(I)V"⟩ : MethodName)
abbrev yN16 : MethodName := (⟨"com/example/rankfold/rankfold/summaries/BucketEditor", "joinedError", "(I)D"⟩ : MethodName)
abbrev yN17 : MethodName := (⟨"com/example/rankfold/rankfold/summaries/BucketEditor", "errorOf", "(DDDII)D"⟩ : MethodName)
abbrev yN18 : MethodName := (⟨"com/example/rankfold/rankfold/summaries/SplineCurve", "span", "(DD)D"⟩ : MethodName)
abbrev yN19 : MethodName := (⟨"java/lang/Math", "min", "(DD)D"⟩ : MethodName)
abbrev yN20 : MethodName := (⟨"com/example/rankfold/rankfold/summaries/BucketEditor", "sideError", "(DDI)D"⟩ : MethodName)
abbrev yN21 : MethodName := (⟨"com/example/rankfold/rankfold/summaries/BucketEditor", "isPoint", "(I)Z"⟩ : MethodName)
abbrev yN22 : MethodName := (⟨"java/lang/Math", "abs", "(D)D"⟩ : MethodName)
abbrev yN23 : MethodName := (⟨"com/example/rankfold/rankfold/summaries/SplineCurve", "isPoint", "(DDD)Z"⟩ : MethodName)
abbrev yN24 : MethodName := (⟨"java/lang/Math", "max", "(DD)D"⟩ : MethodName)
abbrev yN25 : MethodName := (⟨"com/example/rankfold/rankfold/summaries/Tournament", "isBefore", "(IDID)Z"⟩ : MethodName)
abbrev yN26 : MethodName := (⟨"com/example/rankfold/rankfold/summaries/BucketEditor", "joinDownTo", "(I)V"⟩ : MethodName)
abbrev yN27 : MethodName := (⟨"com/example/rankfold/rankfold/summaries/Tournament", "first", "()I"⟩ : MethodName)
abbrev yN28 : MethodName := (⟨"com/example/rankfold/rankfold/summaries/BucketEditor", "join", "(I)V"⟩ : MethodName)
abbrev yN29 : MethodName := (⟨"com/example/rankfold/rankfold/summaries/Tournament", "update", "(I)V"⟩ : MethodName)
abbrev yN30 : MethodName := (⟨"com/example/rankfold/rankfold/summaries/BucketEditor", "refreshAround", "(I)V"⟩ : MethodName)
abbrev yN31 : MethodName := (⟨"com/example/rankfold/rankfold/summaries/BucketEditor", "offer", "(I)V"⟩ : MethodName)
abbrev yN32 : MethodName := (⟨"java/lang/Double", "isNaN", "(D)Z"⟩ : MethodName)
abbrev yN33 : MethodName := (⟨"com/example/rankfold/rankfold/summaries/BucketEditor", "threshold", "(I)D"⟩ : MethodName)
theorem D0 : ODec code [(172, .iconst 4, 1), (173, .newarray .double, 2), (175, .dup, 1), (176, .iconst 0, 1), (177, .dload 7, 2), (179, .dastore, 1), (180, .dup, 1), (181, .iconst 1, 1), (182, .dload 9, 2), (184, .dastore, 1), (185, .dup, 1), (186, .iconst 2, 1), (187, .dload 11, 2), (189, .dastore, 1), (190, .dup, 1), (191, .iconst 3, 1), (192, .dload 13, 2), (194, .dastore, 1), (195, .astore 23, 2), (197, .iconst 4, 1), (198, .newarray .double, 2), (200, .dup, 1), (201, .iconst 0, 1), (202, .iload 15, 2), (204, .i2d, 1), (205, .dastore, 1), (206, .dup, 1), (207, .iconst 1, 1), (208, .iload 16, 2), (210, .i2d, 1), (211, .dastore, 1), (212, .dup, 1), (213, .iconst 2, 1), (214, .iload 17, 2), (216, .i2d, 1), (217, .dastore, 1), (218, .dup, 1), (219, .iconst 3, 1), (220, .iload 18, 2), (222, .i2d, 1), (223, .dastore, 1), (224, .astore 24, 2), (226, .iconst 4, 1), (227, .newarray .boolean, 2), (229, .dup, 1), (230, .iconst 0, 1), (231, .iload 19, 2), (233, .bastore, 1), (234, .dup, 1), (235, .iconst 1, 1), (236, .iload 20, 2), (238, .bastore, 1), (239, .dup, 1), (240, .iconst 2, 1), (241, .iload 21, 2), (243, .bastore, 1), (244, .dup, 1), (245, .iconst 3, 1), (246, .iload 22, 2), (248, .bastore, 1), (249, .astore 25, 2), (251, .iload 15, 2), (253, .i2l, 1), (254, .iload 16, 2), (256, .i2l, 1), (257, .ladd, 1), (258, .iload 17, 2), (260, .i2l, 1), (261, .ladd, 1), (262, .iload 18, 2), (264, .i2l, 1), (265, .ladd, 1), (266, .lstore 26, 2), (268, .iconst 4, 1), (269, .newarray .double, 2), (271, .dup, 1), (272, .iconst 0, 1), (273, .ldc2_w 8, 3), (276, .dastore, 1), (277, .dup, 1), (278, .iconst 1, 1), (279, .ldc2_w 8, 3), (282, .dastore, 1), (283, .dup, 1), (284, .iconst 2, 1), (285, .ldc2_w 8, 3), (288, .dastore, 1), (289, .dup, 1), (290, .iconst 3, 1), (291, .ldc2_w 8, 3), (294, .dastore, 1), (295, .astore 28, 2), (297, .iconst 4, 1), (298, .newarray .double, 2), (300, .dup, 1), (301, .iconst 0, 1), (302, .ldc2_w 10, 3), (305, .dastore, 1), (306, .dup, 1), (307, .iconst 1, 1), (308, .ldc2_w 10, 3), (311, .dastore, 1), (312, .dup, 1), (313, .iconst 2, 1), (314, .ldc2_w 10, 3), (317, .dastore, 1), (318, .dup, 1), (319, .iconst 3, 1), (320, .ldc2_w 10, 3), (323, .dastore, 1), (324, .astore 29, 2), (326, .iconst 4, 1), (327, .newarray .boolean, 2), (329, .astore 30, 2), (331, .new 12, 3), (334, .dup, 1), (335, .aload 23, 2), (337, .aload 24, 2), (339, .aload 25, 2), (341, .iload 5, 2), (343, .iconst 4, 1), (344, .lload 26, 2), (346, .ldc2_w 14, 3), (349, .dconst 1, 1), (350, .invokespecial 16, 3), (353, .astore 31, 2), (355, .iload 6, 2), (357, .ifCond .eq 9, 3), (366, .aload 31, 2), (368, .aload 28, 2), (370, .aload 29, 2), (372, .aload 30, 2), (374, .invokevirtual 23, 3), (377, .istore 32, 2), (379, .iload 6, 2), (381, .ifCond .eq 122, 3), (503, .iload 32, 2), (505, .iload 5, 2), (507, .if_icmp .ne 91, 3), (510, .aload 28, 2), (512, .aload 29, 2), (514, .aload 30, 2), (516, .iconst 0, 1), (517, .iload 5, 2), (519, .dload 7, 2), (521, .iload 15, 2), (523, .iload 19, 2), (525, .invokestatic 27, 3), (528, .ifCond .eq 70, 3), (531, .aload 28, 2), (533, .aload 29, 2), (535, .aload 30, 2), (537, .iconst 1, 1), (538, .iload 5, 2), (540, .dload 9, 2), (542, .iload 16, 2), (544, .iload 20, 2), (546, .invokestatic 27, 3), (549, .ifCond .eq 49, 3), (552, .aload 28, 2), (554, .aload 29, 2), (556, .aload 30, 2), (558, .iconst 2, 1), (559, .iload 5, 2), (561, .dload 11, 2), (563, .iload 17, 2), (565, .iload 21, 2), (567, .invokestatic 27, 3), (570, .ifCond .eq 28, 3), (573, .aload 28, 2), (575, .aload 29, 2), (577, .aload 30, 2), (579, .iconst 3, 1), (580, .iload 5, 2), (582, .dload 13, 2), (584, .iload 18, 2), (586, .iload 22, 2), (588, .invokestatic 27, 3), (591, .ifCond .eq 7, 3), (594, .iconst 1, 1), (595, .goto 4, 3), (599, .ireturn, 1), (360, .aload 31, 2), (362, .iconst 2, 1), (363, .invokevirtual 19, 3), (384, .iload 32, 2), (386, .iconst 2, 1), (387, .if_icmp .ne 114, 3), (390, .aload 28, 2), (392, .iconst 0, 1), (393, .daload, 1), (394, .dload 7, 2), (396, .dcmp .l, 1), (397, .ifCond .ne 104, 3), (400, .aload 29, 2), (402, .iconst 0, 1), (403, .daload, 1), (404, .iload 15, 2), (406, .i2d, 1), (407, .dcmp .l, 1), (408, .ifCond .ne 93, 3), (411, .aload 30, 2), (413, .iconst 0, 1), (414, .baload, 1), (415, .iload 19, 2), (417, .if_icmp .ne 84, 3), (420, .aload 28, 2), (422, .iconst 1, 1), (423, .daload, 1), (424, .dload 11, 2), (426, .dcmp .l, 1), (427, .ifCond .ne 74, 3), (430, .aload 29, 2), (432, .iconst 1, 1), (433, .daload, 1), (434, .iload 16, 2), (436, .iload 17, 2), (438, .iadd, 1), (439, .i2d, 1), (440, .dcmp .l, 1), (441, .ifCond .ne 60, 3), (444, .aload 30, 2), (446, .iconst 1, 1), (447, .baload, 1), (448, .iload 21, 2), (450, .if_icmp .ne 51, 3), (453, .aload 28, 2), (455, .iconst 2, 1), (456, .daload, 1), (457, .ldc2_w 8, 3), (460, .dcmp .l, 1), (461, .ifCond .ne 40, 3), (464, .aload 29, 2), (466, .iconst 2, 1), (467, .daload, 1), (468, .ldc2_w 10, 3), (471, .dcmp .l, 1), (472, .ifCond .ne 29, 3), (475, .aload 28, 2), (477, .iconst 3, 1), (478, .daload, 1), (479, .ldc2_w 8, 3), (482, .dcmp .l, 1), (483, .ifCond .ne 18, 3), (486, .aload 29, 2), (488, .iconst 3, 1), (489, .daload, 1), (490, .ldc2_w 10, 3), (493, .dcmp .l, 1), (494, .ifCond .ne 7, 3), (497, .iconst 1, 1), (498, .goto 4, 3), (502, .ireturn, 1), (157, .iload 4, 2), (159, .bipush 8, 2), (161, .iand, 1), (162, .ifCond .eq 7, 3), (169, .iconst 0, 1), (170, .istore 22, 2), (165, .iconst 1, 1), (166, .goto 4, 3), (143, .iload 4, 2), (145, .iconst 4, 1), (146, .iand, 1), (147, .ifCond .eq 7, 3), (154, .iconst 0, 1), (155, .istore 21, 2), (150, .iconst 1, 1), (151, .goto 4, 3), (129, .iload 4, 2), (131, .iconst 2, 1), (132, .iand, 1), (133, .ifCond .eq 7, 3), (140, .iconst 0, 1), (141, .istore 20, 2), (136, .iconst 1, 1), (137, .goto 4, 3), (26, .iload_n 1, 1), (27, .ldc 7, 2), (29, .irem, 1), (30, .i2d, 1), (31, .dstore 7, 2), (33, .dload 7, 2), (35, .iconst 1, 1), (36, .iload_n 2, 1), (37, .sipush 255, 3), (40, .iand, 1), (41, .iadd, 1), (42, .i2d, 1), (43, .dadd, 1), (44, .dstore 9, 2), (46, .dload 9, 2), (48, .iconst 1, 1), (49, .iload_n 2, 1), (50, .bipush 8, 2), (52, .iushr, 1), (53, .sipush 255, 3), (56, .iand, 1), (57, .iadd, 1), (58, .i2d, 1), (59, .dadd, 1), (60, .dstore 11, 2), (62, .dload 11, 2), (64, .iconst 1, 1), (65, .iload_n 2, 1), (66, .bipush 16, 2), (68, .iushr, 1), (69, .sipush 255, 3), (72, .iand, 1), (73, .iadd, 1), (74, .i2d, 1), (75, .dadd, 1), (76, .dstore 13, 2), (78, .iload_n 3, 1), (79, .sipush 255, 3), (82, .iand, 1), (83, .istore 15, 2), (85, .iload_n 3, 1), (86, .bipush 8, 2), (88, .iushr, 1), (89, .sipush 255, 3), (92, .iand, 1), (93, .istore 16, 2), (95, .iload_n 3, 1), (96, .bipush 16, 2), (98, .iushr, 1), (99, .sipush 255, 3), (102, .iand, 1), (103, .istore 17, 2), (105, .iload_n 3, 1), (106, .bipush 24, 2), (108, .iushr, 1), (109, .sipush 255, 3), (112, .iand, 1), (113, .istore 18, 2), (115, .iload 4, 2), (117, .iconst 1, 1), (118, .iand, 1), (119, .ifCond .eq 7, 3), (126, .iconst 0, 1), (127, .istore 19, 2), (122, .iconst 1, 1), (123, .goto 4, 3), (0, .iconst 1, 1), (1, .iload_n 0, 1), (2, .iconst 3, 1), (3, .iand, 1), (4, .iadd, 1), (5, .istore 5, 2), (7, .iload 5, 2), (9, .iconst 3, 1), (10, .if_icmp .ne 13, 3), (23, .iconst 0, 1), (24, .istore 6, 2), (13, .iload_n 0, 1), (14, .iconst 4, 1), (15, .iand, 1), (16, .ifCond .eq 7, 3), (19, .iconst 1, 1), (20, .goto 4, 3)] := by unfold ODec; decide +kernel
theorem D1 : ODec prog_72_method_1_code [(0, .aload_n 0, 1), (1, .invokespecial 1, 3), (4, .aload_n 0, 1), (5, .iconst (-1), 1), (6, .putfield 9, 3), (9, .aload_n 0, 1), (10, .iload 5, 2), (12, .putfield 13, 3), (15, .aload_n 0, 1), (16, .lload 6, 2), (18, .l2d, 1), (19, .putfield 16, 3), (22, .aload_n 0, 1), (23, .dload 10, 2), (25, .putfield 20, 3), (28, .aload_n 0, 1), (29, .dload 8, 2), (31, .putfield 23, 3), (34, .aload_n 0, 1), (35, .iload 4, 2), (37, .putfield 26, 3), (40, .aload_n 0, 1), (41, .iload 4, 2), (43, .putfield 29, 3), (46, .aload_n 1, 1), (47, .arraylength, 1), (48, .istore 12, 2), (50, .aload_n 0, 1), (51, .aload_n 1, 1), (52, .putfield 32, 3), (55, .aload_n 0, 1), (56, .aload_n 2, 1), (57, .putfield 36, 3), (60, .aload_n 0, 1), (61, .aload_n 3, 1), (62, .putfield 39, 3), (65, .aload_n 0, 1), (66, .iload 12, 2), (68, .newarray .int, 2), (70, .putfield 43, 3), (73, .aload_n 0, 1), (74, .iload 12, 2), (76, .newarray .int, 2), (78, .putfield 47, 3), (81, .iconst 0, 1), (82, .istore 13, 2), (84, .iload 13, 2), (86, .iload 4, 2), (88, .if_icmp .ge 44, 3), (91, .aload_n 0, 1), (92, .getfield 43, 3), (95, .iload 13, 2), (97, .iload 13, 2), (99, .iconst 1, 1), (100, .isub, 1), (101, .iastore, 1), (102, .aload_n 0, 1), (103, .getfield 47, 3), (106, .iload 13, 2), (108, .iload 13, 2), (110, .iconst 1, 1), (111, .iadd, 1), (112, .iload 4, 2), (114, .if_icmp .ge 10, 3), (124, .iconst (-1), 1), (125, .iastore, 1), (126, .iinc 13 1, 3), (129, .goto (-45), 3), (132, .aload_n 0, 1), (133, .new 50, 3), (136, .dup, 1), (137, .iconst 0, 1), (138, .iload 12, 2), (140, .aload_n 0, 1), (141, .invokedynamic 52, 5), (146, .aload_n 0, 1), (147, .invokedynamic 56, 5), (152, .invokespecial 57, 3), (155, .putfield 60, 3), (158, .iconst 0, 1), (159, .istore 13, 2), (161, .iload 13, 2), (163, .iconst (-1), 1), (164, .if_icmp .eq 26, 3), (167, .aload_n 0, 1), (168, .iload 13, 2), (170, .aload_n 0, 1), (171, .getfield 60, 3), (174, .iconst 1, 1), (175, .invokevirtual 64, 3), (178, .aload_n 0, 1), (179, .getfield 47, 3), (182, .iload 13, 2), (184, .iaload, 1), (185, .istore 13, 2), (187, .goto (-26), 3), (190, .aload_n 0, 1), (191, .getfield 60, 3), (194, .invokevirtual 68, 3), (197, .return_, 1), (117, .iload 13, 2), (119, .iconst 1, 1), (120, .iadd, 1), (121, .goto 4, 3)] := by unfold ODec; decide +kernel
theorem D3 : ODec prog_86_method_1_code [(0, .aload_n 0, 1), (1, .invokespecial 1, 3), (4, .aload_n 0, 1), (5, .iload_n 1, 1), (6, .putfield 7, 3), (9, .aload_n 0, 1), (10, .aload_n 3, 1), (11, .putfield 13, 3), (14, .aload_n 0, 1), (15, .aload 4, 2), (17, .putfield 17, 3), (20, .aload_n 0, 1), (21, .iload_n 2, 1), (22, .putfield 20, 3), (25, .aload_n 0, 1), (26, .iload_n 2, 1), (27, .bipush 64, 2), (29, .iadd, 1), (30, .iconst 1, 1), (31, .isub, 1), (32, .bipush 64, 2), (34, .idiv, 1), (35, .newarray .long, 2), (37, .putfield 26, 3), (40, .return_, 1)] := by unfold ODec; decide +kernel
theorem D4 : ODec prog_72_method_16_code [(0, .iload_n 1, 1), (1, .ifCond .eq 33, 3), (34, .aload_n 2, 1), (35, .iload_n 1, 1), (36, .invokevirtual 170, 3), (39, .return_, 1), (4, .aload_n 0, 1), (5, .getfield 47, 3), (8, .iload_n 1, 1), (9, .iaload, 1), (10, .iconst (-1), 1), (11, .if_icmp .eq 23, 3), (14, .iload_n 3, 1), (15, .ifCond .eq 11, 3), (18, .aload_n 0, 1), (19, .iload_n 1, 1), (20, .invokevirtual 193, 3), (23, .ifCond .eq 11, 3), (26, .aload_n 2, 1), (27, .iload_n 1, 1), (28, .invokevirtual 176, 3), (31, .goto 8, 3)] := by unfold ODec; decide +kernel
theorem D5 : ODec prog_86_method_6_code [(0, .aload_n 0, 1), (1, .iload_n 1, 1), (2, .invokevirtual 37, 3), (5, .ifCond .eq 44, 3), (49, .return_, 1), (8, .aload_n 0, 1), (9, .getfield 26, 3), (12, .iload_n 1, 1), (13, .bipush 64, 2), (15, .idiv, 1), (16, .dup2, 1), (17, .laload, 1), (18, .lconst 1, 1), (19, .iload_n 1, 1), (20, .lshl, 1), (21, .ldc2_w 48, 3), (24, .lxor, 1), (25, .land, 1), (26, .lastore, 1), (27, .aload_n 0, 1), (28, .dup, 1), (29, .getfield 30, 3), (32, .iconst 1, 1), (33, .isub, 1), (34, .putfield 30, 3), (37, .aload_n 0, 1), (38, .getfield 41, 3), (41, .ifCond .eq 8, 3), (44, .aload_n 0, 1), (45, .iload_n 1, 1), (46, .invokevirtual 44, 3)] := by unfold ODec; decide +kernel
theorem D6 : ODec prog_86_method_3_code [(0, .aload_n 0, 1), (1, .getfield 26, 3), (4, .iload_n 1, 1), (5, .bipush 64, 2), (7, .idiv, 1), (8, .laload, 1), (9, .lconst 1, 1), (10, .iload_n 1, 1), (11, .lshl, 1), (12, .land, 1), (13, .lconst 0, 1), (14, .lcmp, 1), (15, .ifCond .eq 7, 3), (22, .iconst 0, 1), (23, .ireturn, 1), (18, .iconst 1, 1), (19, .goto 4, 3)] := by unfold ODec; decide +kernel
theorem D7 : ODec prog_86_method_9_code [(0, .aload_n 0, 1), (1, .iconst 1, 1), (2, .aload_n 0, 1), (3, .getfield 20, 3), (6, .bipush 16, 2), (8, .iadd, 1), (9, .iconst 1, 1), (10, .isub, 1), (11, .bipush 16, 2), (13, .idiv, 1), (14, .invokestatic 59, 3), (17, .putfield 65, 3), (20, .aload_n 0, 1), (21, .iconst 2, 1), (22, .aload_n 0, 1), (23, .getfield 65, 3), (26, .imul, 1), (27, .newarray .int, 2), (29, .putfield 33, 3), (32, .aload_n 0, 1), (33, .iconst 2, 1), (34, .aload_n 0, 1), (35, .getfield 65, 3), (38, .imul, 1), (39, .newarray .double, 2), (41, .putfield 68, 3), (44, .iconst 0, 1), (45, .istore_n 1, 1), (46, .iload_n 1, 1), (47, .aload_n 0, 1), (48, .getfield 65, 3), (51, .if_icmp .ge 14, 3), (54, .aload_n 0, 1), (55, .iload_n 1, 1), (56, .invokevirtual 72, 3), (59, .iinc 1 1, 3), (62, .goto (-16), 3), (65, .aload_n 0, 1), (66, .getfield 65, 3), (69, .iconst 1, 1), (70, .isub, 1), (71, .istore_n 1, 1), (72, .iload_n 1, 1), (73, .ifCond .le 14, 3), (87, .aload_n 0, 1), (88, .iconst 1, 1), (89, .putfield 41, 3), (92, .return_, 1)] := by unfold ODec; decide +kernel
theorem D8 : ODec jdk_29_method_65_code [(0, .iload_n 0, 1), (1, .iload_n 1, 1), (2, .if_icmp .lt 7, 3), (9, .iload_n 1, 1), (10, .ireturn, 1), (5, .iload_n 0, 1), (6, .goto 4, 3)] := by unfold ODec; decide +kernel
theorem D9 : ODec prog_86_method_11_code [(0, .iconst (-1), 1), (1, .istore_n 2, 1), (2, .dconst 0, 1), (3, .dstore_n 3, 1), (4, .aload_n 0, 1), (5, .getfield 20, 3), (8, .i2l, 1), (9, .iload_n 1, 1), (10, .i2l, 1), (11, .lconst 1, 1), (12, .ladd, 1), (13, .ldc2_w 94, 3), (16, .lmul, 1), (17, .invokestatic 96, 3), (20, .l2i, 1), (21, .istore 5, 2), (23, .iload_n 1, 1), (24, .bipush 16, 2), (26, .imul, 1), (27, .istore 6, 2), (29, .iload 6, 2), (31, .iload 5, 2), (33, .if_icmp .ge 50, 3), (36, .aload_n 0, 1), (37, .iload 6, 2), (39, .invokevirtual 37, 3), (42, .ifCond .eq 35, 3), (77, .iinc 6 1, 3), (80, .goto (-51), 3), (83, .aload_n 0, 1), (84, .getfield 33, 3), (87, .aload_n 0, 1), (88, .getfield 65, 3), (91, .iload_n 1, 1), (92, .iadd, 1), (93, .iload_n 2, 1), (94, .iastore, 1), (95, .aload_n 0, 1), (96, .getfield 68, 3), (99, .aload_n 0, 1), (100, .getfield 65, 3), (103, .iload_n 1, 1), (104, .iadd, 1), (105, .dload_n 3, 1), (106, .dastore, 1), (107, .return_, 1), (45, .aload_n 0, 1), (46, .getfield 13, 3), (49, .iload 6, 2), (51, .invokeinterface 78 2, 5), (56, .dstore 7, 2), (58, .aload_n 0, 1), (59, .iload 6, 2), (61, .dload 7, 2), (63, .iload_n 2, 1), (64, .dload_n 3, 1), (65, .invokevirtual 84, 3), (68, .ifCond .eq 9, 3), (71, .iload 6, 2), (73, .istore_n 2, 1), (74, .dload 7, 2), (76, .dstore_n 3, 1)] := by unfold ODec; decide +kernel
theorem D10 : ODec jdk_29_method_70_code [(0, .lload_n 0, 1), (1, .lload_n 2, 1), (2, .lcmp, 1), (3, .ifCond .gt 7, 3), (10, .lload_n 2, 1), (11, .lreturn, 1), (6, .lload_n 0, 1), (7, .goto 4, 3)] := by unfold ODec; decide +kernel
theorem D11 : ODec prog_72_method_3_code [(0, .iconst 0, 1), (1, .istore 4, 2), (3, .iconst 0, 1), (4, .istore 5, 2), (6, .iload 5, 2), (8, .iconst (-1), 1), (9, .if_icmp .eq 51, 3), (12, .aload_n 1, 1), (13, .iload 4, 2), (15, .aload_n 0, 1), (16, .getfield 32, 3), (19, .iload 5, 2), (21, .daload, 1), (22, .dastore, 1), (23, .aload_n 2, 1), (24, .iload 4, 2), (26, .aload_n 0, 1), (27, .getfield 36, 3), (30, .iload 5, 2), (32, .daload, 1), (33, .dastore, 1), (34, .aload_n 3, 1), (35, .iload 4, 2), (37, .aload_n 0, 1), (38, .getfield 39, 3), (41, .iload 5, 2), (43, .baload, 1), (44, .bastore, 1), (45, .iinc 4 1, 3), (48, .aload_n 0, 1), (49, .getfield 47, 3), (52, .iload 5, 2), (54, .iaload, 1), (55, .istore 5, 2), (57, .goto (-51), 3), (60, .iload 4, 2), (62, .ireturn, 1)] := by unfold ODec; decide +kernel
theorem D12 : ODec method_3_code [(0, .iload_n 3, 1), (1, .iload 4, 2), (3, .if_icmp .ge 36, 3), (6, .aload_n 0, 1), (7, .iload_n 3, 1), (8, .daload, 1), (9, .dload 5, 2), (11, .dcmp .l, 1), (12, .ifCond .ne 25, 3), (15, .aload_n 1, 1), (16, .iload_n 3, 1), (17, .daload, 1), (18, .iload 7, 2), (20, .i2d, 1), (21, .dcmp .l, 1), (22, .ifCond .ne 15, 3), (25, .aload_n 2, 1), (26, .iload_n 3, 1), (27, .baload, 1), (28, .iload 8, 2), (30, .if_icmp .ne 7, 3), (33, .iconst 1, 1), (34, .goto 4, 3), (38, .ireturn, 1), (39, .aload_n 0, 1), (40, .iload_n 3, 1), (41, .daload, 1), (42, .ldc2_w 8, 3), (45, .dcmp .l, 1), (46, .ifCond .ne 17, 3), (49, .aload_n 1, 1), (50, .iload_n 3, 1), (51, .daload, 1), (52, .ldc2_w 10, 3), (55, .dcmp .l, 1), (56, .ifCond .ne 7, 3), (59, .iconst 1, 1), (60, .goto 4, 3), (64, .ireturn, 1)] := by unfold ODec; decide +kernel
theorem D13 : ODec prog_72_method_20_code [(0, .aload_n 0, 1), (1, .getfield 39, 3), (4, .iload_n 1, 1), (5, .baload, 1), (6, .ifCond .ne 37, 3), (9, .aload_n 0, 1), (10, .getfield 36, 3), (13, .iload_n 1, 1), (14, .daload, 1), (15, .aload_n 0, 1), (16, .getfield 36, 3), (19, .aload_n 0, 1), (20, .getfield 47, 3), (23, .iload_n 1, 1), (24, .iaload, 1), (25, .daload, 1), (26, .dadd, 1), (27, .ldc2_w 200, 3), (30, .aload_n 0, 1), (31, .invokevirtual 196, 3), (34, .dmul, 1), (35, .dcmp .g, 1), (36, .ifCond .gt 7, 3), (43, .iconst 0, 1), (44, .ireturn, 1), (39, .iconst 1, 1), (40, .goto 4, 3)] := by unfold ODec; decide +kernel
theorem D14 : ODec prog_72_method_18_code [(0, .aload_n 0, 1), (1, .getfield 23, 3), (4, .aload_n 0, 1), (5, .getfield 16, 3), (8, .dmul, 1), (9, .aload_n 0, 1), (10, .getfield 13, 3), (13, .i2d, 1), (14, .ddiv, 1), (15, .dreturn, 1)] := by unfold ODec; decide +kernel
theorem D15 : ODec prog_86_method_5_code [(0, .aload_n 0, 1), (1, .iload_n 1, 1), (2, .invokevirtual 37, 3), (5, .ifCond .ne 28, 3), (8, .aload_n 0, 1), (9, .getfield 26, 3), (12, .iload_n 1, 1), (13, .bipush 64, 2), (15, .idiv, 1), (16, .dup2, 1), (17, .laload, 1), (18, .lconst 1, 1), (19, .iload_n 1, 1), (20, .lshl, 1), (21, .lor, 1), (22, .lastore, 1), (23, .aload_n 0, 1), (24, .dup, 1), (25, .getfield 30, 3), (28, .iconst 1, 1), (29, .iadd, 1), (30, .putfield 30, 3), (33, .aload_n 0, 1), (34, .getfield 41, 3), (37, .ifCond .eq 8, 3), (45, .return_, 1)] := by unfold ODec; decide +kernel
theorem D16 : ODec prog_72_method_25_code [(0, .aload_n 0, 1), (1, .getfield 47, 3), (4, .iload_n 1, 1), (5, .iaload, 1), (6, .istore_n 2, 1), (7, .aload_n 0, 1), (8, .aload_n 0, 1), (9, .getfield 36, 3), (12, .iload_n 1, 1), (13, .daload, 1), (14, .aload_n 0, 1), (15, .getfield 36, 3), (18, .iload_n 2, 1), (19, .daload, 1), (20, .dadd, 1), (21, .aload_n 0, 1), (22, .getfield 32, 3), (25, .aload_n 0, 1), (26, .getfield 43, 3), (29, .iload_n 1, 1), (30, .iaload, 1), (31, .daload, 1), (32, .aload_n 0, 1), (33, .getfield 32, 3), (36, .iload_n 2, 1), (37, .daload, 1), (38, .aload_n 0, 1), (39, .getfield 43, 3), (42, .iload_n 1, 1), (43, .iaload, 1), (44, .aload_n 0, 1), (45, .getfield 47, 3), (48, .iload_n 2, 1), (49, .iaload, 1), (50, .invokevirtual 210, 3), (53, .dreturn, 1)] := by unfold ODec; decide +kernel
theorem D17 : ODec prog_72_method_26_code [(0, .dload_n 3, 1), (1, .dload 5, 2), (3, .invokestatic 214, 3), (6, .dstore 9, 2), (8, .aload_n 0, 1), (9, .dload_n 1, 1), (10, .dload 9, 2), (12, .iload 7, 2), (14, .invokevirtual 217, 3), (17, .aload_n 0, 1), (18, .dload_n 1, 1), (19, .dload 9, 2), (21, .iload 8, 2), (23, .invokevirtual 217, 3), (26, .invokestatic 158, 3), (29, .dreturn, 1)] := by unfold ODec; decide +kernel
theorem D18 : ODec prog_81_method_6_code [(0, .dload_n 2, 1), (1, .dload_n 0, 1), (2, .dsub, 1), (3, .ldc2_w 51, 3), (6, .invokestatic 29, 3), (9, .dreturn, 1)] := by unfold ODec; decide +kernel
theorem D20 : ODec prog_72_method_27_code [(72, .dstore 10, 2), (74, .dload_n 1, 1), (75, .dload 10, 2), (77, .dsub, 1), (78, .invokestatic 221, 3), (81, .dload_n 3, 1), (82, .dload_n 3, 1), (83, .dload 8, 2), (85, .dadd, 1), (86, .ddiv, 1), (87, .dmul, 1), (88, .dreturn, 1), (54, .dload 6, 2), (56, .dconst 0, 1), (57, .dcmp .g, 1), (58, .ifCond .gt 7, 3), (65, .dload 6, 2), (67, .dload_n 3, 1), (68, .dload 8, 2), (70, .ddiv, 1), (71, .dmul, 1), (61, .dconst 0, 1), (62, .goto 10, 3), (0, .dconst 0, 1), (1, .dstore 6, 2), (3, .dload_n 3, 1), (4, .dstore 8, 2), (6, .iload 5, 2), (8, .iconst (-1), 1), (9, .if_icmp .eq 45, 3), (12, .aload_n 0, 1), (13, .iload 5, 2), (15, .invokevirtual 202, 3), (18, .ifCond .ne 36, 3), (21, .aload_n 0, 1), (22, .getfield 36, 3), (25, .iload 5, 2), (27, .daload, 1), (28, .dstore 6, 2), (30, .aload_n 0, 1), (31, .getfield 32, 3), (34, .aload_n 0, 1), (35, .getfield 43, 3), (38, .iload 5, 2), (40, .iaload, 1), (41, .daload, 1), (42, .aload_n 0, 1), (43, .getfield 32, 3), (46, .iload 5, 2), (48, .daload, 1), (49, .invokestatic 214, 3), (52, .dstore 8, 2)] := by unfold ODec; decide +kernel
theorem D21 : ODec prog_72_method_22_code [(0, .iload_n 1, 1), (1, .ifCond .eq 30, 3), (31, .iconst 1, 1), (32, .goto 4, 3), (36, .ireturn, 1), (4, .aload_n 0, 1), (5, .getfield 32, 3), (8, .aload_n 0, 1), (9, .getfield 43, 3), (12, .iload_n 1, 1), (13, .iaload, 1), (14, .daload, 1), (15, .aload_n 0, 1), (16, .getfield 32, 3), (19, .iload_n 1, 1), (20, .daload, 1), (21, .aload_n 0, 1), (22, .getfield 20, 3), (25, .invokestatic 205, 3), (28, .ifCond .eq 7, 3), (35, .iconst 0, 1)] := by unfold ODec; decide +kernel
theorem D23 : ODec prog_81_method_4_code [(0, .dload_n 0, 1), (1, .invokestatic 35, 3), (4, .dload_n 2, 1), (5, .invokestatic 35, 3), (8, .invokestatic 39, 3), (11, .dload 4, 2), (13, .invokestatic 39, 3), (16, .dstore 6, 2), (18, .dload_n 0, 1), (19, .dload_n 2, 1), (20, .invokestatic 42, 3), (23, .ldc2_w 45, 3), (26, .dload 6, 2), (28, .dmul, 1), (29, .dcmp .g, 1), (30, .ifCond .ge 7, 3), (33, .iconst 1, 1), (34, .goto 4, 3), (38, .ireturn, 1), (37, .iconst 0, 1)] := by unfold ODec; decide +kernel
theorem D25 : ODec prog_86_method_13_code [(0, .iload_n 1, 1), (1, .iconst (-1), 1), (2, .if_icmp .eq 9, 3), (5, .iload 4, 2), (7, .iconst (-1), 1), (8, .if_icmp .ne 24, 3), (11, .iload 4, 2), (13, .iconst (-1), 1), (14, .if_icmp .ne 12, 3), (17, .iload_n 1, 1), (18, .iconst (-1), 1), (19, .if_icmp .eq 7, 3), (22, .iconst 1, 1), (23, .goto 4, 3), (27, .istore 7, 2), (29, .goto 146, 3), (175, .iload 7, 2), (177, .ireturn, 1), (32, .dload_n 2, 1), (33, .invokestatic 100, 3), (36, .ifCond .ne 11, 3), (39, .dload 5, 2), (41, .invokestatic 100, 3), (44, .ifCond .eq 53, 3), (97, .dload_n 2, 1), (98, .dload 5, 2), (100, .dcmp .l, 1), (101, .ifCond .ne 38, 3), (104, .aload_n 0, 1), (105, .getfield 17, 3), (108, .iload_n 1, 1), (109, .invokeinterface 78 2, 5), (114, .aload_n 0, 1), (115, .getfield 17, 3), (118, .iload 4, 2), (120, .invokeinterface 78 2, 5), (125, .dcmp .g, 1), (126, .ifCond .ge 7, 3), (129, .iconst 1, 1), (130, .goto 4, 3), (134, .istore 7, 2), (136, .goto 39, 3), (133, .iconst 0, 1), (139, .aload_n 0, 1), (140, .getfield 7, 3), (143, .ifCond .eq 18, 3), (161, .dload_n 2, 1), (162, .dload 5, 2), (164, .dcmp .g, 1), (165, .ifCond .ge 7, 3), (168, .iconst 1, 1), (169, .goto 4, 3), (173, .istore 7, 2), (172, .iconst 0, 1), (47, .dload 5, 2), (49, .invokestatic 100, 3), (52, .ifCond .eq 39, 3), (91, .iconst 0, 1), (92, .istore 7, 2), (94, .goto 81, 3), (55, .dload_n 2, 1), (56, .invokestatic 100, 3), (59, .ifCond .eq 28, 3), (87, .iconst 1, 1), (88, .goto 4, 3), (62, .aload_n 0, 1), (63, .getfield 17, 3), (66, .iload_n 1, 1), (67, .invokeinterface 78 2, 5), (72, .aload_n 0, 1), (73, .getfield 17, 3), (76, .iload 4, 2), (78, .invokeinterface 78 2, 5), (83, .dcmp .g, 1), (84, .ifCond .ge 7, 3)] := by unfold ODec; decide +kernel
theorem D26 : ODec prog_72_method_5_code [(0, .aload_n 0, 1), (1, .getfield 26, 3), (4, .iload_n 1, 1), (5, .if_icmp .le 102, 3), (8, .aload_n 0, 1), (9, .getfield 60, 3), (12, .invokevirtual 71, 3), (15, .istore_n 2, 1), (16, .iload_n 2, 1), (17, .iconst (-1), 1), (18, .if_icmp .ne 81, 3), (99, .aload_n 0, 1), (100, .iload_n 2, 1), (101, .invokevirtual 78, 3), (104, .goto (-104), 3), (107, .return_, 1), (21, .aload_n 0, 1), (22, .getfield 75, 3), (25, .ifnonnull 66, 3), (28, .aload_n 0, 1), (29, .new 50, 3), (32, .dup, 1), (33, .iconst 0, 1), (34, .aload_n 0, 1), (35, .getfield 32, 3), (38, .arraylength, 1), (39, .aload_n 0, 1), (40, .invokedynamic 52, 5), (45, .aload_n 0, 1), (46, .invokedynamic 56, 5), (51, .invokespecial 57, 3), (54, .putfield 75, 3), (57, .iconst 0, 1), (58, .istore_n 3, 1), (59, .iload_n 3, 1), (60, .iconst (-1), 1), (61, .if_icmp .eq 23, 3), (64, .aload_n 0, 1), (65, .iload_n 3, 1), (66, .aload_n 0, 1), (67, .getfield 75, 3), (70, .iconst 0, 1), (71, .invokevirtual 64, 3), (74, .aload_n 0, 1), (75, .getfield 47, 3), (78, .iload_n 3, 1), (79, .iaload, 1), (80, .istore_n 3, 1), (81, .goto (-22), 3), (84, .aload_n 0, 1), (85, .getfield 75, 3), (88, .invokevirtual 68, 3), (91, .aload_n 0, 1), (92, .getfield 75, 3), (95, .invokevirtual 71, 3), (98, .istore_n 2, 1)] := by unfold ODec; decide +kernel
theorem D27 : ODec prog_86_method_4_code [(0, .aload_n 0, 1), (1, .getfield 33, 3), (4, .iconst 1, 1), (5, .iaload, 1), (6, .ireturn, 1)] := by unfold ODec; decide +kernel
theorem D28 : ODec prog_72_method_10_code [(0, .aload_n 0, 1), (1, .getfield 47, 3), (4, .iload_n 1, 1), (5, .iaload, 1), (6, .istore_n 2, 1), (7, .aload_n 0, 1), (8, .getfield 43, 3), (11, .iload_n 1, 1), (12, .iaload, 1), (13, .istore_n 3, 1), (14, .aload_n 0, 1), (15, .getfield 36, 3), (18, .iload_n 2, 1), (19, .dup2, 1), (20, .daload, 1), (21, .aload_n 0, 1), (22, .getfield 36, 3), (25, .iload_n 1, 1), (26, .daload, 1), (27, .dadd, 1), (28, .dastore, 1), (29, .aload_n 0, 1), (30, .getfield 47, 3), (33, .iload_n 3, 1), (34, .iload_n 2, 1), (35, .iastore, 1), (36, .aload_n 0, 1), (37, .getfield 43, 3), (40, .iload_n 2, 1), (41, .iload_n 3, 1), (42, .iastore, 1), (43, .aload_n 0, 1), (44, .getfield 43, 3), (47, .iload_n 1, 1), (48, .bipush (-2), 2), (50, .iastore, 1), (51, .aload_n 0, 1), (52, .getfield 47, 3), (55, .iload_n 1, 1), (56, .aload_n 0, 1), (57, .getfield 9, 3), (60, .iastore, 1), (61, .aload_n 0, 1), (62, .iload_n 1, 1), (63, .putfield 9, 3), (66, .aload_n 0, 1), (67, .dup, 1), (68, .getfield 26, 3), (71, .iconst 1, 1), (72, .isub, 1), (73, .putfield 26, 3), (76, .aload_n 0, 1), (77, .getfield 60, 3), (80, .iload_n 1, 1), (81, .invokevirtual 170, 3), (84, .aload_n 0, 1), (85, .getfield 109, 3), (88, .ifnull 11, 3), (99, .aload_n 0, 1), (100, .getfield 75, 3), (103, .ifnull 11, 3), (114, .aload_n 0, 1), (115, .iload_n 2, 1), (116, .invokevirtual 167, 3), (119, .return_, 1), (106, .aload_n 0, 1), (107, .getfield 75, 3), (110, .iload_n 1, 1), (111, .invokevirtual 170, 3)] := by unfold ODec; decide +kernel
theorem D29 : ODec prog_86_method_10_code [(0, .aload_n 0, 1), (1, .getfield 65, 3), (4, .iload_n 1, 1), (5, .bipush 16, 2), (7, .idiv, 1), (8, .iadd, 1), (9, .istore_n 2, 1), (10, .aload_n 0, 1), (11, .getfield 33, 3), (14, .iload_n 2, 1), (15, .iaload, 1), (16, .iload_n 1, 1), (17, .if_icmp .ne 14, 3), (20, .aload_n 0, 1), (21, .iload_n 1, 1), (22, .bipush 16, 2), (24, .idiv, 1), (25, .invokevirtual 72, 3), (28, .goto 62, 3), (90, .iload_n 2, 1), (91, .iconst 2, 1), (92, .idiv, 1), (93, .istore_n 2, 1), (94, .iload_n 2, 1), (95, .ifCond .le 61, 3), (156, .return_, 1)] := by unfold ODec; decide +kernel
theorem D30 : ODec prog_72_method_13_code [(0, .iload_n 1, 1), (1, .istore_n 2, 1), (2, .iconst 0, 1), (3, .istore_n 3, 1), (4, .iload_n 3, 1), (5, .iconst 2, 1), (6, .if_icmp .ge 26, 3), (9, .aload_n 0, 1), (10, .getfield 43, 3), (13, .iload_n 2, 1), (14, .iaload, 1), (15, .iconst (-1), 1), (16, .if_icmp .eq 16, 3), (19, .aload_n 0, 1), (20, .getfield 43, 3), (23, .iload_n 2, 1), (24, .iaload, 1), (25, .istore_n 2, 1), (26, .iinc 3 1, 3), (29, .goto (-25), 3), (32, .aload_n 0, 1), (33, .getfield 47, 3), (36, .iload_n 1, 1), (37, .iaload, 1), (38, .iconst (-1), 1), (39, .if_icmp .ne 7, 3), (42, .iload_n 1, 1), (43, .goto 9, 3), (52, .istore_n 3, 1), (53, .iload_n 2, 1), (54, .istore 4, 2), (56, .iload 4, 2), (58, .aload_n 0, 1), (59, .getfield 47, 3), (62, .iload_n 3, 1), (63, .iaload, 1), (64, .if_icmp .eq 21, 3), (67, .aload_n 0, 1), (68, .iload 4, 2), (70, .invokevirtual 185, 3), (73, .aload_n 0, 1), (74, .getfield 47, 3), (77, .iload 4, 2), (79, .iaload, 1), (80, .istore 4, 2), (82, .goto (-26), 3), (85, .return_, 1)] := by unfold ODec; decide +kernel
theorem D31 : ODec prog_72_method_14_code [(0, .aload_n 0, 1), (1, .getfield 109, 3), (4, .ifnull 8, 3), (12, .aload_n 0, 1), (13, .iload_n 1, 1), (14, .aload_n 0, 1), (15, .getfield 60, 3), (18, .iconst 1, 1), (19, .invokevirtual 64, 3), (22, .aload_n 0, 1), (23, .getfield 75, 3), (26, .ifnull 13, 3), (39, .return_, 1), (29, .aload_n 0, 1), (30, .iload_n 1, 1), (31, .aload_n 0, 1), (32, .getfield 75, 3), (35, .iconst 0, 1), (36, .invokevirtual 64, 3)] := by unfold ODec; decide +kernel
theorem D32 : ODec jdk_117_method_6_code [(0, .dload_n 0, 1), (1, .dload_n 0, 1), (2, .dcmp .l, 1), (3, .ifCond .eq 7, 3), (10, .iconst 0, 1), (11, .ireturn, 1), (6, .iconst 1, 1), (7, .goto 4, 3)] := by unfold ODec; decide +kernel
theorem D33 : ODec prog_72_method_23_code [(0, .aload_n 0, 1), (1, .getfield 32, 3), (4, .iload_n 1, 1), (5, .daload, 1), (6, .dreturn, 1)] := by unfold ODec; decide +kernel
theorem own_pn8 : plainFor yN8 = true := Jvm.Free.JP.mathPlain rfl (by decide +kernel)
theorem own_ef8_II (m : MethodId) (x0 : Int32) (x1 : Int32) : entryFrame m #[(.int x0), (.int x1)] 2 = mkF m 0 #[.val (.int x0), .val (.int x1)] [] := by first | (simp [entryFrame, mkF, argsToLocals, Value.category]; done) | rfl
theorem own_pn10 : plainFor yN10 = true := Jvm.Free.JP.mathPlain rfl (by decide +kernel)
theorem own_ef10_JJ (m : MethodId) (x0 : Int64) (x1 : Int64) : entryFrame m #[(.long x0), (.long x1)] 4 = mkF m 0 #[.val (.long x0), .second, .val (.long x1), .second] [] := by first | (simp [entryFrame, mkF, argsToLocals, Value.category]; done) | rfl
theorem own_pn32 : plainFor yN32 = true := plainFor_of_name (by first | (simp [plainName, overriddenIn]; done) | decide +kernel)
theorem own_ef32_D (m : MethodId) (x0 : UInt64) : entryFrame m #[(.double x0)] 2 = mkF m 0 #[.val (.double x0), .second] [] := by first | (simp [entryFrame, mkF, argsToLocals, Value.category]; done) | rfl
theorem own_pn33 : plainFor yN33 = true := plainFor_of_name (by first | (simp [plainName, overriddenIn]; done) | decide +kernel)
theorem own_ef33_RI (m : MethodId) (x0 : Addr) (x1 : Int32) : entryFrame m #[(.ref x0), (.int x1)] 2 = mkF m 0 #[.val (.ref x0), .val (.int x1)] [] := by first | (simp [entryFrame, mkF, argsToLocals, Value.category]; done) | rfl
theorem own_pn18 : plainFor yN18 = true := plainFor_of_name (by first | (simp [plainName, overriddenIn]; done) | decide +kernel)
theorem own_ef18_DD (m : MethodId) (x0 : UInt64) (x1 : UInt64) : entryFrame m #[(.double x0), (.double x1)] 4 = mkF m 0 #[.val (.double x0), .second, .val (.double x1), .second] [] := by first | (simp [entryFrame, mkF, argsToLocals, Value.category]; done) | rfl
theorem own_pd0 : parseMethodDescriptor "(DD)D" = some ⟨[.double, .double], some .double⟩ := by decide +kernel
theorem own_pn23 : plainFor yN23 = true := plainFor_of_name (by first | (simp [plainName, overriddenIn]; done) | decide +kernel)
theorem own_ef23_DDD (m : MethodId) (x0 : UInt64) (x1 : UInt64) (x2 : UInt64) : entryFrame m #[(.double x0), (.double x1), (.double x2)] 8 = mkF m 0 #[.val (.double x0), .second, .val (.double x1), .second, .val (.double x2), .second, .unset, .unset] [] := by first | (simp [entryFrame, mkF, argsToLocals, Value.category]; done) | rfl
theorem own_pd1 : parseMethodDescriptor "(D)D" = some ⟨[.double], some .double⟩ := by decide +kernel
theorem own_pn21 : plainFor yN21 = true := plainFor_of_name (by first | (simp [plainName, overriddenIn]; done) | decide +kernel)
theorem own_ef21_RI (m : MethodId) (x0 : Addr) (x1 : Int32) : entryFrame m #[(.ref x0), (.int x1)] 2 = mkF m 0 #[.val (.ref x0), .val (.int x1)] [] := by first | (simp [entryFrame, mkF, argsToLocals, Value.category]; done) | rfl
theorem own_pd2 : parseMethodDescriptor "(DDD)Z" = some ⟨[.double, .double, .double], some .boolean⟩ := by decide +kernel
theorem own_pn20 : plainFor yN20 = true := plainFor_of_name (by first | (simp [plainName, overriddenIn]; done) | decide +kernel)
theorem own_ef20_RDDI (m : MethodId) (x0 : Addr) (x1 : UInt64) (x2 : UInt64) (x3 : Int32) : entryFrame m #[(.ref x0), (.double x1), (.double x2), (.int x3)] 12 = mkF m 0 #[.val (.ref x0), .val (.double x1), .second, .val (.double x2), .second, .val (.int x3), .unset, .unset, .unset, .unset, .unset, .unset] [] := by first | (simp [entryFrame, mkF, argsToLocals, Value.category]; done) | rfl
theorem own_pd3 : parseMethodDescriptor "(I)Z" = some ⟨[.int], some .boolean⟩ := by decide +kernel
theorem own_pn17 : plainFor yN17 = true := plainFor_of_name (by first | (simp [plainName, overriddenIn]; done) | decide +kernel)
theorem own_ef17_RDDDII (m : MethodId) (x0 : Addr) (x1 : UInt64) (x2 : UInt64) (x3 : UInt64) (x4 : Int32) (x5 : Int32) : entryFrame m #[(.ref x0), (.double x1), (.double x2), (.double x3), (.int x4), (.int x5)] 11 = mkF m 0 #[.val (.ref x0), .val (.double x1), .second, .val (.double x2), .second, .val (.double x3), .second, .val (.int x4), .val (.int x5), .unset, .unset] [] := by first | (simp [entryFrame, mkF, argsToLocals, Value.category]; done) | rfl
theorem own_pd4 : parseMethodDescriptor "(DDI)D" = some ⟨[.double, .double, .int], some .double⟩ := by decide +kernel
theorem own_pn16 : plainFor yN16 = true := plainFor_of_name (by first | (simp [plainName, overriddenIn]; done) | decide +kernel)
theorem own_ef16_RI (m : MethodId) (x0 : Addr) (x1 : Int32) : entryFrame m #[(.ref x0), (.int x1)] 3 = mkF m 0 #[.val (.ref x0), .val (.int x1), .unset] [] := by first | (simp [entryFrame, mkF, argsToLocals, Value.category]; done) | rfl
theorem own_pd5 : parseMethodDescriptor "(DDDII)D" = some ⟨[.double, .double, .double, .int, .int], some .double⟩ := by decide +kernel
theorem own_pn14 : plainFor yN14 = true := plainFor_of_name (by first | (simp [plainName, overriddenIn]; done) | decide +kernel)
theorem own_ef14_R (m : MethodId) (x0 : Addr) : entryFrame m #[(.ref x0)] 1 = mkF m 0 #[.val (.ref x0)] [] := by first | (simp [entryFrame, mkF, argsToLocals, Value.category]; done) | rfl
theorem own_pn13 : plainFor yN13 = true := plainFor_of_name (by first | (simp [plainName, overriddenIn]; done) | decide +kernel)
theorem own_ef13_RI (m : MethodId) (x0 : Addr) (x1 : Int32) : entryFrame m #[(.ref x0), (.int x1)] 2 = mkF m 0 #[.val (.ref x0), .val (.int x1)] [] := by first | (simp [entryFrame, mkF, argsToLocals, Value.category]; done) | rfl
theorem own_pd6 : parseMethodDescriptor "()D" = some ⟨[], some .double⟩ := by decide +kernel
theorem own_pn6 : plainFor yN6 = true := plainFor_of_name (by first | (simp [plainName, overriddenIn]; done) | decide +kernel)
theorem own_ef6_RI (m : MethodId) (x0 : Addr) (x1 : Int32) : entryFrame m #[(.ref x0), (.int x1)] 2 = mkF m 0 #[.val (.ref x0), .val (.int x1)] [] := by first | (simp [entryFrame, mkF, argsToLocals, Value.category]; done) | rfl
theorem own_pn15 : plainFor yN15 = true := plainFor_of_name (by first | (simp [plainName, overriddenIn]; done) | decide +kernel)
theorem own_ef15_RI (m : MethodId) (x0 : Addr) (x1 : Int32) : entryFrame m #[(.ref x0), (.int x1)] 2 = mkF m 0 #[.val (.ref x0), .val (.int x1)] [] := by first | (simp [entryFrame, mkF, argsToLocals, Value.category]; done) | rfl
theorem own_pn5 : plainFor yN5 = true := plainFor_of_name (by first | (simp [plainName, overriddenIn]; done) | decide +kernel)
theorem own_ef5_RI (m : MethodId) (x0 : Addr) (x1 : Int32) : entryFrame m #[(.ref x0), (.int x1)] 2 = mkF m 0 #[.val (.ref x0), .val (.int x1)] [] := by first | (simp [entryFrame, mkF, argsToLocals, Value.category]; done) | rfl
theorem own_pn25 : plainFor yN25 = true := plainFor_of_name (by first | (simp [plainName, overriddenIn]; done) | decide +kernel)
theorem own_ef25_RIDID (m : MethodId) (x0 : Addr) (x1 : Int32) (x2 : UInt64) (x3 : Int32) (x4 : UInt64) : entryFrame m #[(.ref x0), (.int x1), (.double x2), (.int x3), (.double x4)] 8 = mkF m 0 #[.val (.ref x0), .val (.int x1), .val (.double x2), .second, .val (.int x3), .val (.double x4), .second, .unset] [] := by first | (simp [entryFrame, mkF, argsToLocals, Value.category]; done) | rfl
theorem own_pd7 : parseMethodDescriptor "(D)Z" = some ⟨[.double], some .boolean⟩ := by decide +kernel
theorem own_pn9 : plainFor yN9 = true := plainFor_of_name (by first | (simp [plainName, overriddenIn]; done) | decide +kernel)
theorem own_ef9_RI (m : MethodId) (x0 : Addr) (x1 : Int32) : entryFrame m #[(.ref x0), (.int x1)] 9 = mkF m 0 #[.val (.ref x0), .val (.int x1), .unset, .unset, .unset, .unset, .unset, .unset, .unset] [] := by first | (simp [entryFrame, mkF, argsToLocals, Value.category]; done) | rfl
theorem own_pd8 : parseMethodDescriptor "(JJ)J" = some ⟨[.long, .long], some .long⟩ := by decide +kernel
theorem own_pd9 : parseMethodDescriptor "(IDID)Z" = some ⟨[.int, .double, .int, .double], some .boolean⟩ := by decide +kernel
theorem own_pn27 : plainFor yN27 = true := plainFor_of_name (by first | (simp [plainName, overriddenIn]; done) | decide +kernel)
theorem own_ef27_R (m : MethodId) (x0 : Addr) : entryFrame m #[(.ref x0)] 1 = mkF m 0 #[.val (.ref x0)] [] := by first | (simp [entryFrame, mkF, argsToLocals, Value.category]; done) | rfl
theorem own_pn29 : plainFor yN29 = true := plainFor_of_name (by first | (simp [plainName, overriddenIn]; done) | decide +kernel)
theorem own_ef29_RI (m : MethodId) (x0 : Addr) (x1 : Int32) : entryFrame m #[(.ref x0), (.int x1)] 6 = mkF m 0 #[.val (.ref x0), .val (.int x1), .unset, .unset, .unset, .unset] [] := by first | (simp [entryFrame, mkF, argsToLocals, Value.category]; done) | rfl
theorem own_pd10 : parseMethodDescriptor "(I)V" = some ⟨[.int], none⟩ := by decide +kernel
theorem own_pn7 : plainFor yN7 = true := plainFor_of_name (by first | (simp [plainName, overriddenIn]; done) | decide +kernel)
theorem own_ef7_R (m : MethodId) (x0 : Addr) : entryFrame m #[(.ref x0)] 2 = mkF m 0 #[.val (.ref x0), .unset] [] := by first | (simp [entryFrame, mkF, argsToLocals, Value.category]; done) | rfl
theorem own_pd11 : parseMethodDescriptor "(II)I" = some ⟨[.int, .int], some .int⟩ := by decide +kernel
theorem own_pn3 : plainFor yN3 = true := plainFor_of_name (by first | (simp [plainName, overriddenIn]; done) | decide +kernel)
theorem own_ef3_RIIRR (m : MethodId) (x0 : Addr) (x1 : Int32) (x2 : Int32) (x3 : Addr) (x4 : Addr) : entryFrame m #[(.ref x0), (.int x1), (.int x2), (.ref x3), (.ref x4)] 5 = mkF m 0 #[.val (.ref x0), .val (.int x1), .val (.int x2), .val (.ref x3), .val (.ref x4)] [] := by first | (simp [entryFrame, mkF, argsToLocals, Value.category]; done) | rfl
theorem own_pn4 : plainFor yN4 = true := plainFor_of_name (by first | (simp [plainName, overriddenIn]; done) | decide +kernel)
theorem own_ef4_RIRI (m : MethodId) (x0 : Addr) (x1 : Int32) (x2 : Addr) (x3 : Int32) : entryFrame m #[(.ref x0), (.int x1), (.ref x2), (.int x3)] 4 = mkF m 0 #[.val (.ref x0), .val (.int x1), .val (.ref x2), .val (.int x3)] [] := by first | (simp [entryFrame, mkF, argsToLocals, Value.category]; done) | rfl
theorem own_pn31 : plainFor yN31 = true := plainFor_of_name (by first | (simp [plainName, overriddenIn]; done) | decide +kernel)
theorem own_ef31_RI (m : MethodId) (x0 : Addr) (x1 : Int32) : entryFrame m #[(.ref x0), (.int x1)] 2 = mkF m 0 #[.val (.ref x0), .val (.int x1)] [] := by first | (simp [entryFrame, mkF, argsToLocals, Value.category]; done) | rfl
theorem own_pd12 : parseMethodDescriptor "(ILcom/example/rankfold/rankfold/summaries/Tournament;Z)V" = some ⟨[.int, (.object "com/example/rankfold/rankfold/summaries/Tournament"), .boolean], none⟩ := by decide +kernel
theorem own_pn30 : plainFor yN30 = true := plainFor_of_name (by first | (simp [plainName, overriddenIn]; done) | decide +kernel)
theorem own_ef30_RI (m : MethodId) (x0 : Addr) (x1 : Int32) : entryFrame m #[(.ref x0), (.int x1)] 5 = mkF m 0 #[.val (.ref x0), .val (.int x1), .unset, .unset, .unset] [] := by first | (simp [entryFrame, mkF, argsToLocals, Value.category]; done) | rfl
theorem own_pn28 : plainFor yN28 = true := plainFor_of_name (by first | (simp [plainName, overriddenIn]; done) | decide +kernel)
theorem own_ef28_RI (m : MethodId) (x0 : Addr) (x1 : Int32) : entryFrame m #[(.ref x0), (.int x1)] 4 = mkF m 0 #[.val (.ref x0), .val (.int x1), .unset, .unset] [] := by first | (simp [entryFrame, mkF, argsToLocals, Value.category]; done) | rfl
theorem own_pn26 : plainFor yN26 = true := plainFor_of_name (by first | (simp [plainName, overriddenIn]; done) | decide +kernel)
theorem own_ef26_RI (m : MethodId) (x0 : Addr) (x1 : Int32) : entryFrame m #[(.ref x0), (.int x1)] 4 = mkF m 0 #[.val (.ref x0), .val (.int x1), .unset, .unset] [] := by first | (simp [entryFrame, mkF, argsToLocals, Value.category]; done) | rfl
theorem own_pd13 : parseMethodDescriptor "()I" = some ⟨[], some .int⟩ := by decide +kernel
theorem own_pd14 : parseMethodDescriptor "(ZILjava/util/function/IntToDoubleFunction;Ljava/util/function/IntToDoubleFunction;)V" = some ⟨[.boolean, .int, (.object "java/util/function/IntToDoubleFunction"), (.object "java/util/function/IntToDoubleFunction")], none⟩ := by decide +kernel
theorem own_pd15 : parseMethodDescriptor "()V" = some ⟨[], none⟩ := by decide +kernel
theorem own_pn1 : plainFor yN1 = true := plainFor_of_name (by first | (simp [plainName, overriddenIn]; done) | decide +kernel)
theorem own_ef1_RRRRIIJDD (m : MethodId) (x0 : Addr) (x1 : Addr) (x2 : Addr) (x3 : Addr) (x4 : Int32) (x5 : Int32) (x6 : Int64) (x7 : UInt64) (x8 : UInt64) : entryFrame m #[(.ref x0), (.ref x1), (.ref x2), (.ref x3), (.int x4), (.int x5), (.long x6), (.double x7), (.double x8)] 14 = mkF m 0 #[.val (.ref x0), .val (.ref x1), .val (.ref x2), .val (.ref x3), .val (.int x4), .val (.int x5), .val (.long x6), .second, .val (.double x7), .second, .val (.double x8), .second, .unset, .unset] [] := by first | (simp [entryFrame, mkF, argsToLocals, Value.category]; done) | rfl
theorem own_pn11 : plainFor yN11 = true := plainFor_of_name (by first | (simp [plainName, overriddenIn]; done) | decide +kernel)
theorem own_ef11_RRRR (m : MethodId) (x0 : Addr) (x1 : Addr) (x2 : Addr) (x3 : Addr) : entryFrame m #[(.ref x0), (.ref x1), (.ref x2), (.ref x3)] 6 = mkF m 0 #[.val (.ref x0), .val (.ref x1), .val (.ref x2), .val (.ref x3), .unset, .unset] [] := by first | (simp [entryFrame, mkF, argsToLocals, Value.category]; done) | rfl
theorem own_pn12 : plainFor yN12 = true := plainFor_of_name (by first | (simp [plainName, overriddenIn]; done) | decide +kernel)
theorem own_ef12_RRRIIDII (m : MethodId) (x0 : Addr) (x1 : Addr) (x2 : Addr) (x3 : Int32) (x4 : Int32) (x5 : UInt64) (x6 : Int32) (x7 : Int32) : entryFrame m #[(.ref x0), (.ref x1), (.ref x2), (.int x3), (.int x4), (.double x5), (.int x6), (.int x7)] 9 = mkF m 0 #[.val (.ref x0), .val (.ref x1), .val (.ref x2), .val (.int x3), .val (.int x4), .val (.double x5), .second, .val (.int x6), .val (.int x7)] [] := by first | (simp [entryFrame, mkF, argsToLocals, Value.category]; done) | rfl
theorem own_pd16 : parseMethodDescriptor "([D[D[ZIIJDD)V" = some ⟨[(.array .double), (.array .double), (.array .boolean), .int, .int, .long, .double, .double], none⟩ := by decide +kernel
theorem own_pd17 : parseMethodDescriptor "([D[D[Z)I" = some ⟨[(.array .double), (.array .double), (.array .boolean)], some .int⟩ := by decide +kernel
theorem own_pd18 : parseMethodDescriptor "([D[D[ZIIDIZ)Z" = some ⟨[(.array .double), (.array .double), (.array .boolean), .int, .int, .double, .int, .boolean], some .boolean⟩ := by decide +kernel
theorem own_pn0 : plainFor (⟨"com/example/rankfold/rankfold/summaries/BucketEditorWritePinLaw", "law", "(IIIII)Z"⟩ : MethodName) = true := plainFor_of_name (by first | (simp [plainName, overriddenIn]; done) | decide +kernel)
theorem own_ef0_IIIII (m : MethodId) (x0 : Int32) (x1 : Int32) (x2 : Int32) (x3 : Int32) (x4 : Int32) : entryFrame m #[(.int x0), (.int x1), (.int x2), (.int x3), (.int x4)] maxLocals = mkF m 0 #[.val (.int x0), .val (.int x1), .val (.int x2), .val (.int x3), .val (.int x4), .unset, .unset, .unset, .unset, .unset, .unset, .unset, .unset, .unset, .unset, .unset, .unset, .unset, .unset, .unset, .unset, .unset, .unset, .unset, .unset, .unset, .unset, .unset, .unset, .unset, .unset, .unset, .unset] [] := by first | (simp [entryFrame, mkF, argsToLocals, Value.category, maxLocals]; done) | rfl
def ORd (Z : State) (h : Heap) (ed u ct gd px nx : Addr) (fu fc : Nat → UInt64) (fg fp fn : Nat → Int32) (nd : UInt64) : Prop :=
  Exa Z h ed "com/example/rankfold/rankfold/summaries/BucketEditor" ∧ Fld Z h ed "com/example/rankfold/rankfold/summaries/BucketEditor" "upper" "[D" (.ref u) ∧ Fld Z h ed "com/example/rankfold/rankfold/summaries/BucketEditor" "count" "[D" (.ref ct) ∧ Fld Z h ed "com/example/rankfold/rankfold/summaries/BucketEditor" "guarded" "[Z" (.ref gd) ∧ Fld Z h ed "com/example/rankfold/rankfold/summaries/BucketEditor" "previous" "[I" (.ref px) ∧ Fld Z h ed "com/example/rankfold/rankfold/summaries/BucketEditor" "next" "[I" (.ref nx) ∧ Fld Z h ed "com/example/rankfold/rankfold/summaries/BucketEditor" "n" "D" (.double nd) ∧ Fld Z h ed "com/example/rankfold/rankfold/summaries/BucketEditor" "smallestMagnitude" "D" (.double FP.dconst1) ∧ Fld Z h ed "com/example/rankfold/rankfold/summaries/BucketEditor" "splitFactor" "D" (.double 4613937818241073152) ∧ Fld Z h ed "com/example/rankfold/rankfold/summaries/BucketEditor" "maxBuckets" "I" (.int 4) ∧ OArr Z h u .double 4 (fun i => .double (fu i)) ∧ OArr Z h ct .double 4 (fun i => .double (fc i)) ∧ OArr Z h gd .boolean 4 (fun i => .int (fg i)) ∧ OArr Z h px .int 4 (fun i => .int (fp i)) ∧ OArr Z h nx .int 4 (fun i => .int (fn i))
theorem ORd.keep {Z : State} {h h' : Heap} {ws : List Addr} {ed u ct gd px nx : Addr} {fu fc : Nat → UInt64} {fg fp fn : Nat → Int32} {nd : UInt64} (F : ORd Z h ed u ct gd px nx fu fc fg fp fn nd) (K : Keep h h' ws) (n0 : ed ∉ ws) (n1 : u ∉ ws) (n2 : ct ∉ ws) (n3 : gd ∉ ws) (n4 : px ∉ ws) (n5 : nx ∉ ws) : ORd Z h' ed u ct gd px nx fu fc fg fp fn nd :=
  ⟨F.1.keep K, F.2.1.keep K n0, F.2.2.1.keep K n0, F.2.2.2.1.keep K n0, F.2.2.2.2.1.keep K n0, F.2.2.2.2.2.1.keep K n0, F.2.2.2.2.2.2.1.keep K n0, F.2.2.2.2.2.2.2.1.keep K n0, F.2.2.2.2.2.2.2.2.1.keep K n0, F.2.2.2.2.2.2.2.2.2.1.keep K n0, F.2.2.2.2.2.2.2.2.2.2.1.keep K n1, F.2.2.2.2.2.2.2.2.2.2.2.1.keep K n2, F.2.2.2.2.2.2.2.2.2.2.2.2.1.keep K n3, F.2.2.2.2.2.2.2.2.2.2.2.2.2.1.keep K n4, F.2.2.2.2.2.2.2.2.2.2.2.2.2.2.keep K n5⟩
def OT0 (Z : State) (h : Heap) (t mm k1 k2 ed : Addr) (M : Int64) (sz : Int32) : Prop :=
  Exa Z h t "com/example/rankfold/rankfold/summaries/Tournament" ∧ Fld Z h t "com/example/rankfold/rankfold/summaries/Tournament" "largestFirst" "Z" (.int 0) ∧ Fld Z h t "com/example/rankfold/rankfold/summaries/Tournament" "keyOf" "Ljava/util/function/IntToDoubleFunction;" (.ref k1) ∧ Fld Z h t "com/example/rankfold/rankfold/summaries/Tournament" "order" "Ljava/util/function/IntToDoubleFunction;" (.ref k2) ∧ Fld Z h t "com/example/rankfold/rankfold/summaries/Tournament" "capacity" "I" (.int 4) ∧ Fld Z h t "com/example/rankfold/rankfold/summaries/Tournament" "members" "[J" (.ref mm) ∧ Fld Z h t "com/example/rankfold/rankfold/summaries/Tournament" "size" "I" (.int sz) ∧ Fld Z h t "com/example/rankfold/rankfold/summaries/Tournament" "planted" "Z" (.int 0) ∧ Fld Z h t "com/example/rankfold/rankfold/summaries/Tournament" "blocks" "I" (.int 0) ∧ Fld Z h t "com/example/rankfold/rankfold/summaries/Tournament" "firsts" "[I" .null ∧ Fld Z h t "com/example/rankfold/rankfold/summaries/Tournament" "firstKeys" "[D" .null ∧ OArr Z h mm .long 1 (fun i => .long ((own_q1 M) i)) ∧ OLam Z h LJ.sg k1 ed ∧ OLam Z h LT.sg k2 ed
theorem OT0.keep {Z : State} {h h' : Heap} {ws : List Addr} {t mm k1 k2 ed : Addr} {M : Int64} {sz : Int32} (F : OT0 Z h t mm k1 k2 ed M sz) (K : Keep h h' ws) (n0 : t ∉ ws) (n1 : mm ∉ ws) (n2 : k1 ∉ ws) (n3 : k2 ∉ ws) : OT0 Z h' t mm k1 k2 ed M sz :=
  ⟨F.1.keep K, F.2.1.keep K n0, F.2.2.1.keep K n0, F.2.2.2.1.keep K n0, F.2.2.2.2.1.keep K n0, F.2.2.2.2.2.1.keep K n0, F.2.2.2.2.2.2.1.keep K n0, F.2.2.2.2.2.2.2.1.keep K n0, F.2.2.2.2.2.2.2.2.1.keep K n0, F.2.2.2.2.2.2.2.2.2.1.keep K n0, F.2.2.2.2.2.2.2.2.2.2.1.keep K n0, F.2.2.2.2.2.2.2.2.2.2.2.1.keep K n1, F.2.2.2.2.2.2.2.2.2.2.2.2.1.keep K n2, F.2.2.2.2.2.2.2.2.2.2.2.2.2.keep K n3⟩
def OTP (Z : State) (h : Heap) (t mm fa fk k1 k2 ed : Addr) (M : Int64) (sz pl r0 r : Int32) (d0 d : UInt64) : Prop :=
  Exa Z h t "com/example/rankfold/rankfold/summaries/Tournament" ∧ Fld Z h t "com/example/rankfold/rankfold/summaries/Tournament" "largestFirst" "Z" (.int 0) ∧ Fld Z h t "com/example/rankfold/rankfold/summaries/Tournament" "keyOf" "Ljava/util/function/IntToDoubleFunction;" (.ref k1) ∧ Fld Z h t "com/example/rankfold/rankfold/summaries/Tournament" "order" "Ljava/util/function/IntToDoubleFunction;" (.ref k2) ∧ Fld Z h t "com/example/rankfold/rankfold/summaries/Tournament" "capacity" "I" (.int 4) ∧ Fld Z h t "com/example/rankfold/rankfold/summaries/Tournament" "members" "[J" (.ref mm) ∧ Fld Z h t "com/example/rankfold/rankfold/summaries/Tournament" "size" "I" (.int sz) ∧ Fld Z h t "com/example/rankfold/rankfold/summaries/Tournament" "planted" "Z" (.int pl) ∧ Fld Z h t "com/example/rankfold/rankfold/summaries/Tournament" "blocks" "I" (.int 1) ∧ Fld Z h t "com/example/rankfold/rankfold/summaries/Tournament" "firsts" "[I" (.ref fa) ∧ Fld Z h t "com/example/rankfold/rankfold/summaries/Tournament" "firstKeys" "[D" (.ref fk) ∧ OArr Z h mm .long 1 (fun i => .long ((own_q1 M) i)) ∧ OLam Z h LJ.sg k1 ed ∧ OLam Z h LT.sg k2 ed ∧ OArr Z h fa .int 2 (fun i => .int ((own_q2 r0 r) i)) ∧ OArr Z h fk .double 2 (fun i => .double ((own_q2 d0 d) i))
theorem OTP.keep {Z : State} {h h' : Heap} {ws : List Addr} {t mm fa fk k1 k2 ed : Addr} {M : Int64} {sz pl r0 r : Int32} {d0 d : UInt64} (F : OTP Z h t mm fa fk k1 k2 ed M sz pl r0 r d0 d) (K : Keep h h' ws) (n0 : t ∉ ws) (n1 : mm ∉ ws) (n2 : k1 ∉ ws) (n3 : k2 ∉ ws) (n4 : fa ∉ ws) (n5 : fk ∉ ws) : OTP Z h' t mm fa fk k1 k2 ed M sz pl r0 r d0 d :=
  ⟨F.1.keep K, F.2.1.keep K n0, F.2.2.1.keep K n0, F.2.2.2.1.keep K n0, F.2.2.2.2.1.keep K n0, F.2.2.2.2.2.1.keep K n0, F.2.2.2.2.2.2.1.keep K n0, F.2.2.2.2.2.2.2.1.keep K n0, F.2.2.2.2.2.2.2.2.1.keep K n0, F.2.2.2.2.2.2.2.2.2.1.keep K n0, F.2.2.2.2.2.2.2.2.2.2.1.keep K n0, F.2.2.2.2.2.2.2.2.2.2.2.1.keep K n1, F.2.2.2.2.2.2.2.2.2.2.2.2.1.keep K n2, F.2.2.2.2.2.2.2.2.2.2.2.2.2.1.keep K n3, F.2.2.2.2.2.2.2.2.2.2.2.2.2.2.1.keep K n4, F.2.2.2.2.2.2.2.2.2.2.2.2.2.2.2.keep K n5⟩
def OTS (Z : State) (h : Heap) (t mm fa fk k1 k2 ed : Addr) (M : Int64) (sz pl : Int32) : Prop :=
  Exa Z h t "com/example/rankfold/rankfold/summaries/Tournament" ∧ Fld Z h t "com/example/rankfold/rankfold/summaries/Tournament" "largestFirst" "Z" (.int 0) ∧ Fld Z h t "com/example/rankfold/rankfold/summaries/Tournament" "keyOf" "Ljava/util/function/IntToDoubleFunction;" (.ref k1) ∧ Fld Z h t "com/example/rankfold/rankfold/summaries/Tournament" "order" "Ljava/util/function/IntToDoubleFunction;" (.ref k2) ∧ Fld Z h t "com/example/rankfold/rankfold/summaries/Tournament" "capacity" "I" (.int 4) ∧ Fld Z h t "com/example/rankfold/rankfold/summaries/Tournament" "members" "[J" (.ref mm) ∧ Fld Z h t "com/example/rankfold/rankfold/summaries/Tournament" "size" "I" (.int sz) ∧ Fld Z h t "com/example/rankfold/rankfold/summaries/Tournament" "planted" "Z" (.int pl) ∧ Fld Z h t "com/example/rankfold/rankfold/summaries/Tournament" "blocks" "I" (.int 1) ∧ Fld Z h t "com/example/rankfold/rankfold/summaries/Tournament" "firsts" "[I" (.ref fa) ∧ Fld Z h t "com/example/rankfold/rankfold/summaries/Tournament" "firstKeys" "[D" (.ref fk) ∧ OArr Z h mm .long 1 (fun i => .long ((own_q1 M) i)) ∧ OLam Z h LJ.sg k1 ed ∧ OLam Z h LT.sg k2 ed
theorem OTS.keep {Z : State} {h h' : Heap} {ws : List Addr} {t mm fa fk k1 k2 ed : Addr} {M : Int64} {sz pl : Int32} (F : OTS Z h t mm fa fk k1 k2 ed M sz pl) (K : Keep h h' ws) (n0 : t ∉ ws) (n1 : mm ∉ ws) (n2 : k1 ∉ ws) (n3 : k2 ∉ ws) : OTS Z h' t mm fa fk k1 k2 ed M sz pl :=
  ⟨F.1.keep K, F.2.1.keep K n0, F.2.2.1.keep K n0, F.2.2.2.1.keep K n0, F.2.2.2.2.1.keep K n0, F.2.2.2.2.2.1.keep K n0, F.2.2.2.2.2.2.1.keep K n0, F.2.2.2.2.2.2.2.1.keep K n0, F.2.2.2.2.2.2.2.2.1.keep K n0, F.2.2.2.2.2.2.2.2.2.1.keep K n0, F.2.2.2.2.2.2.2.2.2.2.1.keep K n0, F.2.2.2.2.2.2.2.2.2.2.2.1.keep K n1, F.2.2.2.2.2.2.2.2.2.2.2.2.1.keep K n2, F.2.2.2.2.2.2.2.2.2.2.2.2.2.keep K n3⟩
def ORf (Z : State) (h : Heap) (ed u ct gd px nx : Addr) (nd : UInt64) : Prop :=
  Exa Z h ed "com/example/rankfold/rankfold/summaries/BucketEditor" ∧ Fld Z h ed "com/example/rankfold/rankfold/summaries/BucketEditor" "upper" "[D" (.ref u) ∧ Fld Z h ed "com/example/rankfold/rankfold/summaries/BucketEditor" "count" "[D" (.ref ct) ∧ Fld Z h ed "com/example/rankfold/rankfold/summaries/BucketEditor" "guarded" "[Z" (.ref gd) ∧ Fld Z h ed "com/example/rankfold/rankfold/summaries/BucketEditor" "previous" "[I" (.ref px) ∧ Fld Z h ed "com/example/rankfold/rankfold/summaries/BucketEditor" "next" "[I" (.ref nx) ∧ Fld Z h ed "com/example/rankfold/rankfold/summaries/BucketEditor" "n" "D" (.double nd) ∧ Fld Z h ed "com/example/rankfold/rankfold/summaries/BucketEditor" "smallestMagnitude" "D" (.double FP.dconst1) ∧ Fld Z h ed "com/example/rankfold/rankfold/summaries/BucketEditor" "splitFactor" "D" (.double 4613937818241073152) ∧ Fld Z h ed "com/example/rankfold/rankfold/summaries/BucketEditor" "maxBuckets" "I" (.int 4)
theorem ORf.keep {Z : State} {h h' : Heap} {ws : List Addr} {ed u ct gd px nx : Addr} {nd : UInt64} (F : ORf Z h ed u ct gd px nx nd) (K : Keep h h' ws) (n0 : ed ∉ ws) : ORf Z h' ed u ct gd px nx nd :=
  ⟨F.1.keep K, F.2.1.keep K n0, F.2.2.1.keep K n0, F.2.2.2.1.keep K n0, F.2.2.2.2.1.keep K n0, F.2.2.2.2.2.1.keep K n0, F.2.2.2.2.2.2.1.keep K n0, F.2.2.2.2.2.2.2.1.keep K n0, F.2.2.2.2.2.2.2.2.1.keep K n0, F.2.2.2.2.2.2.2.2.2.keep K n0⟩
def ORe (Z : State) (h : Heap) (ed u ct gd px nx : Addr) (fu fc : Nat → UInt64) (fg : Nat → Int32) (nd : UInt64) : Prop :=
  Exa Z h ed "com/example/rankfold/rankfold/summaries/BucketEditor" ∧ Fld Z h ed "com/example/rankfold/rankfold/summaries/BucketEditor" "upper" "[D" (.ref u) ∧ Fld Z h ed "com/example/rankfold/rankfold/summaries/BucketEditor" "count" "[D" (.ref ct) ∧ Fld Z h ed "com/example/rankfold/rankfold/summaries/BucketEditor" "guarded" "[Z" (.ref gd) ∧ Fld Z h ed "com/example/rankfold/rankfold/summaries/BucketEditor" "previous" "[I" (.ref px) ∧ Fld Z h ed "com/example/rankfold/rankfold/summaries/BucketEditor" "next" "[I" (.ref nx) ∧ Fld Z h ed "com/example/rankfold/rankfold/summaries/BucketEditor" "n" "D" (.double nd) ∧ Fld Z h ed "com/example/rankfold/rankfold/summaries/BucketEditor" "smallestMagnitude" "D" (.double FP.dconst1) ∧ Fld Z h ed "com/example/rankfold/rankfold/summaries/BucketEditor" "splitFactor" "D" (.double 4613937818241073152) ∧ Fld Z h ed "com/example/rankfold/rankfold/summaries/BucketEditor" "maxBuckets" "I" (.int 4) ∧ OArr Z h u .double 4 (fun i => .double (fu i)) ∧ OArr Z h ct .double 4 (fun i => .double (fc i)) ∧ OArr Z h gd .boolean 4 (fun i => .int (fg i))
theorem ORe.keep {Z : State} {h h' : Heap} {ws : List Addr} {ed u ct gd px nx : Addr} {fu fc : Nat → UInt64} {fg : Nat → Int32} {nd : UInt64} (F : ORe Z h ed u ct gd px nx fu fc fg nd) (K : Keep h h' ws) (n0 : ed ∉ ws) (n1 : u ∉ ws) (n2 : ct ∉ ws) (n3 : gd ∉ ws) : ORe Z h' ed u ct gd px nx fu fc fg nd :=
  ⟨F.1.keep K, F.2.1.keep K n0, F.2.2.1.keep K n0, F.2.2.2.1.keep K n0, F.2.2.2.2.1.keep K n0, F.2.2.2.2.2.1.keep K n0, F.2.2.2.2.2.2.1.keep K n0, F.2.2.2.2.2.2.2.1.keep K n0, F.2.2.2.2.2.2.2.2.1.keep K n0, F.2.2.2.2.2.2.2.2.2.1.keep K n0, F.2.2.2.2.2.2.2.2.2.2.1.keep K n1, F.2.2.2.2.2.2.2.2.2.2.2.1.keep K n2, F.2.2.2.2.2.2.2.2.2.2.2.2.keep K n3⟩
def OEj (Z : State) (h : Heap) (ed : Addr) (sz : Int32) : Prop :=
  Fld Z h ed "com/example/rankfold/rankfold/summaries/BucketEditor" "freeSlot" "I" (.int (-1)) ∧ Fld Z h ed "com/example/rankfold/rankfold/summaries/BucketEditor" "size" "I" (.int sz) ∧ Fld Z h ed "com/example/rankfold/rankfold/summaries/BucketEditor" "joins" "Lcom/example/rankfold/rankfold/summaries/Tournament;" .null ∧ Fld Z h ed "com/example/rankfold/rankfold/summaries/BucketEditor" "anyJoins" "Lcom/example/rankfold/rankfold/summaries/Tournament;" .null ∧ Fld Z h ed "com/example/rankfold/rankfold/summaries/BucketEditor" "splits" "Lcom/example/rankfold/rankfold/summaries/Tournament;" .null
theorem OEj.keep {Z : State} {h h' : Heap} {ws : List Addr} {ed : Addr} {sz : Int32} (F : OEj Z h ed sz) (K : Keep h h' ws) (n0 : ed ∉ ws) : OEj Z h' ed sz :=
  ⟨F.1.keep K n0, F.2.1.keep K n0, F.2.2.1.keep K n0, F.2.2.2.1.keep K n0, F.2.2.2.2.keep K n0⟩
def OEw (Z : State) (h : Heap) (ed t : Addr) (sz : Int32) (aj : Value) : Prop :=
  Fld Z h ed "com/example/rankfold/rankfold/summaries/BucketEditor" "freeSlot" "I" (.int (-1)) ∧ Fld Z h ed "com/example/rankfold/rankfold/summaries/BucketEditor" "size" "I" (.int sz) ∧ Fld Z h ed "com/example/rankfold/rankfold/summaries/BucketEditor" "joins" "Lcom/example/rankfold/rankfold/summaries/Tournament;" (.ref t) ∧ Fld Z h ed "com/example/rankfold/rankfold/summaries/BucketEditor" "anyJoins" "Lcom/example/rankfold/rankfold/summaries/Tournament;" aj ∧ Fld Z h ed "com/example/rankfold/rankfold/summaries/BucketEditor" "splits" "Lcom/example/rankfold/rankfold/summaries/Tournament;" .null
theorem OEw.keep {Z : State} {h h' : Heap} {ws : List Addr} {ed t : Addr} {sz : Int32} {aj : Value} (F : OEw Z h ed t sz aj) (K : Keep h h' ws) (n0 : ed ∉ ws) : OEw Z h' ed t sz aj :=
  ⟨F.1.keep K n0, F.2.1.keep K n0, F.2.2.1.keep K n0, F.2.2.2.1.keep K n0, F.2.2.2.2.keep K n0⟩
def OWr (Z : State) (h : Heap) (ed u ct gd nx : Addr) (fu fc : Nat → UInt64) (fg fn : Nat → Int32) : Prop :=
  Exa Z h ed "com/example/rankfold/rankfold/summaries/BucketEditor" ∧ Fld Z h ed "com/example/rankfold/rankfold/summaries/BucketEditor" "upper" "[D" (.ref u) ∧ Fld Z h ed "com/example/rankfold/rankfold/summaries/BucketEditor" "count" "[D" (.ref ct) ∧ Fld Z h ed "com/example/rankfold/rankfold/summaries/BucketEditor" "guarded" "[Z" (.ref gd) ∧ Fld Z h ed "com/example/rankfold/rankfold/summaries/BucketEditor" "next" "[I" (.ref nx) ∧ OArr Z h u .double 4 (fun i => .double (fu i)) ∧ OArr Z h ct .double 4 (fun i => .double (fc i)) ∧ OArr Z h gd .boolean 4 (fun i => .int (fg i)) ∧ OArr Z h nx .int 4 (fun i => .int (fn i))
theorem OWr.keep {Z : State} {h h' : Heap} {ws : List Addr} {ed u ct gd nx : Addr} {fu fc : Nat → UInt64} {fg fn : Nat → Int32} (F : OWr Z h ed u ct gd nx fu fc fg fn) (K : Keep h h' ws) (n0 : ed ∉ ws) (n1 : u ∉ ws) (n2 : ct ∉ ws) (n3 : gd ∉ ws) (n4 : nx ∉ ws) : OWr Z h' ed u ct gd nx fu fc fg fn :=
  ⟨F.1.keep K, F.2.1.keep K n0, F.2.2.1.keep K n0, F.2.2.2.1.keep K n0, F.2.2.2.2.1.keep K n0, F.2.2.2.2.2.1.keep K n1, F.2.2.2.2.2.2.1.keep K n2, F.2.2.2.2.2.2.2.1.keep K n3, F.2.2.2.2.2.2.2.2.keep K n4⟩
def OE0 (Z : State) (h : Heap) (ed : Addr) : Prop :=
  Exa Z h ed "com/example/rankfold/rankfold/summaries/BucketEditor" ∧ Fld Z h ed "com/example/rankfold/rankfold/summaries/BucketEditor" "freeSlot" "I" (.int 0) ∧ Fld Z h ed "com/example/rankfold/rankfold/summaries/BucketEditor" "maxBuckets" "I" (.int 0) ∧ Fld Z h ed "com/example/rankfold/rankfold/summaries/BucketEditor" "n" "D" (.double 0) ∧ Fld Z h ed "com/example/rankfold/rankfold/summaries/BucketEditor" "smallestMagnitude" "D" (.double 0) ∧ Fld Z h ed "com/example/rankfold/rankfold/summaries/BucketEditor" "splitFactor" "D" (.double 0) ∧ Fld Z h ed "com/example/rankfold/rankfold/summaries/BucketEditor" "size" "I" (.int 0) ∧ Fld Z h ed "com/example/rankfold/rankfold/summaries/BucketEditor" "slots" "I" (.int 0) ∧ Fld Z h ed "com/example/rankfold/rankfold/summaries/BucketEditor" "upper" "[D" .null ∧ Fld Z h ed "com/example/rankfold/rankfold/summaries/BucketEditor" "count" "[D" .null ∧ Fld Z h ed "com/example/rankfold/rankfold/summaries/BucketEditor" "guarded" "[Z" .null ∧ Fld Z h ed "com/example/rankfold/rankfold/summaries/BucketEditor" "previous" "[I" .null ∧ Fld Z h ed "com/example/rankfold/rankfold/summaries/BucketEditor" "next" "[I" .null ∧ Fld Z h ed "com/example/rankfold/rankfold/summaries/BucketEditor" "joins" "Lcom/example/rankfold/rankfold/summaries/Tournament;" .null ∧ Fld Z h ed "com/example/rankfold/rankfold/summaries/BucketEditor" "anyJoins" "Lcom/example/rankfold/rankfold/summaries/Tournament;" .null ∧ Fld Z h ed "com/example/rankfold/rankfold/summaries/BucketEditor" "splits" "Lcom/example/rankfold/rankfold/summaries/Tournament;" .null
theorem OE0.keep {Z : State} {h h' : Heap} {ws : List Addr} {ed : Addr} (F : OE0 Z h ed) (K : Keep h h' ws) (n0 : ed ∉ ws) : OE0 Z h' ed :=
  ⟨F.1.keep K, F.2.1.keep K n0, F.2.2.1.keep K n0, F.2.2.2.1.keep K n0, F.2.2.2.2.1.keep K n0, F.2.2.2.2.2.1.keep K n0, F.2.2.2.2.2.2.1.keep K n0, F.2.2.2.2.2.2.2.1.keep K n0, F.2.2.2.2.2.2.2.2.1.keep K n0, F.2.2.2.2.2.2.2.2.2.1.keep K n0, F.2.2.2.2.2.2.2.2.2.2.1.keep K n0, F.2.2.2.2.2.2.2.2.2.2.2.1.keep K n0, F.2.2.2.2.2.2.2.2.2.2.2.2.1.keep K n0, F.2.2.2.2.2.2.2.2.2.2.2.2.2.1.keep K n0, F.2.2.2.2.2.2.2.2.2.2.2.2.2.2.1.keep K n0, F.2.2.2.2.2.2.2.2.2.2.2.2.2.2.2.keep K n0⟩
def OT9 (Z : State) (h : Heap) (t : Addr) : Prop :=
  Exa Z h t "com/example/rankfold/rankfold/summaries/Tournament" ∧ Fld Z h t "com/example/rankfold/rankfold/summaries/Tournament" "largestFirst" "Z" (.int 0) ∧ Fld Z h t "com/example/rankfold/rankfold/summaries/Tournament" "keyOf" "Ljava/util/function/IntToDoubleFunction;" .null ∧ Fld Z h t "com/example/rankfold/rankfold/summaries/Tournament" "order" "Ljava/util/function/IntToDoubleFunction;" .null ∧ Fld Z h t "com/example/rankfold/rankfold/summaries/Tournament" "capacity" "I" (.int 0) ∧ Fld Z h t "com/example/rankfold/rankfold/summaries/Tournament" "members" "[J" .null ∧ Fld Z h t "com/example/rankfold/rankfold/summaries/Tournament" "size" "I" (.int 0) ∧ Fld Z h t "com/example/rankfold/rankfold/summaries/Tournament" "planted" "Z" (.int 0) ∧ Fld Z h t "com/example/rankfold/rankfold/summaries/Tournament" "blocks" "I" (.int 0) ∧ Fld Z h t "com/example/rankfold/rankfold/summaries/Tournament" "firsts" "[I" .null ∧ Fld Z h t "com/example/rankfold/rankfold/summaries/Tournament" "firstKeys" "[D" .null
theorem OT9.keep {Z : State} {h h' : Heap} {ws : List Addr} {t : Addr} (F : OT9 Z h t) (K : Keep h h' ws) (n0 : t ∉ ws) : OT9 Z h' t :=
  ⟨F.1.keep K, F.2.1.keep K n0, F.2.2.1.keep K n0, F.2.2.2.1.keep K n0, F.2.2.2.2.1.keep K n0, F.2.2.2.2.2.1.keep K n0, F.2.2.2.2.2.2.1.keep K n0, F.2.2.2.2.2.2.2.1.keep K n0, F.2.2.2.2.2.2.2.2.1.keep K n0, F.2.2.2.2.2.2.2.2.2.1.keep K n0, F.2.2.2.2.2.2.2.2.2.2.keep K n0⟩
def own_n1 : Nat → Int32 := own_q4 (-1) (0) (0) (0)
def own_p1 : Nat → Int32 := own_q4 (-1) (0) (0) (0)
def own_n2 : Nat → Int32 := own_q4 (1) (-1) (0) (0)
def own_p2 : Nat → Int32 := own_q4 (-1) (0) (0) (0)
def own_n3 : Nat → Int32 := own_q4 (1) (2) (-1) (0)
def own_p3 : Nat → Int32 := own_q4 (-1) (0) (1) (0)
def own_n4 : Nat → Int32 := own_q4 (1) (2) (3) (-1)
def own_p4 : Nat → Int32 := own_q4 (-1) (0) (1) (2)
def own_nJ : Nat → Int32 := own_q4 (2) (-1) (-1) (0)
def own_pJ : Nat → Int32 := own_q4 (-1) (-2) (0) (0)
set_option maxRecDepth 65536 in
set_option maxHeartbeats 40000000 in
theorem rmMaxI (l : Launch) (Z : State) (a0 : Array Value) (hw : ∀ d ∈ tables_1, d.before a0 Z = true) (q1 : Int32) (q2 : Int32) (h0 : Heap)  :
    OMet l Z yN8 jdk_29_method_65_code 2 (some .int) (⟨0, 0, 0, 0⟩ : Room) #[(.int q1), (.int q2)] h0 (fun v h L => v = some (.int (own_maxI q1 q2)) ∧ h = h0 ∧ L = []) := by
  refine own_enter own_pn8 ?_
  intro p e s m below meth c T0 X0 hC e0 hnamed
  have hC0 := hC
  obtain ⟨hx, hZH, hby, hml, hown, hret, hlk, hnm⟩ := hC
  have hZ := hZH.wide
  have hown : s.vm.findClass "java/lang/Math" = some m.cls := hown
  refine own_at (own_ef8_II m q1 q2) ?_
  have hd := D8.to hby
  refine pI X0 hx (hd.at 0 rfl) rfl ?_
  refine pI X0 hx (hd.at 1 rfl) rfl ?_
  by_cases c1 : q1 < q2
  · refine pcY X0 hx 9 (hd.at 2 rfl) ((tlt c1).1) ?_
    refine pI X0 hx (hd.at 3 rfl) rfl ?_
    exact own_ret X0 hx (t := .int) hret hlk rfl (Or.inl ⟨rfl, by simp, _, rfl⟩) (hd.at 4 rfl) (by decide) (by decide) ⟨by simp only [own_maxI, c1, if_true, if_false], e0, rfl⟩
  · refine pcN X0 hx (hd.at 2 rfl) ((flt c1).1) ?_
    refine pI X0 hx (hd.at 5 rfl) rfl ?_
    refine pG X0 hx 10 (hd.at 6 rfl) ?_
    exact own_ret X0 hx (t := .int) hret hlk rfl (Or.inl ⟨rfl, by simp, _, rfl⟩) (hd.at 4 rfl) (by decide) (by decide) ⟨by simp only [own_maxI, c1, if_true, if_false], e0, rfl⟩
set_option maxRecDepth 65536 in
set_option maxHeartbeats 40000000 in
theorem rmMinJ (l : Launch) (Z : State) (a0 : Array Value) (hw : ∀ d ∈ tables_1, d.before a0 Z = true) (q1 : Int64) (q2 : Int64) (h0 : Heap)  :
    OMet l Z yN10 jdk_29_method_70_code 4 (some .long) (⟨0, 0, 0, 0⟩ : Room) #[(.long q1), (.long q2)] h0 (fun v h L => v = some (.long (own_minJ q1 q2)) ∧ h = h0 ∧ L = []) := by
  refine own_enter own_pn10 ?_
  intro p e s m below meth c T0 X0 hC e0 hnamed
  have hC0 := hC
  obtain ⟨hx, hZH, hby, hml, hown, hret, hlk, hnm⟩ := hC
  have hZ := hZH.wide
  have hown : s.vm.findClass "java/lang/Math" = some m.cls := hown
  refine own_at (own_ef10_JJ m q1 q2) ?_
  have hd := D10.to hby
  refine pL (fun _ kS => XS.lloadN X0.here hx rfl (hd.at 0 rfl) rfl kS) ?_
  refine pL (fun _ kS => XS.lloadN X0.here hx rfl (hd.at 1 rfl) rfl kS) ?_
  refine pR (fun _ kS => XS.lcmp X0.here hx rfl (hd.at 2 rfl) rfl kS) ?_
  by_cases c1 : (0 : Int32) < (lcmpW q1 q2)
  · refine pfY X0 hx 10 (hd.at 3 rfl) ((if0 _ _).trans (tlt c1).2.2.1) ?_
    refine pL (fun _ kS => XS.lloadN X0.here hx rfl (hd.at 4 rfl) rfl kS) ?_
    exact own_ret X0 hx (t := .long) hret hlk rfl (Or.inr (Or.inl ⟨rfl, rfl, _, rfl⟩)) (hd.at 5 rfl) (by decide) (by decide) ⟨by simp only [own_minJ, c1, if_true, if_false], e0, rfl⟩
  · refine pfN X0 hx (hd.at 3 rfl) ((if0 _ _).trans (flt c1).2.2.1) ?_
    refine pL (fun _ kS => XS.lloadN X0.here hx rfl (hd.at 6 rfl) rfl kS) ?_
    refine pG X0 hx 11 (hd.at 7 rfl) ?_
    exact own_ret X0 hx (t := .long) hret hlk rfl (Or.inr (Or.inl ⟨rfl, rfl, _, rfl⟩)) (hd.at 5 rfl) (by decide) (by decide) ⟨by simp only [own_minJ, c1, if_true, if_false], e0, rfl⟩
set_option maxRecDepth 65536 in
set_option maxHeartbeats 40000000 in
theorem rmNaN (l : Launch) (Z : State) (a0 : Array Value) (hw : ∀ d ∈ tables_1, d.before a0 Z = true) (d1 : UInt64) (h0 : Heap)  :
    OMet l Z yN32 jdk_117_method_6_code 2 (some .boolean) (⟨0, 0, 0, 0⟩ : Room) #[(.double d1)] h0 (fun v h L => (∃ r : Int32, v = some (.int r)) ∧ h = h0 ∧ L = []) := by
  refine own_enter own_pn32 ?_
  intro p e s m below meth c T0 X0 hC e0 hnamed
  have hC0 := hC
  obtain ⟨hx, hZH, hby, hml, hown, hret, hlk, hnm⟩ := hC
  have hZ := hZH.wide
  have hown : s.vm.findClass "java/lang/Double" = some m.cls := hown
  refine own_at (own_ef32_D m d1) ?_
  have hd := D32.to hby
  refine pD X0 hx (hd.at 0 rfl) rfl ?_
  refine pD X0 hx (hd.at 1 rfl) rfl ?_
  refine o_dcmpl X0 hx (hd.at 2 rfl) ?_
  by_cases c1 : (cmpValue (FP.dcmp d1 d1) .l) = (0 : Int32)
  · refine pfY X0 hx 10 (hd.at 3 rfl) ((if0 _ _).trans (teq c1).1) ?_
    refine pC X0 hx 0 (hd.at 4 rfl) rfl ?_
    exact own_ret X0 hx (t := .boolean) hret hlk rfl (Or.inl ⟨rfl, by simp, _, rfl⟩) (hd.at 5 rfl) (by decide) (by decide) ⟨⟨_, rfl⟩, e0, rfl⟩
  · refine pfN X0 hx (hd.at 3 rfl) ((if0 _ _).trans (feq c1).1) ?_
    refine pC X0 hx 1 (hd.at 6 rfl) rfl ?_
    refine pG X0 hx 11 (hd.at 7 rfl) ?_
    exact own_ret X0 hx (t := .boolean) hret hlk rfl (Or.inl ⟨rfl, by simp, _, rfl⟩) (hd.at 5 rfl) (by decide) (by decide) ⟨⟨_, rfl⟩, e0, rfl⟩
set_option maxRecDepth 65536 in
set_option maxHeartbeats 40000000 in
theorem rmThr (l : Launch) (Z : State) (a0 : Array Value) (hw : ∀ d ∈ tables_1, d.before a0 Z = true) (ed : Addr) (q : Int32) (h0 : Heap) (u ct gd px nx : Addr) (fu fc : Nat → UInt64) (fg : Nat → Int32) (nd : UInt64) (fp fn : Nat → Int32) (k : Nat) (B : ORd Z h0 ed u ct gd px nx fu fc fg fp fn nd) (hq0 : ¬ q < 0) (hqk : q.toNatClampNeg = k) (hk : k < 4) :
    OMet l Z yN33 prog_72_method_23_code 2 (some .double) (⟨0, 0, 0, 0⟩ : Room) #[(.ref ed), (.int q)] h0 (fun v h L => (∃ w, v = some (.double w) ∧ True) ∧ h = h0 ∧ L = []) := by
  refine own_enter own_pn33 ?_
  intro p e s m below meth c T0 X0 hC e0 hnamed
  have hC0 := hC
  obtain ⟨hx, hZH, hby, hml, hown, hret, hlk, hnm⟩ := hC
  have hZ := hZH.wide
  have hown : s.vm.findClass "com/example/rankfold/rankfold/summaries/BucketEditor" = some m.cls := hown
  refine own_at (own_ef33_RI m ed q) ?_
  have hd := D33.to hby
  obtain ⟨u1, u2, u3, u4, u5, u6, u7, u8, u9, u10, u11, u12, u13, u14, u15⟩ := id B
  refine pA X0 hx (hd.at 0 rfl) rfl rfl ?_
  refine pF X0 hx hZ hown (wd hw 29 rfl) e0 u2 (hd.at 1 rfl) fun T16 X16 e16 => ?_
  refine pI X16 hx (hd.at 2 rfl) rfl ?_
  refine rD X16 hx hZ e16 u11 k (.double (fu k)) rfl (hd.at 3 rfl) ?_ hq0 hqk hk
  exact own_ret X16 hx (t := .double) hret hlk rfl (Or.inr (Or.inr (Or.inl ⟨rfl, rfl, _, rfl⟩))) (hd.at 4 rfl) (by decide) (by decide) ⟨⟨_, rfl, trivial⟩, e16, rfl⟩
set_option maxRecDepth 65536 in
set_option maxHeartbeats 40000000 in
theorem rmSpan (l : Launch) (Z : State) (a0 : Array Value) (hw : ∀ d ∈ tables_1, d.before a0 Z = true) (d1 : UInt64) (d2 : UInt64) (h0 : Heap) (hL : OLen (FP.dsub d2 d1)) :
    OMet l Z yN18 prog_81_method_6_code 4 (some .double) (⟨1, 0, 0, 15⟩ : Room) #[(.double d1), (.double d2)] h0 (fun v h L => v = some (.double (FP.dsub d2 d1)) ∧ h = h0 ∧ L = []) := by
  refine own_enter own_pn18 ?_
  intro p e s m below meth c T0 X0 hC e0 hnamed
  have hC0 := hC
  obtain ⟨hx, hZH, hby, hml, hown, hret, hlk, hnm⟩ := hC
  have hZ := hZH.wide
  have hown : s.vm.findClass "com/example/rankfold/rankfold/summaries/SplineCurve" = some m.cls := hown
  refine own_at (own_ef18_DD m d1 d2) ?_
  have hd := D18.to hby
  refine pD X0 hx (hd.at 0 rfl) rfl ?_
  refine pD X0 hx (hd.at 1 rfl) rfl ?_
  refine pR (fun _ kS => Jvm.Free.XS.dsubS X0.here hx rfl (v := (FP.dsub d2 d1)) (hd.at 2 rfl) rfl hL.no rfl kS) ?_
  refine pL (X0.ldc2DoubleC hx hown (mvT hZ (wd hw 143 rfl)) rfl (hd.at 3 rfl)) ?_
  refine pg1 (own_mathB X0 hx hZ (y := Jvm.Free.Fl.Abs.minDN) (bytes := Jvm.Free.Fl.Abs.minDCode) (maxL := 4) (W := 0) (argsL := [(.double (FP.dsub d2 d1)), (.double 9209861237972664319)]) (rest := []) (w := (FP.dsub d2 d1)) hown (wd hw 144 rfl) (wd hw 145 rfl) (wd hw 86 rfl) (wd hw 146 rfl) (fun hc => Jvm.Free.Fl.Abs.minD_pays (W := 0) (FP.dsub d2 d1) (9209861237972664319 : UInt64) hc (by decide) (by decide)) (fun _ _ _ _ q => by rw [own_min hL] at q; exact q) e0 rfl (by rw [hml]; rfl) (lenOf own_pd0 rfl) rfl (by exact Nat.le_of_eq rfl) (hd.at 4 rfl) (fun _ => ⟨Nat.zero_le _, Nat.zero_le _, rfl, hL.no, own_bigno⟩)) fun T1 X1 e1 => ?_
  exact own_ret X1 hx (t := .double) hret hlk rfl (Or.inr (Or.inr (Or.inl ⟨rfl, rfl, _, rfl⟩))) (hd.at 5 rfl) (by decide) (by decide) ⟨rfl, e1, rfl⟩
theorem own_mul {Ka Kb K : Nat} {a b : UInt64} (ha : Mag64 Ka a) (hb : Mag64 Kb b) (h : Ka + Kb - 1025 + 3 ≤ K) (hKa : Ka ≤ 2047) (hKb : Kb ≤ 2047) : Mag64 K (FP.dmul a b) := (Jvm.Free.Fl.dmul_mag ha hb hKa hKb).mono h
theorem own_c12 : Mag64 1062 (4487126258331716666 : UInt64) := by unfold Mag64; decide +kernel
theorem own_c1 : Mag64 1062 FP.dconst1 := by unfold Mag64; decide +kernel
theorem own_c0 : Mag64 1062 FP.dconst0 := by unfold Mag64; decide +kernel
theorem own_c3 : Mag64 1025 (4613937818241073152 : UInt64) := by unfold Mag64; decide +kernel
theorem own_c34 : Mag64 1025 (4604930618986332160 : UInt64) := by unfold Mag64; decide +kernel
set_option maxRecDepth 65536 in
set_option maxHeartbeats 40000000 in
theorem rmSP (l : Launch) (Z : State) (a0 : Array Value) (hw : ∀ d ∈ tables_1, d.before a0 Z = true) (d1 : UInt64) (d2 : UInt64) (d3 : UInt64) (h0 : Heap) (m1 : Mag64 1062 d1) (m2 : Mag64 1062 d2) (m3 : Mag64 1062 d3) (hL : OLen (FP.dsub d2 d1)) :
    OMet l Z yN23 prog_81_method_4_code 8 (some .boolean) (⟨2, 0, 0, 30⟩ : Room) #[(.double d1), (.double d2), (.double d3)] h0 (fun v h L => (∃ r : Int32, v = some (.int r)) ∧ h = h0 ∧ L = []) := by
  refine own_enter own_pn23 ?_
  intro p e s m below meth c T0 X0 hC e0 hnamed
  have hC0 := hC
  obtain ⟨hx, hZH, hby, hml, hown, hret, hlk, hnm⟩ := hC
  have hZ := hZH.wide
  have hown : s.vm.findClass "com/example/rankfold/rankfold/summaries/SplineCurve" = some m.cls := hown
  refine own_at (own_ef23_DDD m d1 d2 d3) ?_
  have hd := D23.to hby
  refine pD X0 hx (hd.at 0 rfl) rfl ?_
  refine pg1 (own_mathB X0 hx hZ (y := Jvm.Free.Fl.Abs.absDN) (bytes := Jvm.Free.Fl.Abs.absDCode) (maxL := 2) (W := 0) (argsL := [(.double d1)]) (rest := []) (w := (d1 &&& (0x7fffffffffffffff : UInt64))) hown (wd hw 161 rfl) (wd hw 156 rfl) (wd hw 86 rfl) (wd hw 157 rfl) (fun hc => Jvm.Free.Fl.Abs.absD_pays (W := 0) d1 hc (by decide) (by decide)) (fun _ _ _ _ q => q) e0 rfl (by rw [hml]; rfl) (lenOf own_pd1 rfl) rfl (by exact Nat.le_of_eq rfl) (hd.at 1 rfl) (fun _ => ⟨Nat.zero_le _, Nat.zero_le _, rfl, own_mn m1⟩)) fun T1 X1 e1 => ?_
  have mg_da : Mag64 1062 (d1 &&& (0x7fffffffffffffff : UInt64)) := own_ab m1
  generalize (d1 &&& (0x7fffffffffffffff : UInt64)) = da at mg_da ⊢
  refine pD X1 hx (hd.at 2 rfl) rfl ?_
  refine pg1 (own_mathB X1 hx hZ (y := Jvm.Free.Fl.Abs.absDN) (bytes := Jvm.Free.Fl.Abs.absDCode) (maxL := 2) (W := 2) (argsL := [(.double d2)]) (rest := [(.double da)]) (w := (d2 &&& (0x7fffffffffffffff : UInt64))) hown (wd hw 161 rfl) (wd hw 156 rfl) (wd hw 86 rfl) (wd hw 157 rfl) (fun hc => Jvm.Free.Fl.Abs.absD_pays (W := 2) d2 hc (by decide) (by decide)) (fun _ _ _ _ q => q) e1 rfl (by rw [hml]; rfl) (lenOf own_pd1 rfl) rfl (by exact Nat.le_of_eq rfl) (hd.at 3 rfl) (fun _ => ⟨Nat.zero_le _, Nat.zero_le _, rfl, own_mn m2⟩)) fun T2 X2 e2 => ?_
  have mg_db : Mag64 1062 (d2 &&& (0x7fffffffffffffff : UInt64)) := own_ab m2
  generalize (d2 &&& (0x7fffffffffffffff : UInt64)) = db at mg_db ⊢
  refine pg1 (own_mathB X2 hx hZ (y := Jvm.Free.Fl.Abs.maxDN) (bytes := Jvm.Free.Fl.Abs.maxDCode) (maxL := 4) (W := 0) (argsL := [(.double da), (.double db)]) (rest := []) (w := (Native.java_lang_Math.nans.pick64 true da db)) hown (wd hw 162 rfl) (wd hw 163 rfl) (wd hw 86 rfl) (wd hw 164 rfl) (fun hc => Jvm.Free.Fl.Abs.maxD_pays (W := 0) da db hc (by decide) (by decide)) (fun _ _ _ _ q => q) e2 rfl (by rw [hml]; rfl) (lenOf own_pd0 rfl) rfl (by exact Nat.le_of_eq rfl) (hd.at 4 rfl) (fun _ => ⟨Nat.zero_le _, Nat.zero_le _, rfl, own_mn mg_da, own_mn mg_db⟩)) fun T3 X3 e3 => ?_
  have mg_dd : Mag64 1062 (Native.java_lang_Math.nans.pick64 true da db) := own_pk mg_da mg_db
  generalize (Native.java_lang_Math.nans.pick64 true da db) = dd at mg_dd ⊢
  refine pd X3 hx (hd.at 5 rfl) rfl ?_
  refine pg1 (own_mathB X3 hx hZ (y := Jvm.Free.Fl.Abs.maxDN) (bytes := Jvm.Free.Fl.Abs.maxDCode) (maxL := 4) (W := 0) (argsL := [(.double dd), (.double d3)]) (rest := []) (w := (Native.java_lang_Math.nans.pick64 true dd d3)) hown (wd hw 162 rfl) (wd hw 163 rfl) (wd hw 86 rfl) (wd hw 164 rfl) (fun hc => Jvm.Free.Fl.Abs.maxD_pays (W := 0) dd d3 hc (by decide) (by decide)) (fun _ _ _ _ q => q) e3 rfl (by rw [hml]; rfl) (lenOf own_pd0 rfl) rfl (by exact Nat.le_of_eq rfl) (hd.at 6 rfl) (fun _ => ⟨Nat.zero_le _, Nat.zero_le _, rfl, own_mn mg_dd, own_mn m3⟩)) fun T4 X4 e4 => ?_
  have mg_dx : Mag64 1062 (Native.java_lang_Math.nans.pick64 true dd d3) := own_pk mg_dd m3
  generalize (Native.java_lang_Math.nans.pick64 true dd d3) = dx at mg_dx ⊢
  refine pt X4 hx #[.val (.double d1), .second, .val (.double d2), .second, .val (.double d3), .second, .val (.double dx), .second] (hd.at 7 rfl) rfl ?_
  refine pD X4 hx (hd.at 8 rfl) rfl ?_
  refine pD X4 hx (hd.at 9 rfl) rfl ?_
  refine pgP (own_static X4 hx hZ (y := yN18) (rm := ⟨1, 0, 0, 15⟩) (W := 0) (argsL := [(.double d1), (.double d2)]) (rest := []) hown (wd hw 165 rfl) (wd hw 140 rfl) (wd hw 141 rfl) (wd hw 142 rfl) (rmSpan l Z a0 hw d1 d2 h0 hL) e4 rfl (by rw [hml]; rfl) (lenOf own_pd0 rfl) rfl (by exact Nat.le_of_eq rfl) (hd.at 10 rfl) (by decide) (by decide) (by decide) (by decide)) fun T5 X5 e5 => ?_
  refine pL (X5.ldc2DoubleC hx hown (mvT hZ (wd hw 166 rfl)) rfl (hd.at 11 rfl)) ?_
  refine pd X5 hx (hd.at 12 rfl) rfl ?_
  have mg_dy : Mag64 1102 (FP.dmul (4487126258331716666 : UInt64) dx) := own_mul own_c12 mg_dx (by decide) (by decide) (by decide)
  refine pR (fun _ kS => Jvm.Free.XS.dmulS X5.here hx rfl (v := (FP.dmul (4487126258331716666 : UInt64) dx)) (hd.at 13 rfl) rfl (own_mn mg_dy) rfl kS) ?_
  generalize (FP.dmul (4487126258331716666 : UInt64) dx) = dy at mg_dy ⊢
  refine pR (own_dcmpg X5 hx rfl (hd.at 14 rfl) rfl) ?_
  by_cases c1 : (cmpValue (FP.dcmp (FP.dsub d2 d1) dy) .g) < (0 : Int32)
  · refine pfN X5 hx (hd.at 15 rfl) ((if0 _ _).trans (tlt c1).2.1) ?_
    refine pC X5 hx 1 (hd.at 16 rfl) rfl ?_
    refine pG X5 hx 38 (hd.at 17 rfl) ?_
    exact own_ret X5 hx (t := .boolean) hret hlk rfl (Or.inl ⟨rfl, by simp, _, rfl⟩) (hd.at 18 rfl) (by decide) (by decide) ⟨⟨_, rfl⟩, e5, rfl⟩
  · refine pfY X5 hx 37 (hd.at 15 rfl) ((if0 _ _).trans (flt c1).2.1) ?_
    refine pC X5 hx 0 (hd.at 19 rfl) rfl ?_
    exact own_ret X5 hx (t := .boolean) hret hlk rfl (Or.inl ⟨rfl, by simp, _, rfl⟩) (hd.at 18 rfl) (by decide) (by decide) ⟨⟨_, rfl⟩, e5, rfl⟩
set_option maxRecDepth 65536 in
set_option maxHeartbeats 40000000 in
theorem rmIP0 (l : Launch) (Z : State) (a0 : Array Value) (hw : ∀ d ∈ tables_1, d.before a0 Z = true) (ed : Addr) (h0 : Heap)  :
    OMet l Z yN21 prog_72_method_22_code 2 (some .boolean) (⟨3, 0, 0, 49⟩ : Room) #[(.ref ed), (.int 0)] h0 (fun v h L => v = some (.int (1 : Int32)) ∧ h = h0 ∧ L = []) := by
  refine own_enter own_pn21 ?_
  intro p e s m below meth c T0 X0 hC e0 hnamed
  have hC0 := hC
  obtain ⟨hx, hZH, hby, hml, hown, hret, hlk, hnm⟩ := hC
  have hZ := hZH.wide
  have hown : s.vm.findClass "com/example/rankfold/rankfold/summaries/BucketEditor" = some m.cls := hown
  refine own_at (own_ef21_RI m ed (0 : Int32)) ?_
  have hd := D21.to hby
  refine pI X0 hx (hd.at 0 rfl) rfl ?_
  refine pfY X0 hx 31 (hd.at 1 rfl) ((if0 _ _).trans (teq rfl).1) ?_
  refine pC X0 hx 1 (hd.at 2 rfl) rfl ?_
  refine pG X0 hx 36 (hd.at 3 rfl) ?_
  exact own_ret X0 hx (t := .boolean) hret hlk rfl (Or.inl ⟨rfl, by simp, _, rfl⟩) (hd.at 4 rfl) (by decide) (by decide) ⟨rfl, e0, rfl⟩
set_option maxRecDepth 65536 in
set_option maxHeartbeats 40000000 in
theorem rmIP1 (l : Launch) (Z : State) (a0 : Array Value) (hw : ∀ d ∈ tables_1, d.before a0 Z = true) (ed : Addr) (h0 : Heap) (u ct gd px nx : Addr) (fu fc : Nat → UInt64) (fg : Nat → Int32) (nd : UInt64) (B : ORd Z h0 ed u ct gd px nx fu fc fg own_p4 own_n4 nd) (hU : OUp fu) (hN : OCn fc) (hD : Mag64 1088 nd)  :
    OMet l Z yN21 prog_72_method_22_code 2 (some .boolean) (⟨3, 0, 0, 49⟩ : Room) #[(.ref ed), (.int 1)] h0 (fun v h L => (∃ r : Int32, v = some (.int r)) ∧ h = h0 ∧ L = []) := by
  refine own_enter own_pn21 ?_
  intro p e s m below meth c T0 X0 hC e0 hnamed
  have hC0 := hC
  obtain ⟨hx, hZH, hby, hml, hown, hret, hlk, hnm⟩ := hC
  have hZ := hZH.wide
  have hown : s.vm.findClass "com/example/rankfold/rankfold/summaries/BucketEditor" = some m.cls := hown
  refine own_at (own_ef21_RI m ed (1 : Int32)) ?_
  have hd := D21.to hby
  obtain ⟨u1, u2, u3, u4, u5, u6, u7, u8, u9, u10, u11, u12, u13, u14, u15⟩ := id B
  refine pI X0 hx (hd.at 0 rfl) rfl ?_
  refine pfN X0 hx (hd.at 1 rfl) ((if0 _ _).trans (feq (by decide)).1) ?_
  refine pA X0 hx (hd.at 5 rfl) rfl rfl ?_
  refine pF X0 hx hZ hown (wd hw 29 rfl) e0 u2 (hd.at 6 rfl) fun T16 X16 e16 => ?_
  refine pA X16 hx (hd.at 7 rfl) rfl rfl ?_
  refine pF X16 hx hZ hown (wd hw 36 rfl) e16 u5 (hd.at 8 rfl) fun T17 X17 e17 => ?_
  refine pI X17 hx (hd.at 9 rfl) rfl ?_
  refine rI X17 hx hZ e17 u14 1 (.int 0) rfl (hd.at 10 rfl) ?_
  refine rD X17 hx hZ e17 u11 0 (.double (fu 0)) rfl (hd.at 11 rfl) ?_
  refine pA X17 hx (hd.at 12 rfl) rfl rfl ?_
  refine pF X17 hx hZ hown (wd hw 29 rfl) e17 u2 (hd.at 13 rfl) fun T18 X18 e18 => ?_
  refine pI X18 hx (hd.at 14 rfl) rfl ?_
  refine rD X18 hx hZ e18 u11 1 (.double (fu 1)) rfl (hd.at 15 rfl) ?_
  refine pA X18 hx (hd.at 16 rfl) rfl rfl ?_
  refine pF X18 hx hZ hown (wd hw 21 rfl) e18 u8 (hd.at 17 rfl) fun T19 X19 e19 => ?_
  refine pgF (own_static X19 hx hZ (y := yN23) (rm := ⟨2, 0, 0, 30⟩) (W := 0) (argsL := [(.double (fu 0)), (.double (fu 1)), (.double FP.dconst1)]) (rest := []) hown (wd hw 158 rfl) (wd hw 159 rfl) (wd hw 141 rfl) (wd hw 160 rfl) (rmSP l Z a0 hw (fu 0) (fu 1) FP.dconst1 h0 (hU.1 0 (by decide)) (hU.1 1 (by decide)) own_c1 (hU.2 0 1 (by decide) (by decide))) e19 rfl (by rw [hml]; rfl) (lenOf own_pd2 rfl) rfl (by exact Nat.le_of_eq rfl) (hd.at 18 rfl) (by decide) (by decide) (by decide) (by decide)) fun rv20 T21 X21 e21 => ?_
  by_cases c1 : rv20 = (0 : Int32)
  · refine pfY X21 hx 35 (hd.at 19 rfl) ((if0 _ _).trans (teq c1).1) ?_
    refine pC X21 hx 0 (hd.at 20 rfl) rfl ?_
    exact own_ret X21 hx (t := .boolean) hret hlk rfl (Or.inl ⟨rfl, by simp, _, rfl⟩) (hd.at 4 rfl) (by decide) (by decide) ⟨⟨_, rfl⟩, e21, rfl⟩
  · refine pfN X21 hx (hd.at 19 rfl) ((if0 _ _).trans (feq c1).1) ?_
    refine pC X21 hx 1 (hd.at 2 rfl) rfl ?_
    refine pG X21 hx 36 (hd.at 3 rfl) ?_
    exact own_ret X21 hx (t := .boolean) hret hlk rfl (Or.inl ⟨rfl, by simp, _, rfl⟩) (hd.at 4 rfl) (by decide) (by decide) ⟨⟨_, rfl⟩, e21, rfl⟩
set_option maxRecDepth 65536 in
set_option maxHeartbeats 40000000 in
theorem rmIP3 (l : Launch) (Z : State) (a0 : Array Value) (hw : ∀ d ∈ tables_1, d.before a0 Z = true) (ed : Addr) (h0 : Heap) (u ct gd px nx : Addr) (fu fc : Nat → UInt64) (fg : Nat → Int32) (nd : UInt64) (B : ORd Z h0 ed u ct gd px nx fu fc fg own_p4 own_n4 nd) (hU : OUp fu) (hN : OCn fc) (hD : Mag64 1088 nd)  :
    OMet l Z yN21 prog_72_method_22_code 2 (some .boolean) (⟨3, 0, 0, 49⟩ : Room) #[(.ref ed), (.int 3)] h0 (fun v h L => (∃ r : Int32, v = some (.int r)) ∧ h = h0 ∧ L = []) := by
  refine own_enter own_pn21 ?_
  intro p e s m below meth c T0 X0 hC e0 hnamed
  have hC0 := hC
  obtain ⟨hx, hZH, hby, hml, hown, hret, hlk, hnm⟩ := hC
  have hZ := hZH.wide
  have hown : s.vm.findClass "com/example/rankfold/rankfold/summaries/BucketEditor" = some m.cls := hown
  refine own_at (own_ef21_RI m ed (3 : Int32)) ?_
  have hd := D21.to hby
  obtain ⟨u1, u2, u3, u4, u5, u6, u7, u8, u9, u10, u11, u12, u13, u14, u15⟩ := id B
  refine pI X0 hx (hd.at 0 rfl) rfl ?_
  refine pfN X0 hx (hd.at 1 rfl) ((if0 _ _).trans (feq (by decide)).1) ?_
  refine pA X0 hx (hd.at 5 rfl) rfl rfl ?_
  refine pF X0 hx hZ hown (wd hw 29 rfl) e0 u2 (hd.at 6 rfl) fun T16 X16 e16 => ?_
  refine pA X16 hx (hd.at 7 rfl) rfl rfl ?_
  refine pF X16 hx hZ hown (wd hw 36 rfl) e16 u5 (hd.at 8 rfl) fun T17 X17 e17 => ?_
  refine pI X17 hx (hd.at 9 rfl) rfl ?_
  refine rI X17 hx hZ e17 u14 3 (.int 2) rfl (hd.at 10 rfl) ?_
  refine rD X17 hx hZ e17 u11 2 (.double (fu 2)) rfl (hd.at 11 rfl) ?_
  refine pA X17 hx (hd.at 12 rfl) rfl rfl ?_
  refine pF X17 hx hZ hown (wd hw 29 rfl) e17 u2 (hd.at 13 rfl) fun T18 X18 e18 => ?_
  refine pI X18 hx (hd.at 14 rfl) rfl ?_
  refine rD X18 hx hZ e18 u11 3 (.double (fu 3)) rfl (hd.at 15 rfl) ?_
  refine pA X18 hx (hd.at 16 rfl) rfl rfl ?_
  refine pF X18 hx hZ hown (wd hw 21 rfl) e18 u8 (hd.at 17 rfl) fun T19 X19 e19 => ?_
  refine pgF (own_static X19 hx hZ (y := yN23) (rm := ⟨2, 0, 0, 30⟩) (W := 0) (argsL := [(.double (fu 2)), (.double (fu 3)), (.double FP.dconst1)]) (rest := []) hown (wd hw 158 rfl) (wd hw 159 rfl) (wd hw 141 rfl) (wd hw 160 rfl) (rmSP l Z a0 hw (fu 2) (fu 3) FP.dconst1 h0 (hU.1 2 (by decide)) (hU.1 3 (by decide)) own_c1 (hU.2 2 3 (by decide) (by decide))) e19 rfl (by rw [hml]; rfl) (lenOf own_pd2 rfl) rfl (by exact Nat.le_of_eq rfl) (hd.at 18 rfl) (by decide) (by decide) (by decide) (by decide)) fun rv20 T21 X21 e21 => ?_
  by_cases c1 : rv20 = (0 : Int32)
  · refine pfY X21 hx 35 (hd.at 19 rfl) ((if0 _ _).trans (teq c1).1) ?_
    refine pC X21 hx 0 (hd.at 20 rfl) rfl ?_
    exact own_ret X21 hx (t := .boolean) hret hlk rfl (Or.inl ⟨rfl, by simp, _, rfl⟩) (hd.at 4 rfl) (by decide) (by decide) ⟨⟨_, rfl⟩, e21, rfl⟩
  · refine pfN X21 hx (hd.at 19 rfl) ((if0 _ _).trans (feq c1).1) ?_
    refine pC X21 hx 1 (hd.at 2 rfl) rfl ?_
    refine pG X21 hx 36 (hd.at 3 rfl) ?_
    exact own_ret X21 hx (t := .boolean) hret hlk rfl (Or.inl ⟨rfl, by simp, _, rfl⟩) (hd.at 4 rfl) (by decide) (by decide) ⟨⟨_, rfl⟩, e21, rfl⟩
set_option maxRecDepth 65536 in
set_option maxHeartbeats 40000000 in
theorem lpSE2 {l : Launch} {Z : State} {a0 : Array Value} (hw : ∀ d ∈ tables_1, d.before a0 Z = true) {p : Program} {e : Env} {s : State} {m : MethodId} {args : Array Value} {below : List Frame} {meth : Method} {c : Code} (hC : OCtx Z p s m meth c "com/example/rankfold/rankfold/summaries/BucketEditor" "sideError" prog_72_method_27_code 12 (some .double)) {T0 : State} (X0 : Stand p l e (⟨4, 0, 0, 62⟩ : Room) s m args below meth c T0 [] 0 0) {h0 : Heap} (e0 : T0.heap = h0) (ed : Addr) (nb : Int32) (dm dl om ol : UInt64) (dx : UInt64) (hm : Mag64 1064 dm) (hl : OLen dl) (hol : OLen ol) (hx' : Mag64 1100 dx) :
    OFin p e below s 0 0 (fun v h L => (∃ w, v = some (.double w) ∧ Mag64 1137 w) ∧ h = h0 ∧ L = []) (T0.setTop (mkF m 72 #[.val (.ref ed), .val (.double dm), .second, .val (.double dl), .second, .val (.int nb), .val (.double om), .second, .val (.double ol), .second, .unset, .unset] [(.double dx)])) := by
  have hC0 := hC
  obtain ⟨hx, hZH, hby, hml, hown, hret, hlk, hnm⟩ := hC
  have hZ := hZH.wide
  have hd := D20.to hby
  refine pt X0 hx #[.val (.ref ed), .val (.double dm), .second, .val (.double dl), .second, .val (.int nb), .val (.double om), .second, .val (.double ol), .second, .val (.double dx), .second] (hd.at 0 rfl) rfl ?_
  refine pD X0 hx (hd.at 1 rfl) rfl ?_
  refine pd X0 hx (hd.at 2 rfl) rfl ?_
  have mg_dy : Mag64 1102 (FP.dsub dm dx) := Jvm.Free.Fl.dsub_mag (K := 1100) (hm.mono (by decide)) hx' (by decide)
  refine pR (fun _ kS => Jvm.Free.XS.dsubS X0.here hx rfl (v := (FP.dsub dm dx)) (hd.at 3 rfl) rfl (own_mn mg_dy) rfl kS) ?_
  generalize (FP.dsub dm dx) = dy at mg_dy ⊢
  refine pg1 (own_mathB X0 hx hZ (y := Jvm.Free.Fl.Abs.absDN) (bytes := Jvm.Free.Fl.Abs.absDCode) (maxL := 2) (W := 0) (argsL := [(.double dy)]) (rest := []) (w := (dy &&& (0x7fffffffffffffff : UInt64))) hown (wd hw 155 rfl) (wd hw 156 rfl) (wd hw 86 rfl) (wd hw 157 rfl) (fun hc => Jvm.Free.Fl.Abs.absD_pays (W := 0) dy hc (by decide) (by decide)) (fun _ _ _ _ q => q) e0 rfl (by rw [hml]; rfl) (lenOf own_pd1 rfl) rfl (by exact Nat.le_of_eq rfl) (hd.at 4 rfl) (fun _ => ⟨Nat.zero_le _, Nat.zero_le _, rfl, own_mn mg_dy⟩)) fun T1 X1 e1 => ?_
  have mg_da : Mag64 1102 (dy &&& (0x7fffffffffffffff : UInt64)) := own_ab mg_dy
  generalize (dy &&& (0x7fffffffffffffff : UInt64)) = da at mg_da ⊢
  refine pD X1 hx (hd.at 5 rfl) rfl ?_
  refine pD X1 hx (hd.at 6 rfl) rfl ?_
  refine pd X1 hx (hd.at 7 rfl) rfl ?_
  have mg_ds : OPos (FP.dadd dl ol) := hl.add hol
  refine pR (fun _ kS => Jvm.Free.XS.daddS X1.here hx rfl (v := (FP.dadd dl ol)) (hd.at 8 rfl) rfl (own_mn mg_ds.mag) rfl kS) ?_
  generalize (FP.dadd dl ol) = ds at mg_ds ⊢
  have mg_dr : Mag64 1057 (FP.ddiv dl ds) := own_dv hl.pos.mag mg_ds
  refine pR (fun _ kS => Jvm.Free.XS.ddivS X1.here hx rfl (v := (FP.ddiv dl ds)) (hd.at 9 rfl) rfl (own_mn mg_dr) rfl kS) ?_
  generalize (FP.ddiv dl ds) = dr at mg_dr ⊢
  have mg_dz : Mag64 1137 (FP.dmul da dr) := own_mul mg_da mg_dr (by decide) (by decide) (by decide)
  refine pR (fun _ kS => Jvm.Free.XS.dmulS X1.here hx rfl (v := (FP.dmul da dr)) (hd.at 10 rfl) rfl (own_mn mg_dz) rfl kS) ?_
  generalize (FP.dmul da dr) = dz at mg_dz ⊢
  exact own_ret X1 hx (t := .double) hret hlk rfl (Or.inr (Or.inr (Or.inl ⟨rfl, rfl, _, rfl⟩))) (hd.at 11 rfl) (by decide) (by decide) ⟨⟨_, rfl, mg_dz⟩, e1, rfl⟩
set_option maxRecDepth 65536 in
set_option maxHeartbeats 40000000 in
theorem lpSE1 {l : Launch} {Z : State} {a0 : Array Value} (hw : ∀ d ∈ tables_1, d.before a0 Z = true) {p : Program} {e : Env} {s : State} {m : MethodId} {args : Array Value} {below : List Frame} {meth : Method} {c : Code} (hC : OCtx Z p s m meth c "com/example/rankfold/rankfold/summaries/BucketEditor" "sideError" prog_72_method_27_code 12 (some .double)) {T0 : State} (X0 : Stand p l e (⟨4, 0, 0, 62⟩ : Room) s m args below meth c T0 [] 0 0) {h0 : Heap} (e0 : T0.heap = h0) (ed : Addr) (nb : Int32) (dm dl om ol : UInt64) (hm : Mag64 1064 dm) (hl : OLen dl) (hol : OLen ol) (hom : Mag64 1062 om) :
    OFin p e below s 0 0 (fun v h L => (∃ w, v = some (.double w) ∧ Mag64 1137 w) ∧ h = h0 ∧ L = []) (T0.setTop (mkF m 54 #[.val (.ref ed), .val (.double dm), .second, .val (.double dl), .second, .val (.int nb), .val (.double om), .second, .val (.double ol), .second, .unset, .unset] [])) := by
  have hC0 := hC
  obtain ⟨hx, hZH, hby, hml, hown, hret, hlk, hnm⟩ := hC
  have hZ := hZH.wide
  have hd := D20.to hby
  refine pd X0 hx (hd.at 12 rfl) rfl ?_
  refine pL (own_dconst0 X0 hx rfl (hd.at 13 rfl)) ?_
  refine pR (own_dcmpg X0 hx rfl (hd.at 14 rfl) rfl) ?_
  by_cases c1 : (0 : Int32) < (cmpValue (FP.dcmp om FP.dconst0) .g)
  · refine pfY X0 hx 65 (hd.at 15 rfl) ((if0 _ _).trans (tlt c1).2.2.1) ?_
    refine pd X0 hx (hd.at 16 rfl) rfl ?_
    refine pD X0 hx (hd.at 17 rfl) rfl ?_
    refine pd X0 hx (hd.at 18 rfl) rfl ?_
    have mg_dr : Mag64 1057 (FP.ddiv dl ol) := own_dv hl.pos.mag hol.pos
    refine pR (fun _ kS => Jvm.Free.XS.ddivS X0.here hx rfl (v := (FP.ddiv dl ol)) (hd.at 19 rfl) rfl (own_mn mg_dr) rfl kS) ?_
    generalize (FP.ddiv dl ol) = dr at mg_dr ⊢
    have mg_dy : Mag64 1097 (FP.dmul om dr) := own_mul hom mg_dr (by decide) (by decide) (by decide)
    refine pR (fun _ kS => Jvm.Free.XS.dmulS X0.here hx rfl (v := (FP.dmul om dr)) (hd.at 20 rfl) rfl (own_mn mg_dy) rfl kS) ?_
    generalize (FP.dmul om dr) = dy at mg_dy ⊢
    exact lpSE2 hw hC0 X0 e0 ed nb dm dl om ol _ hm hl hol (mg_dy.mono (by decide))
  · refine pfN X0 hx (hd.at 15 rfl) ((if0 _ _).trans (flt c1).2.2.1) ?_
    refine pL (own_dconst0 X0 hx rfl (hd.at 21 rfl)) ?_
    refine pG X0 hx 72 (hd.at 22 rfl) ?_
    exact lpSE2 hw hC0 X0 e0 ed nb dm dl om ol _ hm hl hol (own_c0.mono (by decide))
set_option maxRecDepth 65536 in
set_option maxHeartbeats 40000000 in
theorem rmSEM (l : Launch) (Z : State) (a0 : Array Value) (hw : ∀ d ∈ tables_1, d.before a0 Z = true) (ed : Addr) (dm : UInt64) (dl : UInt64) (h0 : Heap) (hm : Mag64 1064 dm) (hl : OLen dl) :
    OMet l Z yN20 prog_72_method_27_code 12 (some .double) (⟨4, 0, 0, 62⟩ : Room) #[(.ref ed), (.double dm), (.double dl), (.int (-1))] h0 (fun v h L => (∃ w, v = some (.double w) ∧ Mag64 1137 w) ∧ h = h0 ∧ L = []) := by
  refine own_enter own_pn20 ?_
  intro p e s m below meth c T0 X0 hC e0 hnamed
  have hC0 := hC
  obtain ⟨hx, hZH, hby, hml, hown, hret, hlk, hnm⟩ := hC
  have hZ := hZH.wide
  have hown : s.vm.findClass "com/example/rankfold/rankfold/summaries/BucketEditor" = some m.cls := hown
  refine own_at (own_ef20_RDDI m ed dm dl (-1 : Int32)) ?_
  have hd := D20.to hby
  refine pL (own_dconst0 X0 hx rfl (hd.at 23 rfl)) ?_
  refine pt X0 hx #[.val (.ref ed), .val (.double dm), .second, .val (.double dl), .second, .val (.int (-1)), .val (.double FP.dconst0), .second, .unset, .unset, .unset, .unset] (hd.at 24 rfl) rfl ?_
  refine pD X0 hx (hd.at 25 rfl) rfl ?_
  refine pt X0 hx #[.val (.ref ed), .val (.double dm), .second, .val (.double dl), .second, .val (.int (-1)), .val (.double FP.dconst0), .second, .val (.double dl), .second, .unset, .unset] (hd.at 26 rfl) rfl ?_
  refine pi X0 hx (hd.at 27 rfl) rfl ?_
  refine pC X0 hx (-1) (hd.at 28 rfl) rfl ?_
  refine pcY X0 hx 54 (hd.at 29 rfl) ((teq rfl).1) ?_
  exact lpSE1 hw hC0 X0 e0 ed _ dm dl _ dl hm hl hl own_c0
set_option maxRecDepth 65536 in
set_option maxHeartbeats 40000000 in
theorem rmSE0 (l : Launch) (Z : State) (a0 : Array Value) (hw : ∀ d ∈ tables_1, d.before a0 Z = true) (ed : Addr) (dm : UInt64) (dl : UInt64) (h0 : Heap) (E_e : Exa Z h0 ed "com/example/rankfold/rankfold/summaries/BucketEditor") (hm : Mag64 1064 dm) (hl : OLen dl) :
    OMet l Z yN20 prog_72_method_27_code 12 (some .double) (⟨4, 0, 0, 62⟩ : Room) #[(.ref ed), (.double dm), (.double dl), (.int 0)] h0 (fun v h L => (∃ w, v = some (.double w) ∧ Mag64 1137 w) ∧ h = h0 ∧ L = []) := by
  refine own_enter own_pn20 ?_
  intro p e s m below meth c T0 X0 hC e0 hnamed
  have hC0 := hC
  obtain ⟨hx, hZH, hby, hml, hown, hret, hlk, hnm⟩ := hC
  have hZ := hZH.wide
  have hown : s.vm.findClass "com/example/rankfold/rankfold/summaries/BucketEditor" = some m.cls := hown
  refine own_at (own_ef20_RDDI m ed dm dl (0 : Int32)) ?_
  have hd := D20.to hby
  refine pL (own_dconst0 X0 hx rfl (hd.at 23 rfl)) ?_
  refine pt X0 hx #[.val (.ref ed), .val (.double dm), .second, .val (.double dl), .second, .val (.int 0), .val (.double FP.dconst0), .second, .unset, .unset, .unset, .unset] (hd.at 24 rfl) rfl ?_
  refine pD X0 hx (hd.at 25 rfl) rfl ?_
  refine pt X0 hx #[.val (.ref ed), .val (.double dm), .second, .val (.double dl), .second, .val (.int 0), .val (.double FP.dconst0), .second, .val (.double dl), .second, .unset, .unset] (hd.at 26 rfl) rfl ?_
  refine pi X0 hx (hd.at 27 rfl) rfl ?_
  refine pC X0 hx (-1) (hd.at 28 rfl) rfl ?_
  refine pcN X0 hx (hd.at 29 rfl) ((feq (by decide)).1) ?_
  refine pA X0 hx (hd.at 30 rfl) rfl rfl ?_
  refine pi X0 hx (hd.at 31 rfl) rfl ?_
  refine pgP (own_private X0 hx hZ (y := yN21) (rm := ⟨3, 0, 0, 49⟩) (W := 0) (a := ed) (argsL := [(.int 0)]) (rest := []) hown (wd hw 151 rfl) (wd hw 152 rfl) (wd hw 153 rfl) (wd hw 107 rfl) rfl (wd hw 7 rfl) (wd hw 154 rfl) (rmIP0 l Z a0 hw ed h0) e0 E_e rfl (by rw [hml]; rfl) (lenOf own_pd3 rfl) rfl (by exact Nat.le_of_eq rfl) (hd.at 32 rfl) (by decide) (by decide) (by decide) (by decide)) fun T1 X1 e1 => ?_
  refine pfY X1 hx 54 (hd.at 33 rfl) ((if0 _ _).trans (feq (by decide)).2) ?_
  exact lpSE1 hw hC0 X1 e1 ed _ dm dl _ dl hm hl hl own_c0
set_option maxRecDepth 65536 in
set_option maxHeartbeats 40000000 in
theorem rmSE1 (l : Launch) (Z : State) (a0 : Array Value) (hw : ∀ d ∈ tables_1, d.before a0 Z = true) (ed : Addr) (dm : UInt64) (dl : UInt64) (h0 : Heap) (u ct gd px nx : Addr) (fu fc : Nat → UInt64) (fg : Nat → Int32) (nd : UInt64) (B : ORd Z h0 ed u ct gd px nx fu fc fg own_p4 own_n4 nd) (hU : OUp fu) (hN : OCn fc) (hD : Mag64 1088 nd) (hm : Mag64 1064 dm) (hl : OLen dl) :
    OMet l Z yN20 prog_72_method_27_code 12 (some .double) (⟨4, 0, 0, 62⟩ : Room) #[(.ref ed), (.double dm), (.double dl), (.int 1)] h0 (fun v h L => (∃ w, v = some (.double w) ∧ Mag64 1137 w) ∧ h = h0 ∧ L = []) := by
  refine own_enter own_pn20 ?_
  intro p e s m below meth c T0 X0 hC e0 hnamed
  have hC0 := hC
  obtain ⟨hx, hZH, hby, hml, hown, hret, hlk, hnm⟩ := hC
  have hZ := hZH.wide
  have hown : s.vm.findClass "com/example/rankfold/rankfold/summaries/BucketEditor" = some m.cls := hown
  refine own_at (own_ef20_RDDI m ed dm dl (1 : Int32)) ?_
  have hd := D20.to hby
  obtain ⟨u1, u2, u3, u4, u5, u6, u7, u8, u9, u10, u11, u12, u13, u14, u15⟩ := id B
  refine pL (own_dconst0 X0 hx rfl (hd.at 23 rfl)) ?_
  refine pt X0 hx #[.val (.ref ed), .val (.double dm), .second, .val (.double dl), .second, .val (.int 1), .val (.double FP.dconst0), .second, .unset, .unset, .unset, .unset] (hd.at 24 rfl) rfl ?_
  refine pD X0 hx (hd.at 25 rfl) rfl ?_
  refine pt X0 hx #[.val (.ref ed), .val (.double dm), .second, .val (.double dl), .second, .val (.int 1), .val (.double FP.dconst0), .second, .val (.double dl), .second, .unset, .unset] (hd.at 26 rfl) rfl ?_
  refine pi X0 hx (hd.at 27 rfl) rfl ?_
  refine pC X0 hx (-1) (hd.at 28 rfl) rfl ?_
  refine pcN X0 hx (hd.at 29 rfl) ((feq (by decide)).1) ?_
  refine pA X0 hx (hd.at 30 rfl) rfl rfl ?_
  refine pi X0 hx (hd.at 31 rfl) rfl ?_
  refine pgF (own_private X0 hx hZ (y := yN21) (rm := ⟨3, 0, 0, 49⟩) (W := 0) (a := ed) (argsL := [(.int 1)]) (rest := []) hown (wd hw 151 rfl) (wd hw 152 rfl) (wd hw 153 rfl) (wd hw 107 rfl) rfl (wd hw 7 rfl) (wd hw 154 rfl) (rmIP1 l Z a0 hw ed h0 u ct gd px nx fu fc fg nd B hU hN hD) e0 u1 rfl (by rw [hml]; rfl) (lenOf own_pd3 rfl) rfl (by exact Nat.le_of_eq rfl) (hd.at 32 rfl) (by decide) (by decide) (by decide) (by decide)) fun rv16 T17 X17 e17 => ?_
  by_cases c1 : rv16 = (0 : Int32)
  · refine pfN X17 hx (hd.at 33 rfl) ((if0 _ _).trans (teq c1).2) ?_
    refine pA X17 hx (hd.at 34 rfl) rfl rfl ?_
    refine pF X17 hx hZ hown (wd hw 31 rfl) e17 u3 (hd.at 35 rfl) fun T18 X18 e18 => ?_
    refine pi X18 hx (hd.at 36 rfl) rfl ?_
    refine rD X18 hx hZ e18 u12 1 (.double (fc 1)) rfl (hd.at 37 rfl) ?_
    refine pt X18 hx #[.val (.ref ed), .val (.double dm), .second, .val (.double dl), .second, .val (.int 1), .val (.double (fc 1)), .second, .val (.double dl), .second, .unset, .unset] (hd.at 38 rfl) rfl ?_
    refine pA X18 hx (hd.at 39 rfl) rfl rfl ?_
    refine pF X18 hx hZ hown (wd hw 29 rfl) e18 u2 (hd.at 40 rfl) fun T19 X19 e19 => ?_
    refine pA X19 hx (hd.at 41 rfl) rfl rfl ?_
    refine pF X19 hx hZ hown (wd hw 36 rfl) e19 u5 (hd.at 42 rfl) fun T20 X20 e20 => ?_
    refine pi X20 hx (hd.at 43 rfl) rfl ?_
    refine rI X20 hx hZ e20 u14 1 (.int 0) rfl (hd.at 44 rfl) ?_
    refine rD X20 hx hZ e20 u11 0 (.double (fu 0)) rfl (hd.at 45 rfl) ?_
    refine pA X20 hx (hd.at 46 rfl) rfl rfl ?_
    refine pF X20 hx hZ hown (wd hw 29 rfl) e20 u2 (hd.at 47 rfl) fun T21 X21 e21 => ?_
    refine pi X21 hx (hd.at 48 rfl) rfl ?_
    refine rD X21 hx hZ e21 u11 1 (.double (fu 1)) rfl (hd.at 49 rfl) ?_
    refine pgP (own_static X21 hx hZ (y := yN18) (rm := ⟨1, 0, 0, 15⟩) (W := 0) (argsL := [(.double (fu 0)), (.double (fu 1))]) (rest := []) hown (wd hw 139 rfl) (wd hw 140 rfl) (wd hw 141 rfl) (wd hw 142 rfl) (rmSpan l Z a0 hw (fu 0) (fu 1) h0 (hU.2 0 1 (by decide) (by decide))) e21 rfl (by rw [hml]; rfl) (lenOf own_pd0 rfl) rfl (by exact Nat.le_of_eq rfl) (hd.at 50 rfl) (by decide) (by decide) (by decide) (by decide)) fun T22 X22 e22 => ?_
    refine pt X22 hx #[.val (.ref ed), .val (.double dm), .second, .val (.double dl), .second, .val (.int 1), .val (.double (fc 1)), .second, .val (.double (FP.dsub (fu 1) (fu 0))), .second, .unset, .unset] (hd.at 51 rfl) rfl ?_
    exact lpSE1 hw hC0 X22 e22 ed _ dm dl _ (FP.dsub (fu 1) (fu 0)) hm hl (hU.2 0 1 (by decide) (by decide)) (hN 1 (by decide))
  · refine pfY X17 hx 54 (hd.at 33 rfl) ((if0 _ _).trans (feq c1).2) ?_
    exact lpSE1 hw hC0 X17 e17 ed _ dm dl _ dl hm hl hl own_c0
set_option maxRecDepth 65536 in
set_option maxHeartbeats 40000000 in
theorem rmSE3 (l : Launch) (Z : State) (a0 : Array Value) (hw : ∀ d ∈ tables_1, d.before a0 Z = true) (ed : Addr) (dm : UInt64) (dl : UInt64) (h0 : Heap) (u ct gd px nx : Addr) (fu fc : Nat → UInt64) (fg : Nat → Int32) (nd : UInt64) (B : ORd Z h0 ed u ct gd px nx fu fc fg own_p4 own_n4 nd) (hU : OUp fu) (hN : OCn fc) (hD : Mag64 1088 nd) (hm : Mag64 1064 dm) (hl : OLen dl) :
    OMet l Z yN20 prog_72_method_27_code 12 (some .double) (⟨4, 0, 0, 62⟩ : Room) #[(.ref ed), (.double dm), (.double dl), (.int 3)] h0 (fun v h L => (∃ w, v = some (.double w) ∧ Mag64 1137 w) ∧ h = h0 ∧ L = []) := by
  refine own_enter own_pn20 ?_
  intro p e s m below meth c T0 X0 hC e0 hnamed
  have hC0 := hC
  obtain ⟨hx, hZH, hby, hml, hown, hret, hlk, hnm⟩ := hC
  have hZ := hZH.wide
  have hown : s.vm.findClass "com/example/rankfold/rankfold/summaries/BucketEditor" = some m.cls := hown
  refine own_at (own_ef20_RDDI m ed dm dl (3 : Int32)) ?_
  have hd := D20.to hby
  obtain ⟨u1, u2, u3, u4, u5, u6, u7, u8, u9, u10, u11, u12, u13, u14, u15⟩ := id B
  refine pL (own_dconst0 X0 hx rfl (hd.at 23 rfl)) ?_
  refine pt X0 hx #[.val (.ref ed), .val (.double dm), .second, .val (.double dl), .second, .val (.int 3), .val (.double FP.dconst0), .second, .unset, .unset, .unset, .unset] (hd.at 24 rfl) rfl ?_
  refine pD X0 hx (hd.at 25 rfl) rfl ?_
  refine pt X0 hx #[.val (.ref ed), .val (.double dm), .second, .val (.double dl), .second, .val (.int 3), .val (.double FP.dconst0), .second, .val (.double dl), .second, .unset, .unset] (hd.at 26 rfl) rfl ?_
  refine pi X0 hx (hd.at 27 rfl) rfl ?_
  refine pC X0 hx (-1) (hd.at 28 rfl) rfl ?_
  refine pcN X0 hx (hd.at 29 rfl) ((feq (by decide)).1) ?_
  refine pA X0 hx (hd.at 30 rfl) rfl rfl ?_
  refine pi X0 hx (hd.at 31 rfl) rfl ?_
  refine pgF (own_private X0 hx hZ (y := yN21) (rm := ⟨3, 0, 0, 49⟩) (W := 0) (a := ed) (argsL := [(.int 3)]) (rest := []) hown (wd hw 151 rfl) (wd hw 152 rfl) (wd hw 153 rfl) (wd hw 107 rfl) rfl (wd hw 7 rfl) (wd hw 154 rfl) (rmIP3 l Z a0 hw ed h0 u ct gd px nx fu fc fg nd B hU hN hD) e0 u1 rfl (by rw [hml]; rfl) (lenOf own_pd3 rfl) rfl (by exact Nat.le_of_eq rfl) (hd.at 32 rfl) (by decide) (by decide) (by decide) (by decide)) fun rv16 T17 X17 e17 => ?_
  by_cases c1 : rv16 = (0 : Int32)
  · refine pfN X17 hx (hd.at 33 rfl) ((if0 _ _).trans (teq c1).2) ?_
    refine pA X17 hx (hd.at 34 rfl) rfl rfl ?_
    refine pF X17 hx hZ hown (wd hw 31 rfl) e17 u3 (hd.at 35 rfl) fun T18 X18 e18 => ?_
    refine pi X18 hx (hd.at 36 rfl) rfl ?_
    refine rD X18 hx hZ e18 u12 3 (.double (fc 3)) rfl (hd.at 37 rfl) ?_
    refine pt X18 hx #[.val (.ref ed), .val (.double dm), .second, .val (.double dl), .second, .val (.int 3), .val (.double (fc 3)), .second, .val (.double dl), .second, .unset, .unset] (hd.at 38 rfl) rfl ?_
    refine pA X18 hx (hd.at 39 rfl) rfl rfl ?_
    refine pF X18 hx hZ hown (wd hw 29 rfl) e18 u2 (hd.at 40 rfl) fun T19 X19 e19 => ?_
    refine pA X19 hx (hd.at 41 rfl) rfl rfl ?_
    refine pF X19 hx hZ hown (wd hw 36 rfl) e19 u5 (hd.at 42 rfl) fun T20 X20 e20 => ?_
    refine pi X20 hx (hd.at 43 rfl) rfl ?_
    refine rI X20 hx hZ e20 u14 3 (.int 2) rfl (hd.at 44 rfl) ?_
    refine rD X20 hx hZ e20 u11 2 (.double (fu 2)) rfl (hd.at 45 rfl) ?_
    refine pA X20 hx (hd.at 46 rfl) rfl rfl ?_
    refine pF X20 hx hZ hown (wd hw 29 rfl) e20 u2 (hd.at 47 rfl) fun T21 X21 e21 => ?_
    refine pi X21 hx (hd.at 48 rfl) rfl ?_
    refine rD X21 hx hZ e21 u11 3 (.double (fu 3)) rfl (hd.at 49 rfl) ?_
    refine pgP (own_static X21 hx hZ (y := yN18) (rm := ⟨1, 0, 0, 15⟩) (W := 0) (argsL := [(.double (fu 2)), (.double (fu 3))]) (rest := []) hown (wd hw 139 rfl) (wd hw 140 rfl) (wd hw 141 rfl) (wd hw 142 rfl) (rmSpan l Z a0 hw (fu 2) (fu 3) h0 (hU.2 2 3 (by decide) (by decide))) e21 rfl (by rw [hml]; rfl) (lenOf own_pd0 rfl) rfl (by exact Nat.le_of_eq rfl) (hd.at 50 rfl) (by decide) (by decide) (by decide) (by decide)) fun T22 X22 e22 => ?_
    refine pt X22 hx #[.val (.ref ed), .val (.double dm), .second, .val (.double dl), .second, .val (.int 3), .val (.double (fc 3)), .second, .val (.double (FP.dsub (fu 3) (fu 2))), .second, .unset, .unset] (hd.at 51 rfl) rfl ?_
    exact lpSE1 hw hC0 X22 e22 ed _ dm dl _ (FP.dsub (fu 3) (fu 2)) hm hl (hU.2 2 3 (by decide) (by decide)) (hN 3 (by decide))
  · refine pfY X17 hx 54 (hd.at 33 rfl) ((if0 _ _).trans (feq c1).2) ?_
    exact lpSE1 hw hC0 X17 e17 ed _ dm dl _ dl hm hl hl own_c0
set_option maxRecDepth 65536 in
set_option maxHeartbeats 40000000 in
theorem rmEO0M (l : Launch) (Z : State) (a0 : Array Value) (hw : ∀ d ∈ tables_1, d.before a0 Z = true) (ed : Addr) (dc : UInt64) (d1 : UInt64) (d2 : UInt64) (h0 : Heap) (u ct gd px nx : Addr) (fu fc : Nat → UInt64) (fg : Nat → Int32) (nd : UInt64) (B : ORd Z h0 ed u ct gd px nx fu fc fg own_p3 own_n3 nd) (hU : OUp fu) (hN : OCn fc) (hD : Mag64 1088 nd) (hm : Mag64 1064 dc) (hL : OLen (FP.dsub d2 d1)) :
    OMet l Z yN17 prog_72_method_26_code 11 (some .double) (⟨5, 0, 0, 87⟩ : Room) #[(.ref ed), (.double dc), (.double d1), (.double d2), (.int 0), (.int (-1))] h0 (fun v h L => (∃ w, v = some (.double w) ∧ True) ∧ h = h0 ∧ L = []) := by
  refine own_enter own_pn17 ?_
  intro p e s m below meth c T0 X0 hC e0 hnamed
  have hC0 := hC
  obtain ⟨hx, hZH, hby, hml, hown, hret, hlk, hnm⟩ := hC
  have hZ := hZH.wide
  have hown : s.vm.findClass "com/example/rankfold/rankfold/summaries/BucketEditor" = some m.cls := hown
  refine own_at (own_ef17_RDDDII m ed dc d1 d2 (0 : Int32) (-1 : Int32)) ?_
  have hd := D17.to hby
  obtain ⟨u1, u2, u3, u4, u5, u6, u7, u8, u9, u10, u11, u12, u13, u14, u15⟩ := id B
  refine pD X0 hx (hd.at 0 rfl) rfl ?_
  refine pd X0 hx (hd.at 1 rfl) rfl ?_
  refine pgP (own_static X0 hx hZ (y := yN18) (rm := ⟨1, 0, 0, 15⟩) (W := 0) (argsL := [(.double d1), (.double d2)]) (rest := []) hown (wd hw 139 rfl) (wd hw 140 rfl) (wd hw 141 rfl) (wd hw 142 rfl) (rmSpan l Z a0 hw d1 d2 h0 hL) e0 rfl (by rw [hml]; rfl) (lenOf own_pd0 rfl) rfl (by exact Nat.le_of_eq rfl) (hd.at 2 rfl) (by decide) (by decide) (by decide) (by decide)) fun T16 X16 e16 => ?_
  refine pt X16 hx #[.val (.ref ed), .val (.double dc), .second, .val (.double d1), .second, .val (.double d2), .second, .val (.int 0), .val (.int (-1)), .val (.double (FP.dsub d2 d1)), .second] (hd.at 3 rfl) rfl ?_
  refine pA X16 hx (hd.at 4 rfl) rfl rfl ?_
  refine pD X16 hx (hd.at 5 rfl) rfl ?_
  refine pd X16 hx (hd.at 6 rfl) rfl ?_
  refine pi X16 hx (hd.at 7 rfl) rfl ?_
  refine pgE (own_private X16 hx hZ (y := yN20) (rm := ⟨4, 0, 0, 62⟩) (W := 0) (a := ed) (argsL := [(.double dc), (.double (FP.dsub d2 d1)), (.int 0)]) (rest := []) hown (wd hw 147 rfl) (wd hw 148 rfl) (wd hw 149 rfl) (wd hw 107 rfl) rfl (wd hw 7 rfl) (wd hw 150 rfl) (rmSE0 l Z a0 hw ed dc (FP.dsub d2 d1) h0 B.1 hm hL) e16 u1 rfl (by rw [hml]; rfl) (lenOf own_pd4 rfl) rfl (by exact Nat.le_of_eq rfl) (hd.at 8 rfl) (by decide) (by decide) (by decide) (by decide)) fun rv17 T18 mA X18 e18 => ?_
  refine pA X18 hx (hd.at 9 rfl) rfl rfl ?_
  refine pD X18 hx (hd.at 10 rfl) rfl ?_
  refine pd X18 hx (hd.at 11 rfl) rfl ?_
  refine pi X18 hx (hd.at 12 rfl) rfl ?_
  refine pgE (own_private X18 hx hZ (y := yN20) (rm := ⟨4, 0, 0, 62⟩) (W := 2) (a := ed) (argsL := [(.double dc), (.double (FP.dsub d2 d1)), (.int (-1))]) (rest := [(.double rv17)]) hown (wd hw 147 rfl) (wd hw 148 rfl) (wd hw 149 rfl) (wd hw 107 rfl) rfl (wd hw 7 rfl) (wd hw 150 rfl) (rmSEM l Z a0 hw ed dc (FP.dsub d2 d1) h0 hm hL) e18 u1 rfl (by rw [hml]; rfl) (lenOf own_pd4 rfl) rfl (by exact Nat.le_of_eq rfl) (hd.at 13 rfl) (by decide) (by decide) (by decide) (by decide)) fun rv19 T20 mB X20 e20 => ?_
  refine pg1 (own_mathB X20 hx hZ (y := Jvm.Free.Fl.Abs.maxDN) (bytes := Jvm.Free.Fl.Abs.maxDCode) (maxL := 4) (W := 0) (argsL := [(.double rv17), (.double rv19)]) (rest := []) (w := (Native.java_lang_Math.nans.pick64 true rv17 rv19)) hown (wd hw 167 rfl) (wd hw 163 rfl) (wd hw 86 rfl) (wd hw 164 rfl) (fun hc => Jvm.Free.Fl.Abs.maxD_pays (W := 0) rv17 rv19 hc (by decide) (by decide)) (fun _ _ _ _ q => q) e20 rfl (by rw [hml]; rfl) (lenOf own_pd0 rfl) rfl (by exact Nat.le_of_eq rfl) (hd.at 14 rfl) (fun _ => ⟨Nat.zero_le _, Nat.zero_le _, rfl, own_mn mA, own_mn mB⟩)) fun T21 X21 e21 => ?_
  exact own_ret X21 hx (t := .double) hret hlk rfl (Or.inr (Or.inr (Or.inl ⟨rfl, rfl, _, rfl⟩))) (hd.at 15 rfl) (by decide) (by decide) ⟨⟨_, rfl, trivial⟩, e21, rfl⟩
set_option maxRecDepth 65536 in
set_option maxHeartbeats 40000000 in
theorem rmEO03 (l : Launch) (Z : State) (a0 : Array Value) (hw : ∀ d ∈ tables_1, d.before a0 Z = true) (ed : Addr) (dc : UInt64) (d1 : UInt64) (d2 : UInt64) (h0 : Heap) (u ct gd px nx : Addr) (fu fc : Nat → UInt64) (fg : Nat → Int32) (nd : UInt64) (B : ORd Z h0 ed u ct gd px nx fu fc fg own_p4 own_n4 nd) (hU : OUp fu) (hN : OCn fc) (hD : Mag64 1088 nd) (hm : Mag64 1064 dc) (hL : OLen (FP.dsub d2 d1)) :
    OMet l Z yN17 prog_72_method_26_code 11 (some .double) (⟨5, 0, 0, 87⟩ : Room) #[(.ref ed), (.double dc), (.double d1), (.double d2), (.int 0), (.int 3)] h0 (fun v h L => (∃ w, v = some (.double w) ∧ True) ∧ h = h0 ∧ L = []) := by
  refine own_enter own_pn17 ?_
  intro p e s m below meth c T0 X0 hC e0 hnamed
  have hC0 := hC
  obtain ⟨hx, hZH, hby, hml, hown, hret, hlk, hnm⟩ := hC
  have hZ := hZH.wide
  have hown : s.vm.findClass "com/example/rankfold/rankfold/summaries/BucketEditor" = some m.cls := hown
  refine own_at (own_ef17_RDDDII m ed dc d1 d2 (0 : Int32) (3 : Int32)) ?_
  have hd := D17.to hby
  obtain ⟨u1, u2, u3, u4, u5, u6, u7, u8, u9, u10, u11, u12, u13, u14, u15⟩ := id B
  refine pD X0 hx (hd.at 0 rfl) rfl ?_
  refine pd X0 hx (hd.at 1 rfl) rfl ?_
  refine pgP (own_static X0 hx hZ (y := yN18) (rm := ⟨1, 0, 0, 15⟩) (W := 0) (argsL := [(.double d1), (.double d2)]) (rest := []) hown (wd hw 139 rfl) (wd hw 140 rfl) (wd hw 141 rfl) (wd hw 142 rfl) (rmSpan l Z a0 hw d1 d2 h0 hL) e0 rfl (by rw [hml]; rfl) (lenOf own_pd0 rfl) rfl (by exact Nat.le_of_eq rfl) (hd.at 2 rfl) (by decide) (by decide) (by decide) (by decide)) fun T16 X16 e16 => ?_
  refine pt X16 hx #[.val (.ref ed), .val (.double dc), .second, .val (.double d1), .second, .val (.double d2), .second, .val (.int 0), .val (.int 3), .val (.double (FP.dsub d2 d1)), .second] (hd.at 3 rfl) rfl ?_
  refine pA X16 hx (hd.at 4 rfl) rfl rfl ?_
  refine pD X16 hx (hd.at 5 rfl) rfl ?_
  refine pd X16 hx (hd.at 6 rfl) rfl ?_
  refine pi X16 hx (hd.at 7 rfl) rfl ?_
  refine pgE (own_private X16 hx hZ (y := yN20) (rm := ⟨4, 0, 0, 62⟩) (W := 0) (a := ed) (argsL := [(.double dc), (.double (FP.dsub d2 d1)), (.int 0)]) (rest := []) hown (wd hw 147 rfl) (wd hw 148 rfl) (wd hw 149 rfl) (wd hw 107 rfl) rfl (wd hw 7 rfl) (wd hw 150 rfl) (rmSE0 l Z a0 hw ed dc (FP.dsub d2 d1) h0 B.1 hm hL) e16 u1 rfl (by rw [hml]; rfl) (lenOf own_pd4 rfl) rfl (by exact Nat.le_of_eq rfl) (hd.at 8 rfl) (by decide) (by decide) (by decide) (by decide)) fun rv17 T18 mA X18 e18 => ?_
  refine pA X18 hx (hd.at 9 rfl) rfl rfl ?_
  refine pD X18 hx (hd.at 10 rfl) rfl ?_
  refine pd X18 hx (hd.at 11 rfl) rfl ?_
  refine pi X18 hx (hd.at 12 rfl) rfl ?_
  refine pgE (own_private X18 hx hZ (y := yN20) (rm := ⟨4, 0, 0, 62⟩) (W := 2) (a := ed) (argsL := [(.double dc), (.double (FP.dsub d2 d1)), (.int 3)]) (rest := [(.double rv17)]) hown (wd hw 147 rfl) (wd hw 148 rfl) (wd hw 149 rfl) (wd hw 107 rfl) rfl (wd hw 7 rfl) (wd hw 150 rfl) (rmSE3 l Z a0 hw ed dc (FP.dsub d2 d1) h0 u ct gd px nx fu fc fg nd B hU hN hD hm hL) e18 u1 rfl (by rw [hml]; rfl) (lenOf own_pd4 rfl) rfl (by exact Nat.le_of_eq rfl) (hd.at 13 rfl) (by decide) (by decide) (by decide) (by decide)) fun rv19 T20 mB X20 e20 => ?_
  refine pg1 (own_mathB X20 hx hZ (y := Jvm.Free.Fl.Abs.maxDN) (bytes := Jvm.Free.Fl.Abs.maxDCode) (maxL := 4) (W := 0) (argsL := [(.double rv17), (.double rv19)]) (rest := []) (w := (Native.java_lang_Math.nans.pick64 true rv17 rv19)) hown (wd hw 167 rfl) (wd hw 163 rfl) (wd hw 86 rfl) (wd hw 164 rfl) (fun hc => Jvm.Free.Fl.Abs.maxD_pays (W := 0) rv17 rv19 hc (by decide) (by decide)) (fun _ _ _ _ q => q) e20 rfl (by rw [hml]; rfl) (lenOf own_pd0 rfl) rfl (by exact Nat.le_of_eq rfl) (hd.at 14 rfl) (fun _ => ⟨Nat.zero_le _, Nat.zero_le _, rfl, own_mn mA, own_mn mB⟩)) fun T21 X21 e21 => ?_
  exact own_ret X21 hx (t := .double) hret hlk rfl (Or.inr (Or.inr (Or.inl ⟨rfl, rfl, _, rfl⟩))) (hd.at 15 rfl) (by decide) (by decide) ⟨⟨_, rfl, trivial⟩, e21, rfl⟩
set_option maxRecDepth 65536 in
set_option maxHeartbeats 40000000 in
theorem rmEO1M (l : Launch) (Z : State) (a0 : Array Value) (hw : ∀ d ∈ tables_1, d.before a0 Z = true) (ed : Addr) (dc : UInt64) (d1 : UInt64) (d2 : UInt64) (h0 : Heap) (u ct gd px nx : Addr) (fu fc : Nat → UInt64) (fg : Nat → Int32) (nd : UInt64) (B : ORd Z h0 ed u ct gd px nx fu fc fg own_p4 own_n4 nd) (hU : OUp fu) (hN : OCn fc) (hD : Mag64 1088 nd) (hm : Mag64 1064 dc) (hL : OLen (FP.dsub d2 d1)) :
    OMet l Z yN17 prog_72_method_26_code 11 (some .double) (⟨5, 0, 0, 87⟩ : Room) #[(.ref ed), (.double dc), (.double d1), (.double d2), (.int 1), (.int (-1))] h0 (fun v h L => (∃ w, v = some (.double w) ∧ True) ∧ h = h0 ∧ L = []) := by
  refine own_enter own_pn17 ?_
  intro p e s m below meth c T0 X0 hC e0 hnamed
  have hC0 := hC
  obtain ⟨hx, hZH, hby, hml, hown, hret, hlk, hnm⟩ := hC
  have hZ := hZH.wide
  have hown : s.vm.findClass "com/example/rankfold/rankfold/summaries/BucketEditor" = some m.cls := hown
  refine own_at (own_ef17_RDDDII m ed dc d1 d2 (1 : Int32) (-1 : Int32)) ?_
  have hd := D17.to hby
  obtain ⟨u1, u2, u3, u4, u5, u6, u7, u8, u9, u10, u11, u12, u13, u14, u15⟩ := id B
  refine pD X0 hx (hd.at 0 rfl) rfl ?_
  refine pd X0 hx (hd.at 1 rfl) rfl ?_
  refine pgP (own_static X0 hx hZ (y := yN18) (rm := ⟨1, 0, 0, 15⟩) (W := 0) (argsL := [(.double d1), (.double d2)]) (rest := []) hown (wd hw 139 rfl) (wd hw 140 rfl) (wd hw 141 rfl) (wd hw 142 rfl) (rmSpan l Z a0 hw d1 d2 h0 hL) e0 rfl (by rw [hml]; rfl) (lenOf own_pd0 rfl) rfl (by exact Nat.le_of_eq rfl) (hd.at 2 rfl) (by decide) (by decide) (by decide) (by decide)) fun T16 X16 e16 => ?_
  refine pt X16 hx #[.val (.ref ed), .val (.double dc), .second, .val (.double d1), .second, .val (.double d2), .second, .val (.int 1), .val (.int (-1)), .val (.double (FP.dsub d2 d1)), .second] (hd.at 3 rfl) rfl ?_
  refine pA X16 hx (hd.at 4 rfl) rfl rfl ?_
  refine pD X16 hx (hd.at 5 rfl) rfl ?_
  refine pd X16 hx (hd.at 6 rfl) rfl ?_
  refine pi X16 hx (hd.at 7 rfl) rfl ?_
  refine pgE (own_private X16 hx hZ (y := yN20) (rm := ⟨4, 0, 0, 62⟩) (W := 0) (a := ed) (argsL := [(.double dc), (.double (FP.dsub d2 d1)), (.int 1)]) (rest := []) hown (wd hw 147 rfl) (wd hw 148 rfl) (wd hw 149 rfl) (wd hw 107 rfl) rfl (wd hw 7 rfl) (wd hw 150 rfl) (rmSE1 l Z a0 hw ed dc (FP.dsub d2 d1) h0 u ct gd px nx fu fc fg nd B hU hN hD hm hL) e16 u1 rfl (by rw [hml]; rfl) (lenOf own_pd4 rfl) rfl (by exact Nat.le_of_eq rfl) (hd.at 8 rfl) (by decide) (by decide) (by decide) (by decide)) fun rv17 T18 mA X18 e18 => ?_
  refine pA X18 hx (hd.at 9 rfl) rfl rfl ?_
  refine pD X18 hx (hd.at 10 rfl) rfl ?_
  refine pd X18 hx (hd.at 11 rfl) rfl ?_
  refine pi X18 hx (hd.at 12 rfl) rfl ?_
  refine pgE (own_private X18 hx hZ (y := yN20) (rm := ⟨4, 0, 0, 62⟩) (W := 2) (a := ed) (argsL := [(.double dc), (.double (FP.dsub d2 d1)), (.int (-1))]) (rest := [(.double rv17)]) hown (wd hw 147 rfl) (wd hw 148 rfl) (wd hw 149 rfl) (wd hw 107 rfl) rfl (wd hw 7 rfl) (wd hw 150 rfl) (rmSEM l Z a0 hw ed dc (FP.dsub d2 d1) h0 hm hL) e18 u1 rfl (by rw [hml]; rfl) (lenOf own_pd4 rfl) rfl (by exact Nat.le_of_eq rfl) (hd.at 13 rfl) (by decide) (by decide) (by decide) (by decide)) fun rv19 T20 mB X20 e20 => ?_
  refine pg1 (own_mathB X20 hx hZ (y := Jvm.Free.Fl.Abs.maxDN) (bytes := Jvm.Free.Fl.Abs.maxDCode) (maxL := 4) (W := 0) (argsL := [(.double rv17), (.double rv19)]) (rest := []) (w := (Native.java_lang_Math.nans.pick64 true rv17 rv19)) hown (wd hw 167 rfl) (wd hw 163 rfl) (wd hw 86 rfl) (wd hw 164 rfl) (fun hc => Jvm.Free.Fl.Abs.maxD_pays (W := 0) rv17 rv19 hc (by decide) (by decide)) (fun _ _ _ _ q => q) e20 rfl (by rw [hml]; rfl) (lenOf own_pd0 rfl) rfl (by exact Nat.le_of_eq rfl) (hd.at 14 rfl) (fun _ => ⟨Nat.zero_le _, Nat.zero_le _, rfl, own_mn mA, own_mn mB⟩)) fun T21 X21 e21 => ?_
  exact own_ret X21 hx (t := .double) hret hlk rfl (Or.inr (Or.inr (Or.inl ⟨rfl, rfl, _, rfl⟩))) (hd.at 15 rfl) (by decide) (by decide) ⟨⟨_, rfl, trivial⟩, e21, rfl⟩
set_option maxRecDepth 65536 in
set_option maxHeartbeats 40000000 in
theorem rmJE31 (l : Launch) (Z : State) (a0 : Array Value) (hw : ∀ d ∈ tables_1, d.before a0 Z = true) (ed : Addr) (h0 : Heap) (u ct gd px nx : Addr) (fu fc : Nat → UInt64) (fg : Nat → Int32) (nd : UInt64) (B : ORd Z h0 ed u ct gd px nx fu fc fg own_p3 own_n3 nd) (hU : OUp fu) (hN : OCn fc) (hD : Mag64 1088 nd)  :
    OMet l Z yN16 prog_72_method_25_code 3 (some .double) (⟨6, 0, 0, 109⟩ : Room) #[(.ref ed), (.int 1)] h0 (fun v h L => (∃ w, v = some (.double w) ∧ True) ∧ h = h0 ∧ L = []) := by
  refine own_enter own_pn16 ?_
  intro p e s m below meth c T0 X0 hC e0 hnamed
  have hC0 := hC
  obtain ⟨hx, hZH, hby, hml, hown, hret, hlk, hnm⟩ := hC
  have hZ := hZH.wide
  have hown : s.vm.findClass "com/example/rankfold/rankfold/summaries/BucketEditor" = some m.cls := hown
  refine own_at (own_ef16_RI m ed (1 : Int32)) ?_
  have hd := D16.to hby
  obtain ⟨u1, u2, u3, u4, u5, u6, u7, u8, u9, u10, u11, u12, u13, u14, u15⟩ := id B
  refine pA X0 hx (hd.at 0 rfl) rfl rfl ?_
  refine pF X0 hx hZ hown (wd hw 38 rfl) e0 u6 (hd.at 1 rfl) fun T16 X16 e16 => ?_
  refine pI X16 hx (hd.at 2 rfl) rfl ?_
  refine rI X16 hx hZ e16 u15 1 (.int 2) rfl (hd.at 3 rfl) ?_
  refine pS X16 hx #[.val (.ref ed), .val (.int 1), .val (.int 2)] (hd.at 4 rfl) rfl ?_
  refine pA X16 hx (hd.at 5 rfl) rfl rfl ?_
  refine pA X16 hx (hd.at 6 rfl) rfl rfl ?_
  refine pF X16 hx hZ hown (wd hw 31 rfl) e16 u3 (hd.at 7 rfl) fun T17 X17 e17 => ?_
  refine pI X17 hx (hd.at 8 rfl) rfl ?_
  refine rD X17 hx hZ e17 u12 1 (.double (fc 1)) rfl (hd.at 9 rfl) ?_
  refine pA X17 hx (hd.at 10 rfl) rfl rfl ?_
  refine pF X17 hx hZ hown (wd hw 31 rfl) e17 u3 (hd.at 11 rfl) fun T18 X18 e18 => ?_
  refine pI X18 hx (hd.at 12 rfl) rfl ?_
  refine rD X18 hx hZ e18 u12 2 (.double (fc 2)) rfl (hd.at 13 rfl) ?_
  have mg_dc : Mag64 1064 (FP.dadd (fc 1) (fc 2)) := Jvm.Free.Fl.dadd_mag (hN 1 (by decide)) (hN 2 (by decide)) (by decide)
  refine pR (fun _ kS => Jvm.Free.XS.daddS X18.here hx rfl (v := (FP.dadd (fc 1) (fc 2))) (hd.at 14 rfl) rfl (own_mn mg_dc) rfl kS) ?_
  generalize (FP.dadd (fc 1) (fc 2)) = dc at mg_dc ⊢
  refine pA X18 hx (hd.at 15 rfl) rfl rfl ?_
  refine pF X18 hx hZ hown (wd hw 29 rfl) e18 u2 (hd.at 16 rfl) fun T19 X19 e19 => ?_
  refine pA X19 hx (hd.at 17 rfl) rfl rfl ?_
  refine pF X19 hx hZ hown (wd hw 36 rfl) e19 u5 (hd.at 18 rfl) fun T20 X20 e20 => ?_
  refine pI X20 hx (hd.at 19 rfl) rfl ?_
  refine rI X20 hx hZ e20 u14 1 (.int 0) rfl (hd.at 20 rfl) ?_
  refine rD X20 hx hZ e20 u11 0 (.double (fu 0)) rfl (hd.at 21 rfl) ?_
  refine pA X20 hx (hd.at 22 rfl) rfl rfl ?_
  refine pF X20 hx hZ hown (wd hw 29 rfl) e20 u2 (hd.at 23 rfl) fun T21 X21 e21 => ?_
  refine pI X21 hx (hd.at 24 rfl) rfl ?_
  refine rD X21 hx hZ e21 u11 2 (.double (fu 2)) rfl (hd.at 25 rfl) ?_
  refine pA X21 hx (hd.at 26 rfl) rfl rfl ?_
  refine pF X21 hx hZ hown (wd hw 36 rfl) e21 u5 (hd.at 27 rfl) fun T22 X22 e22 => ?_
  refine pI X22 hx (hd.at 28 rfl) rfl ?_
  refine rI X22 hx hZ e22 u14 1 (.int 0) rfl (hd.at 29 rfl) ?_
  refine pA X22 hx (hd.at 30 rfl) rfl rfl ?_
  refine pF X22 hx hZ hown (wd hw 38 rfl) e22 u6 (hd.at 31 rfl) fun T23 X23 e23 => ?_
  refine pI X23 hx (hd.at 32 rfl) rfl ?_
  refine rI X23 hx hZ e23 u15 2 (.int (-1)) rfl (hd.at 33 rfl) ?_
  refine pgE (own_private X23 hx hZ (y := yN17) (rm := ⟨5, 0, 0, 87⟩) (W := 0) (a := ed) (argsL := [(.double dc), (.double (fu 0)), (.double (fu 2)), (.int 0), (.int (-1))]) (rest := []) hown (wd hw 135 rfl) (wd hw 136 rfl) (wd hw 137 rfl) (wd hw 107 rfl) rfl (wd hw 7 rfl) (wd hw 138 rfl) (rmEO0M l Z a0 hw ed dc (fu 0) (fu 2) h0 u ct gd px nx fu fc fg nd B hU hN hD mg_dc (hU.2 0 2 (by decide) (by decide))) e23 u1 rfl (by rw [hml]; rfl) (lenOf own_pd5 rfl) rfl (by exact Nat.le_of_eq rfl) (hd.at 34 rfl) (by decide) (by decide) (by decide) (by decide)) fun rv24 T25 _ X25 e25 => ?_
  exact own_ret X25 hx (t := .double) hret hlk rfl (Or.inr (Or.inr (Or.inl ⟨rfl, rfl, _, rfl⟩))) (hd.at 35 rfl) (by decide) (by decide) ⟨⟨_, rfl, trivial⟩, e25, rfl⟩
set_option maxRecDepth 65536 in
set_option maxHeartbeats 40000000 in
theorem rmJE41 (l : Launch) (Z : State) (a0 : Array Value) (hw : ∀ d ∈ tables_1, d.before a0 Z = true) (ed : Addr) (h0 : Heap) (u ct gd px nx : Addr) (fu fc : Nat → UInt64) (fg : Nat → Int32) (nd : UInt64) (B : ORd Z h0 ed u ct gd px nx fu fc fg own_p4 own_n4 nd) (hU : OUp fu) (hN : OCn fc) (hD : Mag64 1088 nd)  :
    OMet l Z yN16 prog_72_method_25_code 3 (some .double) (⟨6, 0, 0, 109⟩ : Room) #[(.ref ed), (.int 1)] h0 (fun v h L => (∃ w, v = some (.double w) ∧ True) ∧ h = h0 ∧ L = []) := by
  refine own_enter own_pn16 ?_
  intro p e s m below meth c T0 X0 hC e0 hnamed
  have hC0 := hC
  obtain ⟨hx, hZH, hby, hml, hown, hret, hlk, hnm⟩ := hC
  have hZ := hZH.wide
  have hown : s.vm.findClass "com/example/rankfold/rankfold/summaries/BucketEditor" = some m.cls := hown
  refine own_at (own_ef16_RI m ed (1 : Int32)) ?_
  have hd := D16.to hby
  obtain ⟨u1, u2, u3, u4, u5, u6, u7, u8, u9, u10, u11, u12, u13, u14, u15⟩ := id B
  refine pA X0 hx (hd.at 0 rfl) rfl rfl ?_
  refine pF X0 hx hZ hown (wd hw 38 rfl) e0 u6 (hd.at 1 rfl) fun T16 X16 e16 => ?_
  refine pI X16 hx (hd.at 2 rfl) rfl ?_
  refine rI X16 hx hZ e16 u15 1 (.int 2) rfl (hd.at 3 rfl) ?_
  refine pS X16 hx #[.val (.ref ed), .val (.int 1), .val (.int 2)] (hd.at 4 rfl) rfl ?_
  refine pA X16 hx (hd.at 5 rfl) rfl rfl ?_
  refine pA X16 hx (hd.at 6 rfl) rfl rfl ?_
  refine pF X16 hx hZ hown (wd hw 31 rfl) e16 u3 (hd.at 7 rfl) fun T17 X17 e17 => ?_
  refine pI X17 hx (hd.at 8 rfl) rfl ?_
  refine rD X17 hx hZ e17 u12 1 (.double (fc 1)) rfl (hd.at 9 rfl) ?_
  refine pA X17 hx (hd.at 10 rfl) rfl rfl ?_
  refine pF X17 hx hZ hown (wd hw 31 rfl) e17 u3 (hd.at 11 rfl) fun T18 X18 e18 => ?_
  refine pI X18 hx (hd.at 12 rfl) rfl ?_
  refine rD X18 hx hZ e18 u12 2 (.double (fc 2)) rfl (hd.at 13 rfl) ?_
  have mg_dc : Mag64 1064 (FP.dadd (fc 1) (fc 2)) := Jvm.Free.Fl.dadd_mag (hN 1 (by decide)) (hN 2 (by decide)) (by decide)
  refine pR (fun _ kS => Jvm.Free.XS.daddS X18.here hx rfl (v := (FP.dadd (fc 1) (fc 2))) (hd.at 14 rfl) rfl (own_mn mg_dc) rfl kS) ?_
  generalize (FP.dadd (fc 1) (fc 2)) = dc at mg_dc ⊢
  refine pA X18 hx (hd.at 15 rfl) rfl rfl ?_
  refine pF X18 hx hZ hown (wd hw 29 rfl) e18 u2 (hd.at 16 rfl) fun T19 X19 e19 => ?_
  refine pA X19 hx (hd.at 17 rfl) rfl rfl ?_
  refine pF X19 hx hZ hown (wd hw 36 rfl) e19 u5 (hd.at 18 rfl) fun T20 X20 e20 => ?_
  refine pI X20 hx (hd.at 19 rfl) rfl ?_
  refine rI X20 hx hZ e20 u14 1 (.int 0) rfl (hd.at 20 rfl) ?_
  refine rD X20 hx hZ e20 u11 0 (.double (fu 0)) rfl (hd.at 21 rfl) ?_
  refine pA X20 hx (hd.at 22 rfl) rfl rfl ?_
  refine pF X20 hx hZ hown (wd hw 29 rfl) e20 u2 (hd.at 23 rfl) fun T21 X21 e21 => ?_
  refine pI X21 hx (hd.at 24 rfl) rfl ?_
  refine rD X21 hx hZ e21 u11 2 (.double (fu 2)) rfl (hd.at 25 rfl) ?_
  refine pA X21 hx (hd.at 26 rfl) rfl rfl ?_
  refine pF X21 hx hZ hown (wd hw 36 rfl) e21 u5 (hd.at 27 rfl) fun T22 X22 e22 => ?_
  refine pI X22 hx (hd.at 28 rfl) rfl ?_
  refine rI X22 hx hZ e22 u14 1 (.int 0) rfl (hd.at 29 rfl) ?_
  refine pA X22 hx (hd.at 30 rfl) rfl rfl ?_
  refine pF X22 hx hZ hown (wd hw 38 rfl) e22 u6 (hd.at 31 rfl) fun T23 X23 e23 => ?_
  refine pI X23 hx (hd.at 32 rfl) rfl ?_
  refine rI X23 hx hZ e23 u15 2 (.int 3) rfl (hd.at 33 rfl) ?_
  refine pgE (own_private X23 hx hZ (y := yN17) (rm := ⟨5, 0, 0, 87⟩) (W := 0) (a := ed) (argsL := [(.double dc), (.double (fu 0)), (.double (fu 2)), (.int 0), (.int 3)]) (rest := []) hown (wd hw 135 rfl) (wd hw 136 rfl) (wd hw 137 rfl) (wd hw 107 rfl) rfl (wd hw 7 rfl) (wd hw 138 rfl) (rmEO03 l Z a0 hw ed dc (fu 0) (fu 2) h0 u ct gd px nx fu fc fg nd B hU hN hD mg_dc (hU.2 0 2 (by decide) (by decide))) e23 u1 rfl (by rw [hml]; rfl) (lenOf own_pd5 rfl) rfl (by exact Nat.le_of_eq rfl) (hd.at 34 rfl) (by decide) (by decide) (by decide) (by decide)) fun rv24 T25 _ X25 e25 => ?_
  exact own_ret X25 hx (t := .double) hret hlk rfl (Or.inr (Or.inr (Or.inl ⟨rfl, rfl, _, rfl⟩))) (hd.at 35 rfl) (by decide) (by decide) ⟨⟨_, rfl, trivial⟩, e25, rfl⟩
set_option maxRecDepth 65536 in
set_option maxHeartbeats 40000000 in
theorem rmJE42 (l : Launch) (Z : State) (a0 : Array Value) (hw : ∀ d ∈ tables_1, d.before a0 Z = true) (ed : Addr) (h0 : Heap) (u ct gd px nx : Addr) (fu fc : Nat → UInt64) (fg : Nat → Int32) (nd : UInt64) (B : ORd Z h0 ed u ct gd px nx fu fc fg own_p4 own_n4 nd) (hU : OUp fu) (hN : OCn fc) (hD : Mag64 1088 nd)  :
    OMet l Z yN16 prog_72_method_25_code 3 (some .double) (⟨6, 0, 0, 109⟩ : Room) #[(.ref ed), (.int 2)] h0 (fun v h L => (∃ w, v = some (.double w) ∧ True) ∧ h = h0 ∧ L = []) := by
  refine own_enter own_pn16 ?_
  intro p e s m below meth c T0 X0 hC e0 hnamed
  have hC0 := hC
  obtain ⟨hx, hZH, hby, hml, hown, hret, hlk, hnm⟩ := hC
  have hZ := hZH.wide
  have hown : s.vm.findClass "com/example/rankfold/rankfold/summaries/BucketEditor" = some m.cls := hown
  refine own_at (own_ef16_RI m ed (2 : Int32)) ?_
  have hd := D16.to hby
  obtain ⟨u1, u2, u3, u4, u5, u6, u7, u8, u9, u10, u11, u12, u13, u14, u15⟩ := id B
  refine pA X0 hx (hd.at 0 rfl) rfl rfl ?_
  refine pF X0 hx hZ hown (wd hw 38 rfl) e0 u6 (hd.at 1 rfl) fun T16 X16 e16 => ?_
  refine pI X16 hx (hd.at 2 rfl) rfl ?_
  refine rI X16 hx hZ e16 u15 2 (.int 3) rfl (hd.at 3 rfl) ?_
  refine pS X16 hx #[.val (.ref ed), .val (.int 2), .val (.int 3)] (hd.at 4 rfl) rfl ?_
  refine pA X16 hx (hd.at 5 rfl) rfl rfl ?_
  refine pA X16 hx (hd.at 6 rfl) rfl rfl ?_
  refine pF X16 hx hZ hown (wd hw 31 rfl) e16 u3 (hd.at 7 rfl) fun T17 X17 e17 => ?_
  refine pI X17 hx (hd.at 8 rfl) rfl ?_
  refine rD X17 hx hZ e17 u12 2 (.double (fc 2)) rfl (hd.at 9 rfl) ?_
  refine pA X17 hx (hd.at 10 rfl) rfl rfl ?_
  refine pF X17 hx hZ hown (wd hw 31 rfl) e17 u3 (hd.at 11 rfl) fun T18 X18 e18 => ?_
  refine pI X18 hx (hd.at 12 rfl) rfl ?_
  refine rD X18 hx hZ e18 u12 3 (.double (fc 3)) rfl (hd.at 13 rfl) ?_
  have mg_dc : Mag64 1064 (FP.dadd (fc 2) (fc 3)) := Jvm.Free.Fl.dadd_mag (hN 2 (by decide)) (hN 3 (by decide)) (by decide)
  refine pR (fun _ kS => Jvm.Free.XS.daddS X18.here hx rfl (v := (FP.dadd (fc 2) (fc 3))) (hd.at 14 rfl) rfl (own_mn mg_dc) rfl kS) ?_
  generalize (FP.dadd (fc 2) (fc 3)) = dc at mg_dc ⊢
  refine pA X18 hx (hd.at 15 rfl) rfl rfl ?_
  refine pF X18 hx hZ hown (wd hw 29 rfl) e18 u2 (hd.at 16 rfl) fun T19 X19 e19 => ?_
  refine pA X19 hx (hd.at 17 rfl) rfl rfl ?_
  refine pF X19 hx hZ hown (wd hw 36 rfl) e19 u5 (hd.at 18 rfl) fun T20 X20 e20 => ?_
  refine pI X20 hx (hd.at 19 rfl) rfl ?_
  refine rI X20 hx hZ e20 u14 2 (.int 1) rfl (hd.at 20 rfl) ?_
  refine rD X20 hx hZ e20 u11 1 (.double (fu 1)) rfl (hd.at 21 rfl) ?_
  refine pA X20 hx (hd.at 22 rfl) rfl rfl ?_
  refine pF X20 hx hZ hown (wd hw 29 rfl) e20 u2 (hd.at 23 rfl) fun T21 X21 e21 => ?_
  refine pI X21 hx (hd.at 24 rfl) rfl ?_
  refine rD X21 hx hZ e21 u11 3 (.double (fu 3)) rfl (hd.at 25 rfl) ?_
  refine pA X21 hx (hd.at 26 rfl) rfl rfl ?_
  refine pF X21 hx hZ hown (wd hw 36 rfl) e21 u5 (hd.at 27 rfl) fun T22 X22 e22 => ?_
  refine pI X22 hx (hd.at 28 rfl) rfl ?_
  refine rI X22 hx hZ e22 u14 2 (.int 1) rfl (hd.at 29 rfl) ?_
  refine pA X22 hx (hd.at 30 rfl) rfl rfl ?_
  refine pF X22 hx hZ hown (wd hw 38 rfl) e22 u6 (hd.at 31 rfl) fun T23 X23 e23 => ?_
  refine pI X23 hx (hd.at 32 rfl) rfl ?_
  refine rI X23 hx hZ e23 u15 3 (.int (-1)) rfl (hd.at 33 rfl) ?_
  refine pgE (own_private X23 hx hZ (y := yN17) (rm := ⟨5, 0, 0, 87⟩) (W := 0) (a := ed) (argsL := [(.double dc), (.double (fu 1)), (.double (fu 3)), (.int 1), (.int (-1))]) (rest := []) hown (wd hw 135 rfl) (wd hw 136 rfl) (wd hw 137 rfl) (wd hw 107 rfl) rfl (wd hw 7 rfl) (wd hw 138 rfl) (rmEO1M l Z a0 hw ed dc (fu 1) (fu 3) h0 u ct gd px nx fu fc fg nd B hU hN hD mg_dc (hU.2 1 3 (by decide) (by decide))) e23 u1 rfl (by rw [hml]; rfl) (lenOf own_pd5 rfl) rfl (by exact Nat.le_of_eq rfl) (hd.at 34 rfl) (by decide) (by decide) (by decide) (by decide)) fun rv24 T25 _ X25 e25 => ?_
  exact own_ret X25 hx (t := .double) hret hlk rfl (Or.inr (Or.inr (Or.inl ⟨rfl, rfl, _, rfl⟩))) (hd.at 35 rfl) (by decide) (by decide) ⟨⟨_, rfl, trivial⟩, e25, rfl⟩
set_option maxRecDepth 65536 in
set_option maxHeartbeats 40000000 in
theorem rmSB (l : Launch) (Z : State) (a0 : Array Value) (hw : ∀ d ∈ tables_1, d.before a0 Z = true) (ed : Addr) (h0 : Heap) (u ct gd px nx : Addr) (fu fc : Nat → UInt64) (fg : Nat → Int32) (nd : UInt64) (fp fn : Nat → Int32) (B : ORd Z h0 ed u ct gd px nx fu fc fg fp fn nd) (hD : Mag64 1088 nd) :
    OMet l Z yN14 prog_72_method_18_code 1 (some .double) (⟨0, 0, 0, 0⟩ : Room) #[(.ref ed)] h0 (fun v h L => (∃ w, v = some (.double w) ∧ Mag64 1092 w) ∧ h = h0 ∧ L = []) := by
  refine own_enter own_pn14 ?_
  intro p e s m below meth c T0 X0 hC e0 hnamed
  have hC0 := hC
  obtain ⟨hx, hZH, hby, hml, hown, hret, hlk, hnm⟩ := hC
  have hZ := hZH.wide
  have hown : s.vm.findClass "com/example/rankfold/rankfold/summaries/BucketEditor" = some m.cls := hown
  refine own_at (own_ef14_R m ed) ?_
  have hd := D14.to hby
  obtain ⟨u1, u2, u3, u4, u5, u6, u7, u8, u9, u10, u11, u12, u13, u14, u15⟩ := id B
  have o4 : OPos (FP.i2d (4 : Int32)) := ⟨4, by decide, by decide, rfl⟩
  refine pA X0 hx (hd.at 0 rfl) rfl rfl ?_
  refine pF X0 hx hZ hown (wd hw 23 rfl) e0 u9 (hd.at 1 rfl) fun T16 X16 e16 => ?_
  refine pA X16 hx (hd.at 2 rfl) rfl rfl ?_
  refine pF X16 hx hZ hown (wd hw 19 rfl) e16 u7 (hd.at 3 rfl) fun T17 X17 e17 => ?_
  have mg_dx : Mag64 1091 (FP.dmul (4613937818241073152 : UInt64) nd) := own_mul own_c3 hD (by decide) (by decide) (by decide)
  refine pR (fun _ kS => Jvm.Free.XS.dmulS X17.here hx rfl (v := (FP.dmul (4613937818241073152 : UInt64) nd)) (hd.at 4 rfl) rfl (own_mn mg_dx) rfl kS) ?_
  generalize (FP.dmul (4613937818241073152 : UInt64) nd) = dx at mg_dx ⊢
  refine pA X17 hx (hd.at 5 rfl) rfl rfl ?_
  refine pF X17 hx hZ hown (wd hw 17 rfl) e17 u10 (hd.at 6 rfl) fun T18 X18 e18 => ?_
  refine o_i2d X18 hx (hd.at 7 rfl) ?_
  have mg_dy : Mag64 1092 (FP.ddiv dx (FP.i2d (4 : Int32))) := own_dv mg_dx o4
  refine pR (fun _ kS => Jvm.Free.XS.ddivS X18.here hx rfl (v := (FP.ddiv dx (FP.i2d (4 : Int32)))) (hd.at 8 rfl) rfl (own_mn mg_dy) rfl kS) ?_
  generalize (FP.ddiv dx (FP.i2d (4 : Int32))) = dy at mg_dy ⊢
  exact own_ret X18 hx (t := .double) hret hlk rfl (Or.inr (Or.inr (Or.inl ⟨rfl, rfl, _, rfl⟩))) (hd.at 9 rfl) (by decide) (by decide) ⟨⟨_, rfl, mg_dy⟩, e18, rfl⟩
set_option maxRecDepth 65536 in
set_option maxHeartbeats 40000000 in
theorem rmIJ31 (l : Launch) (Z : State) (a0 : Array Value) (hw : ∀ d ∈ tables_1, d.before a0 Z = true) (ed : Addr) (h0 : Heap) (u ct gd px nx : Addr) (fu fc : Nat → UInt64) (fg : Nat → Int32) (nd : UInt64) (B : ORd Z h0 ed u ct gd px nx fu fc fg own_p3 own_n3 nd) (hU : OUp fu) (hN : OCn fc) (hD : Mag64 1088 nd)  :
    OMet l Z yN13 prog_72_method_20_code 2 (some .boolean) (⟨1, 0, 0, 20⟩ : Room) #[(.ref ed), (.int 1)] h0 (fun v h L => (∃ r : Int32, v = some (.int r)) ∧ h = h0 ∧ L = []) := by
  refine own_enter own_pn13 ?_
  intro p e s m below meth c T0 X0 hC e0 hnamed
  have hC0 := hC
  obtain ⟨hx, hZH, hby, hml, hown, hret, hlk, hnm⟩ := hC
  have hZ := hZH.wide
  have hown : s.vm.findClass "com/example/rankfold/rankfold/summaries/BucketEditor" = some m.cls := hown
  refine own_at (own_ef13_RI m ed (1 : Int32)) ?_
  have hd := D13.to hby
  obtain ⟨u1, u2, u3, u4, u5, u6, u7, u8, u9, u10, u11, u12, u13, u14, u15⟩ := id B
  refine pA X0 hx (hd.at 0 rfl) rfl rfl ?_
  refine pF X0 hx hZ hown (wd hw 33 rfl) e0 u4 (hd.at 1 rfl) fun T16 X16 e16 => ?_
  refine pI X16 hx (hd.at 2 rfl) rfl ?_
  refine rZ X16 hx hZ e16 u13 1 (.int (fg 1)) rfl (hd.at 3 rfl) ?_
  by_cases c1 : (fg 1) = (0 : Int32)
  · refine pfN X16 hx (hd.at 4 rfl) ((if0 _ _).trans (teq c1).2) ?_
    refine pA X16 hx (hd.at 5 rfl) rfl rfl ?_
    refine pF X16 hx hZ hown (wd hw 31 rfl) e16 u3 (hd.at 6 rfl) fun T17 X17 e17 => ?_
    refine pI X17 hx (hd.at 7 rfl) rfl ?_
    refine rD X17 hx hZ e17 u12 1 (.double (fc 1)) rfl (hd.at 8 rfl) ?_
    refine pA X17 hx (hd.at 9 rfl) rfl rfl ?_
    refine pF X17 hx hZ hown (wd hw 31 rfl) e17 u3 (hd.at 10 rfl) fun T18 X18 e18 => ?_
    refine pA X18 hx (hd.at 11 rfl) rfl rfl ?_
    refine pF X18 hx hZ hown (wd hw 38 rfl) e18 u6 (hd.at 12 rfl) fun T19 X19 e19 => ?_
    refine pI X19 hx (hd.at 13 rfl) rfl ?_
    refine rI X19 hx hZ e19 u15 1 (.int 2) rfl (hd.at 14 rfl) ?_
    refine rD X19 hx hZ e19 u12 2 (.double (fc 2)) rfl (hd.at 15 rfl) ?_
    have mg_dx : Mag64 1064 (FP.dadd (fc 1) (fc 2)) := Jvm.Free.Fl.dadd_mag (hN 1 (by decide)) (hN 2 (by decide)) (by decide)
    refine pR (fun _ kS => Jvm.Free.XS.daddS X19.here hx rfl (v := (FP.dadd (fc 1) (fc 2))) (hd.at 16 rfl) rfl (own_mn mg_dx) rfl kS) ?_
    generalize (FP.dadd (fc 1) (fc 2)) = dx at mg_dx ⊢
    refine pL (X19.ldc2DoubleC hx hown (mvT hZ (wd hw 117 rfl)) rfl (hd.at 17 rfl)) ?_
    refine pA X19 hx (hd.at 18 rfl) rfl rfl ?_
    refine pgE (own_private X19 hx hZ (y := yN14) (rm := ⟨0, 0, 0, 0⟩) (W := 4) (a := ed) (argsL := []) (rest := [(.double 4604930618986332160), (.double dx)]) hown (wd hw 118 rfl) (wd hw 119 rfl) (wd hw 120 rfl) (wd hw 107 rfl) rfl (wd hw 7 rfl) (wd hw 121 rfl) (rmSB l Z a0 hw ed h0 u ct gd px nx fu fc fg nd own_p3 own_n3 B hD) e19 u1 rfl (by rw [hml]; rfl) (lenOf own_pd6 rfl) rfl (by exact Nat.le_of_eq rfl) (hd.at 19 rfl) (by decide) (by decide) (by decide) (by decide)) fun rv20 T21 mS X21 e21 => ?_
    have mg_dy : Mag64 1095 (FP.dmul (4604930618986332160 : UInt64) rv20) := own_mul own_c34 mS (by decide) (by decide) (by decide)
    refine pR (fun _ kS => Jvm.Free.XS.dmulS X21.here hx rfl (v := (FP.dmul (4604930618986332160 : UInt64) rv20)) (hd.at 20 rfl) rfl (own_mn mg_dy) rfl kS) ?_
    generalize (FP.dmul (4604930618986332160 : UInt64) rv20) = dy at mg_dy ⊢
    refine pR (own_dcmpg X21 hx rfl (hd.at 21 rfl) rfl) ?_
    by_cases c2 : (0 : Int32) < (cmpValue (FP.dcmp dx dy) .g)
    · refine pfY X21 hx 43 (hd.at 22 rfl) ((if0 _ _).trans (tlt c2).2.2.1) ?_
      refine pC X21 hx 0 (hd.at 23 rfl) rfl ?_
      exact own_ret X21 hx (t := .boolean) hret hlk rfl (Or.inl ⟨rfl, by simp, _, rfl⟩) (hd.at 24 rfl) (by decide) (by decide) ⟨⟨_, rfl⟩, e21, rfl⟩
    · refine pfN X21 hx (hd.at 22 rfl) ((if0 _ _).trans (flt c2).2.2.1) ?_
      refine pC X21 hx 1 (hd.at 25 rfl) rfl ?_
      refine pG X21 hx 44 (hd.at 26 rfl) ?_
      exact own_ret X21 hx (t := .boolean) hret hlk rfl (Or.inl ⟨rfl, by simp, _, rfl⟩) (hd.at 24 rfl) (by decide) (by decide) ⟨⟨_, rfl⟩, e21, rfl⟩
  · refine pfY X16 hx 43 (hd.at 4 rfl) ((if0 _ _).trans (feq c1).2) ?_
    refine pC X16 hx 0 (hd.at 23 rfl) rfl ?_
    exact own_ret X16 hx (t := .boolean) hret hlk rfl (Or.inl ⟨rfl, by simp, _, rfl⟩) (hd.at 24 rfl) (by decide) (by decide) ⟨⟨_, rfl⟩, e16, rfl⟩
set_option maxRecDepth 65536 in
set_option maxHeartbeats 40000000 in
theorem rmIJ41 (l : Launch) (Z : State) (a0 : Array Value) (hw : ∀ d ∈ tables_1, d.before a0 Z = true) (ed : Addr) (h0 : Heap) (u ct gd px nx : Addr) (fu fc : Nat → UInt64) (fg : Nat → Int32) (nd : UInt64) (B : ORd Z h0 ed u ct gd px nx fu fc fg own_p4 own_n4 nd) (hU : OUp fu) (hN : OCn fc) (hD : Mag64 1088 nd)  :
    OMet l Z yN13 prog_72_method_20_code 2 (some .boolean) (⟨1, 0, 0, 20⟩ : Room) #[(.ref ed), (.int 1)] h0 (fun v h L => (∃ r : Int32, v = some (.int r)) ∧ h = h0 ∧ L = []) := by
  refine own_enter own_pn13 ?_
  intro p e s m below meth c T0 X0 hC e0 hnamed
  have hC0 := hC
  obtain ⟨hx, hZH, hby, hml, hown, hret, hlk, hnm⟩ := hC
  have hZ := hZH.wide
  have hown : s.vm.findClass "com/example/rankfold/rankfold/summaries/BucketEditor" = some m.cls := hown
  refine own_at (own_ef13_RI m ed (1 : Int32)) ?_
  have hd := D13.to hby
  obtain ⟨u1, u2, u3, u4, u5, u6, u7, u8, u9, u10, u11, u12, u13, u14, u15⟩ := id B
  refine pA X0 hx (hd.at 0 rfl) rfl rfl ?_
  refine pF X0 hx hZ hown (wd hw 33 rfl) e0 u4 (hd.at 1 rfl) fun T16 X16 e16 => ?_
  refine pI X16 hx (hd.at 2 rfl) rfl ?_
  refine rZ X16 hx hZ e16 u13 1 (.int (fg 1)) rfl (hd.at 3 rfl) ?_
  by_cases c1 : (fg 1) = (0 : Int32)
  · refine pfN X16 hx (hd.at 4 rfl) ((if0 _ _).trans (teq c1).2) ?_
    refine pA X16 hx (hd.at 5 rfl) rfl rfl ?_
    refine pF X16 hx hZ hown (wd hw 31 rfl) e16 u3 (hd.at 6 rfl) fun T17 X17 e17 => ?_
    refine pI X17 hx (hd.at 7 rfl) rfl ?_
    refine rD X17 hx hZ e17 u12 1 (.double (fc 1)) rfl (hd.at 8 rfl) ?_
    refine pA X17 hx (hd.at 9 rfl) rfl rfl ?_
    refine pF X17 hx hZ hown (wd hw 31 rfl) e17 u3 (hd.at 10 rfl) fun T18 X18 e18 => ?_
    refine pA X18 hx (hd.at 11 rfl) rfl rfl ?_
    refine pF X18 hx hZ hown (wd hw 38 rfl) e18 u6 (hd.at 12 rfl) fun T19 X19 e19 => ?_
    refine pI X19 hx (hd.at 13 rfl) rfl ?_
    refine rI X19 hx hZ e19 u15 1 (.int 2) rfl (hd.at 14 rfl) ?_
    refine rD X19 hx hZ e19 u12 2 (.double (fc 2)) rfl (hd.at 15 rfl) ?_
    have mg_dx : Mag64 1064 (FP.dadd (fc 1) (fc 2)) := Jvm.Free.Fl.dadd_mag (hN 1 (by decide)) (hN 2 (by decide)) (by decide)
    refine pR (fun _ kS => Jvm.Free.XS.daddS X19.here hx rfl (v := (FP.dadd (fc 1) (fc 2))) (hd.at 16 rfl) rfl (own_mn mg_dx) rfl kS) ?_
    generalize (FP.dadd (fc 1) (fc 2)) = dx at mg_dx ⊢
    refine pL (X19.ldc2DoubleC hx hown (mvT hZ (wd hw 117 rfl)) rfl (hd.at 17 rfl)) ?_
    refine pA X19 hx (hd.at 18 rfl) rfl rfl ?_
    refine pgE (own_private X19 hx hZ (y := yN14) (rm := ⟨0, 0, 0, 0⟩) (W := 4) (a := ed) (argsL := []) (rest := [(.double 4604930618986332160), (.double dx)]) hown (wd hw 118 rfl) (wd hw 119 rfl) (wd hw 120 rfl) (wd hw 107 rfl) rfl (wd hw 7 rfl) (wd hw 121 rfl) (rmSB l Z a0 hw ed h0 u ct gd px nx fu fc fg nd own_p4 own_n4 B hD) e19 u1 rfl (by rw [hml]; rfl) (lenOf own_pd6 rfl) rfl (by exact Nat.le_of_eq rfl) (hd.at 19 rfl) (by decide) (by decide) (by decide) (by decide)) fun rv20 T21 mS X21 e21 => ?_
    have mg_dy : Mag64 1095 (FP.dmul (4604930618986332160 : UInt64) rv20) := own_mul own_c34 mS (by decide) (by decide) (by decide)
    refine pR (fun _ kS => Jvm.Free.XS.dmulS X21.here hx rfl (v := (FP.dmul (4604930618986332160 : UInt64) rv20)) (hd.at 20 rfl) rfl (own_mn mg_dy) rfl kS) ?_
    generalize (FP.dmul (4604930618986332160 : UInt64) rv20) = dy at mg_dy ⊢
    refine pR (own_dcmpg X21 hx rfl (hd.at 21 rfl) rfl) ?_
    by_cases c2 : (0 : Int32) < (cmpValue (FP.dcmp dx dy) .g)
    · refine pfY X21 hx 43 (hd.at 22 rfl) ((if0 _ _).trans (tlt c2).2.2.1) ?_
      refine pC X21 hx 0 (hd.at 23 rfl) rfl ?_
      exact own_ret X21 hx (t := .boolean) hret hlk rfl (Or.inl ⟨rfl, by simp, _, rfl⟩) (hd.at 24 rfl) (by decide) (by decide) ⟨⟨_, rfl⟩, e21, rfl⟩
    · refine pfN X21 hx (hd.at 22 rfl) ((if0 _ _).trans (flt c2).2.2.1) ?_
      refine pC X21 hx 1 (hd.at 25 rfl) rfl ?_
      refine pG X21 hx 44 (hd.at 26 rfl) ?_
      exact own_ret X21 hx (t := .boolean) hret hlk rfl (Or.inl ⟨rfl, by simp, _, rfl⟩) (hd.at 24 rfl) (by decide) (by decide) ⟨⟨_, rfl⟩, e21, rfl⟩
  · refine pfY X16 hx 43 (hd.at 4 rfl) ((if0 _ _).trans (feq c1).2) ?_
    refine pC X16 hx 0 (hd.at 23 rfl) rfl ?_
    exact own_ret X16 hx (t := .boolean) hret hlk rfl (Or.inl ⟨rfl, by simp, _, rfl⟩) (hd.at 24 rfl) (by decide) (by decide) ⟨⟨_, rfl⟩, e16, rfl⟩
set_option maxRecDepth 65536 in
set_option maxHeartbeats 40000000 in
theorem rmIJ42 (l : Launch) (Z : State) (a0 : Array Value) (hw : ∀ d ∈ tables_1, d.before a0 Z = true) (ed : Addr) (h0 : Heap) (u ct gd px nx : Addr) (fu fc : Nat → UInt64) (fg : Nat → Int32) (nd : UInt64) (B : ORd Z h0 ed u ct gd px nx fu fc fg own_p4 own_n4 nd) (hU : OUp fu) (hN : OCn fc) (hD : Mag64 1088 nd)  :
    OMet l Z yN13 prog_72_method_20_code 2 (some .boolean) (⟨1, 0, 0, 20⟩ : Room) #[(.ref ed), (.int 2)] h0 (fun v h L => (∃ r : Int32, v = some (.int r)) ∧ h = h0 ∧ L = []) := by
  refine own_enter own_pn13 ?_
  intro p e s m below meth c T0 X0 hC e0 hnamed
  have hC0 := hC
  obtain ⟨hx, hZH, hby, hml, hown, hret, hlk, hnm⟩ := hC
  have hZ := hZH.wide
  have hown : s.vm.findClass "com/example/rankfold/rankfold/summaries/BucketEditor" = some m.cls := hown
  refine own_at (own_ef13_RI m ed (2 : Int32)) ?_
  have hd := D13.to hby
  obtain ⟨u1, u2, u3, u4, u5, u6, u7, u8, u9, u10, u11, u12, u13, u14, u15⟩ := id B
  refine pA X0 hx (hd.at 0 rfl) rfl rfl ?_
  refine pF X0 hx hZ hown (wd hw 33 rfl) e0 u4 (hd.at 1 rfl) fun T16 X16 e16 => ?_
  refine pI X16 hx (hd.at 2 rfl) rfl ?_
  refine rZ X16 hx hZ e16 u13 2 (.int (fg 2)) rfl (hd.at 3 rfl) ?_
  by_cases c1 : (fg 2) = (0 : Int32)
  · refine pfN X16 hx (hd.at 4 rfl) ((if0 _ _).trans (teq c1).2) ?_
    refine pA X16 hx (hd.at 5 rfl) rfl rfl ?_
    refine pF X16 hx hZ hown (wd hw 31 rfl) e16 u3 (hd.at 6 rfl) fun T17 X17 e17 => ?_
    refine pI X17 hx (hd.at 7 rfl) rfl ?_
    refine rD X17 hx hZ e17 u12 2 (.double (fc 2)) rfl (hd.at 8 rfl) ?_
    refine pA X17 hx (hd.at 9 rfl) rfl rfl ?_
    refine pF X17 hx hZ hown (wd hw 31 rfl) e17 u3 (hd.at 10 rfl) fun T18 X18 e18 => ?_
    refine pA X18 hx (hd.at 11 rfl) rfl rfl ?_
    refine pF X18 hx hZ hown (wd hw 38 rfl) e18 u6 (hd.at 12 rfl) fun T19 X19 e19 => ?_
    refine pI X19 hx (hd.at 13 rfl) rfl ?_
    refine rI X19 hx hZ e19 u15 2 (.int 3) rfl (hd.at 14 rfl) ?_
    refine rD X19 hx hZ e19 u12 3 (.double (fc 3)) rfl (hd.at 15 rfl) ?_
    have mg_dx : Mag64 1064 (FP.dadd (fc 2) (fc 3)) := Jvm.Free.Fl.dadd_mag (hN 2 (by decide)) (hN 3 (by decide)) (by decide)
    refine pR (fun _ kS => Jvm.Free.XS.daddS X19.here hx rfl (v := (FP.dadd (fc 2) (fc 3))) (hd.at 16 rfl) rfl (own_mn mg_dx) rfl kS) ?_
    generalize (FP.dadd (fc 2) (fc 3)) = dx at mg_dx ⊢
    refine pL (X19.ldc2DoubleC hx hown (mvT hZ (wd hw 117 rfl)) rfl (hd.at 17 rfl)) ?_
    refine pA X19 hx (hd.at 18 rfl) rfl rfl ?_
    refine pgE (own_private X19 hx hZ (y := yN14) (rm := ⟨0, 0, 0, 0⟩) (W := 4) (a := ed) (argsL := []) (rest := [(.double 4604930618986332160), (.double dx)]) hown (wd hw 118 rfl) (wd hw 119 rfl) (wd hw 120 rfl) (wd hw 107 rfl) rfl (wd hw 7 rfl) (wd hw 121 rfl) (rmSB l Z a0 hw ed h0 u ct gd px nx fu fc fg nd own_p4 own_n4 B hD) e19 u1 rfl (by rw [hml]; rfl) (lenOf own_pd6 rfl) rfl (by exact Nat.le_of_eq rfl) (hd.at 19 rfl) (by decide) (by decide) (by decide) (by decide)) fun rv20 T21 mS X21 e21 => ?_
    have mg_dy : Mag64 1095 (FP.dmul (4604930618986332160 : UInt64) rv20) := own_mul own_c34 mS (by decide) (by decide) (by decide)
    refine pR (fun _ kS => Jvm.Free.XS.dmulS X21.here hx rfl (v := (FP.dmul (4604930618986332160 : UInt64) rv20)) (hd.at 20 rfl) rfl (own_mn mg_dy) rfl kS) ?_
    generalize (FP.dmul (4604930618986332160 : UInt64) rv20) = dy at mg_dy ⊢
    refine pR (own_dcmpg X21 hx rfl (hd.at 21 rfl) rfl) ?_
    by_cases c2 : (0 : Int32) < (cmpValue (FP.dcmp dx dy) .g)
    · refine pfY X21 hx 43 (hd.at 22 rfl) ((if0 _ _).trans (tlt c2).2.2.1) ?_
      refine pC X21 hx 0 (hd.at 23 rfl) rfl ?_
      exact own_ret X21 hx (t := .boolean) hret hlk rfl (Or.inl ⟨rfl, by simp, _, rfl⟩) (hd.at 24 rfl) (by decide) (by decide) ⟨⟨_, rfl⟩, e21, rfl⟩
    · refine pfN X21 hx (hd.at 22 rfl) ((if0 _ _).trans (flt c2).2.2.1) ?_
      refine pC X21 hx 1 (hd.at 25 rfl) rfl ?_
      refine pG X21 hx 44 (hd.at 26 rfl) ?_
      exact own_ret X21 hx (t := .boolean) hret hlk rfl (Or.inl ⟨rfl, by simp, _, rfl⟩) (hd.at 24 rfl) (by decide) (by decide) ⟨⟨_, rfl⟩, e21, rfl⟩
  · refine pfY X16 hx 43 (hd.at 4 rfl) ((if0 _ _).trans (feq c1).2) ?_
    refine pC X16 hx 0 (hd.at 23 rfl) rfl ?_
    exact own_ret X16 hx (t := .boolean) hret hlk rfl (Or.inl ⟨rfl, by simp, _, rfl⟩) (hd.at 24 rfl) (by decide) (by decide) ⟨⟨_, rfl⟩, e16, rfl⟩
set_option maxRecDepth 65536 in
set_option maxHeartbeats 40000000 in
theorem rmCo (l : Launch) (Z : State) (a0 : Array Value) (hw : ∀ d ∈ tables_1, d.before a0 Z = true) (t : Addr) (q : Int32) (h0 : Heap) (mm : Addr) (M : Int64) (F_m : Fld Z h0 t "com/example/rankfold/rankfold/summaries/Tournament" "members" "[J" (.ref mm)) (H_m : OArr Z h0 mm .long 1 (fun i => .long (own_q1 M i))) (hq : q / 64 = 0) :
    OMet l Z yN6 prog_86_method_3_code 2 (some .boolean) (⟨0, 0, 0, 0⟩ : Room) #[(.ref t), (.int q)] h0 (fun v h L => v = some (.int (own_has M q)) ∧ h = h0 ∧ L = []) := by
  refine own_enter own_pn6 ?_
  intro p e s m below meth c T0 X0 hC e0 hnamed
  have hC0 := hC
  obtain ⟨hx, hZH, hby, hml, hown, hret, hlk, hnm⟩ := hC
  have hZ := hZH.wide
  have hown : s.vm.findClass "com/example/rankfold/rankfold/summaries/Tournament" = some m.cls := hown
  refine own_at (own_ef6_RI m t q) ?_
  have hd := D6.to hby
  refine pA X0 hx (hd.at 0 rfl) rfl rfl ?_
  refine pF X0 hx hZ hown (wd hw 61 rfl) e0 F_m (hd.at 1 rfl) fun T1 X1 e1 => ?_
  refine pI X1 hx (hd.at 2 rfl) rfl ?_
  refine pB X1 hx 64 (hd.at 3 rfl) rfl ?_
  refine o_idiv X1 hx (hd.at 4 rfl) (by decide) ?_
  rw [hq]
  refine rJ X1 hx hZ e1 H_m 0 (.long M) rfl (hd.at 5 rfl) ?_
  refine own_st (fun _ kS => XS.lconst X1.here hx rfl (hd.at 6 rfl) kS) ?_
  show OFin p e below s _ _ _ (T1.setTop (mkF m 10 #[.val (.ref t), .val (.int q)] [(.long 1), (.long M)]))
  refine pI X1 hx (hd.at 7 rfl) rfl ?_
  refine pR (fun _ kS => XS.lshl X1.here hx rfl (hd.at 8 rfl) rfl kS) ?_
  refine pR (fun _ kS => XS.land X1.here hx rfl (hd.at 9 rfl) rfl kS) ?_
  refine own_st (fun _ kS => XS.lconst X1.here hx rfl (hd.at 10 rfl) kS) ?_
  show OFin p e below s _ _ _ (T1.setTop (mkF m 14 #[.val (.ref t), .val (.int q)] [(.long 0), (.long (M &&& ((1 : Int64) <<< (q &&& 0x3f).toInt64)))]))
  refine pR (fun _ kS => XS.lcmp X1.here hx rfl (hd.at 11 rfl) rfl kS) ?_
  by_cases c1 : (lcmpW (M &&& ((1 : Int64) <<< (q &&& 0x3f).toInt64)) (0 : Int64)) = (0 : Int32)
  · refine pfY X1 hx 22 (hd.at 12 rfl) ((if0 _ _).trans (teq c1).1) ?_
    refine pC X1 hx 0 (hd.at 13 rfl) rfl ?_
    exact own_ret X1 hx (t := .boolean) hret hlk rfl (Or.inl ⟨rfl, by simp, _, rfl⟩) (hd.at 14 rfl) (by decide) (by decide) ⟨by simp only [own_has, c1, if_true, if_false], e1, rfl⟩
  · refine pfN X1 hx (hd.at 12 rfl) ((if0 _ _).trans (feq c1).1) ?_
    refine pC X1 hx 1 (hd.at 15 rfl) rfl ?_
    refine pG X1 hx 23 (hd.at 16 rfl) ?_
    exact own_ret X1 hx (t := .boolean) hret hlk rfl (Or.inl ⟨rfl, by simp, _, rfl⟩) (hd.at 14 rfl) (by decide) (by decide) ⟨by simp only [own_has, c1, if_true, if_false], e1, rfl⟩
set_option maxRecDepth 65536 in
set_option maxHeartbeats 40000000 in
theorem rmPut (l : Launch) (Z : State) (a0 : Array Value) (hw : ∀ d ∈ tables_1, d.before a0 Z = true) (t : Addr) (q : Int32) (h0 : Heap) (n0 : Nat) (mm k1 k2 ed : Addr) (M : Int64) (sz : Int32) (B : OT0 Z h0 t mm k1 k2 ed M sz) (hS : OOrd n0 [t, mm, k1, k2]) (hq : q / 64 = 0) (hc : own_has M q = 0) :
    OMet l Z yN15 prog_86_method_5_code 2 none (⟨1, 0, 0, 20⟩ : Room) #[(.ref t), (.int q)] h0 (fun v h L => v = none ∧ Fr n0 L ∧ Keep h0 h [t, mm] ∧ OT0 Z h t mm k1 k2 ed (M ||| ((1 : Int64) <<< (q &&& 0x3f).toInt64)) (sz + 1)) := by
  refine own_enter own_pn15 ?_
  intro p e s m below meth c T0 X0 hC e0 hnamed
  have hC0 := hC
  obtain ⟨hx, hZH, hby, hml, hown, hret, hlk, hnm⟩ := hC
  have hZ := hZH.wide
  have hown : s.vm.findClass "com/example/rankfold/rankfold/summaries/Tournament" = some m.cls := hown
  refine own_at (own_ef15_RI m t q) ?_
  have hd := D15.to hby
  have N0 := Fr.nil n0
  have kp0 := Keep.refl h0 [t, mm]
  obtain ⟨u1, u2, u3, u4, u5, u6, u7, u8, u9, u10, u11, u12, u13, u14⟩ := id B
  refine pA X0 hx (hd.at 0 rfl) rfl rfl ?_
  refine pI X0 hx (hd.at 1 rfl) rfl ?_
  refine pgP (own_virtual X0 hx hZ (y := yN6) (z := yN6) (rm := ⟨0, 0, 0, 0⟩) (W := 0) (a := t) (argsL := [(.int q)]) (rest := []) hown (wd hw 74 rfl) (wd hw 75 rfl) (notFace_of_selects (args := #[]) (mvT hZ (wd hw 77 rfl))) (wd hw 77 rfl) (wd hw 76 rfl) (wd hw 42 rfl) (wd hw 78 rfl) (rmCo l Z a0 hw t q h0 mm M u6 u12 hq) e0 u1 rfl (by rw [hml]; rfl) (lenOf own_pd3 rfl) rfl (by exact Nat.le_of_eq rfl) (hd.at 2 rfl) (by decide) (by decide) (by decide) (by decide)) fun T15 X15 e15 => ?_
  rw [show (own_has M q) = (0 : Int32) from hc]
  refine pfN X15 hx (hd.at 3 rfl) ((if0 _ _).trans (teq rfl).2) ?_
  refine pA X15 hx (hd.at 4 rfl) rfl rfl ?_
  refine pF X15 hx hZ hown (wd hw 61 rfl) e15 u6 (hd.at 5 rfl) fun T16 X16 e16 => ?_
  refine pI X16 hx (hd.at 6 rfl) rfl ?_
  refine pB X16 hx 64 (hd.at 7 rfl) rfl ?_
  refine o_idiv X16 hx (hd.at 8 rfl) (by decide) ?_
  rw [hq]
  refine pR (fun _ kS => XT.dup2 X16.here hx rfl (hd.at 9 rfl) rfl rfl rfl kS) ?_
  refine rJ X16 hx hZ e16 u12 0 (.long M) rfl (hd.at 10 rfl) ?_
  refine own_st (fun _ kS => XS.lconst X16.here hx rfl (hd.at 11 rfl) kS) ?_
  show OFin p e below s _ _ _ (T16.setTop (mkF m 19 #[.val (.ref t), .val (.int q)] [(.long 1), (.long M), (.int 0), (.ref mm)]))
  refine pI X16 hx (hd.at 12 rfl) rfl ?_
  refine pR (fun _ kS => XS.lshl X16.here hx rfl (hd.at 13 rfl) rfl kS) ?_
  refine pR (fun _ kS => XS.lor X16.here hx rfl (hd.at 14 rfl) rfl kS) ?_
  refine wJ X16 hx hZ e16 u12 0 (hd.at 15 rfl) fun T17 h17 X17 e17 W17 V17 => ?_
  have f18 : OArr Z h17 mm .long 1 (fun i => .long ((own_q1 (M ||| ((1 : Int64) <<< (q &&& 0x3f).toInt64))) i)) := V17.congr (own_lt1 rfl)
  replace u1 := u1.wr W17
  have n19 := hS.ne 0 1
  replace u2 := u2.other W17 (Or.inl n19)
  replace u3 := u3.other W17 (Or.inl n19)
  replace u4 := u4.other W17 (Or.inl n19)
  replace u5 := u5.other W17 (Or.inl n19)
  replace u6 := u6.other W17 (Or.inl n19)
  replace u7 := u7.other W17 (Or.inl n19)
  replace u8 := u8.other W17 (Or.inl n19)
  replace u9 := u9.other W17 (Or.inl n19)
  replace u10 := u10.other W17 (Or.inl n19)
  replace u11 := u11.other W17 (Or.inl n19)
  have n20 := hS.ne 1 2
  have n21 := Ne.symm n20
  replace u13 := u13.other W17 n21
  have n22 := hS.ne 1 3
  have n23 := Ne.symm n22
  replace u14 := u14.other W17 n23
  have fr17 := Fr.snoc X17 N0 (hS.ge 1 rfl)
  have kp17 := kp0.wr W17 (Or.inl (List.mem_of_getElem? (i := 1) rfl))
  refine pA X17 hx (hd.at 16 rfl) rfl rfl ?_
  refine o_dup X17 hx (hd.at 17 rfl) rfl ?_
  refine pF X17 hx hZ hown (wd hw 127 rfl) e17 u7 (hd.at 18 rfl) fun T24 X24 e24 => ?_
  refine pC X24 hx 1 (hd.at 19 rfl) rfl ?_
  refine o_iadd X24 hx (hd.at 20 rfl) ?_
  refine pg2 (putF X24 hx hZ hown (host := "") (Or.inl (wd hw 127 rfl)) Via.refl e24 u7 u1 (Or.inl (wd hw 128 rfl)) (wd hw 41 rfl) (ty := .int) (by decide) rfl rfl rfl rfl (hd.at 21 rfl)) fun T25 h25 X25 e25 W25 => ?_
  have f26 := u7.same W25
  replace u1 := u1.wr W25
  replace u2 := u2.other W25 (Or.inr (sl (Or.inr (wd hw 53 rfl)) (Or.inl (wd hw 128 rfl))))
  replace u3 := u3.other W25 (Or.inr (sl (Or.inr (wd hw 55 rfl)) (Or.inl (wd hw 128 rfl))))
  replace u4 := u4.other W25 (Or.inr (sl (Or.inr (wd hw 57 rfl)) (Or.inl (wd hw 128 rfl))))
  replace u5 := u5.other W25 (Or.inr (sl (Or.inl (wd hw 59 rfl)) (Or.inl (wd hw 128 rfl))))
  replace u6 := u6.other W25 (Or.inr (sl (Or.inl (wd hw 62 rfl)) (Or.inl (wd hw 128 rfl))))
  replace u8 := u8.other W25 (Or.inr (sl (Or.inl (wd hw 103 rfl)) (Or.inl (wd hw 128 rfl))))
  replace u9 := u9.other W25 (Or.inr (sl (Or.inl (wd hw 89 rfl)) (Or.inl (wd hw 128 rfl))))
  replace u10 := u10.other W25 (Or.inr (sl (Or.inl (wd hw 91 rfl)) (Or.inl (wd hw 128 rfl))))
  replace u11 := u11.other W25 (Or.inr (sl (Or.inl (wd hw 93 rfl)) (Or.inl (wd hw 128 rfl))))
  have n27 := Ne.symm n19
  replace f18 := f18.other W25 n27
  have n28 := hS.ne 0 2
  have n29 := Ne.symm n28
  replace u13 := u13.other W25 n29
  have n30 := hS.ne 0 3
  have n31 := Ne.symm n30
  replace u14 := u14.other W25 n31
  have fr25 := Fr.snoc X25 fr17 (hS.ge 0 rfl)
  have kp25 := kp17.wr W25 (Or.inl (List.mem_of_getElem? (i := 0) rfl))
  refine pA X25 hx (hd.at 22 rfl) rfl rfl ?_
  refine pF X25 hx hZ hown (wd hw 102 rfl) e25 u8 (hd.at 23 rfl) fun T32 X32 e32 => ?_
  refine pfY X32 hx 45 (hd.at 24 rfl) ((if0 _ _).trans (teq rfl).1) ?_
  exact own_retV X32 hx hret hlk (hd.at 25 rfl) (by decide) (by decide) (by show _ ∧ _ ∧ Keep h0 T32.heap _ ∧ _; rw [e32]; exact ⟨rfl, fr25, kp25, u1, u2, u3, u4, u5, u6, f26, u8, u9, u10, u11, f18, u13, u14⟩)
set_option maxRecDepth 65536 in
set_option maxHeartbeats 40000000 in
theorem rmRe0 (l : Launch) (Z : State) (a0 : Array Value) (hw : ∀ d ∈ tables_1, d.before a0 Z = true) (t : Addr) (q : Int32) (h0 : Heap) (mm : Addr) (M : Int64) (E_t : Exa Z h0 t "com/example/rankfold/rankfold/summaries/Tournament") (F_m : Fld Z h0 t "com/example/rankfold/rankfold/summaries/Tournament" "members" "[J" (.ref mm)) (H_m : OArr Z h0 mm .long 1 (fun i => .long (own_q1 M i))) (hq : q / 64 = 0) (hc : own_has M q = 0) :
    OMet l Z yN5 prog_86_method_6_code 2 none (⟨1, 0, 0, 13⟩ : Room) #[(.ref t), (.int q)] h0 (fun v h L => v = none ∧ h = h0 ∧ L = []) := by
  refine own_enter own_pn5 ?_
  intro p e s m below meth c T0 X0 hC e0 hnamed
  have hC0 := hC
  obtain ⟨hx, hZH, hby, hml, hown, hret, hlk, hnm⟩ := hC
  have hZ := hZH.wide
  have hown : s.vm.findClass "com/example/rankfold/rankfold/summaries/Tournament" = some m.cls := hown
  refine own_at (own_ef5_RI m t q) ?_
  have hd := D5.to hby
  refine pA X0 hx (hd.at 0 rfl) rfl rfl ?_
  refine pI X0 hx (hd.at 1 rfl) rfl ?_
  refine pgP (own_virtual X0 hx hZ (y := yN6) (z := yN6) (rm := ⟨0, 0, 0, 0⟩) (W := 0) (a := t) (argsL := [(.int q)]) (rest := []) hown (wd hw 74 rfl) (wd hw 75 rfl) (notFace_of_selects (args := #[]) (mvT hZ (wd hw 77 rfl))) (wd hw 77 rfl) (wd hw 76 rfl) (wd hw 42 rfl) (wd hw 78 rfl) (rmCo l Z a0 hw t q h0 mm M F_m H_m hq) e0 E_t rfl (by rw [hml]; rfl) (lenOf own_pd3 rfl) rfl (by exact Nat.le_of_eq rfl) (hd.at 2 rfl) (by decide) (by decide) (by decide) (by decide)) fun T1 X1 e1 => ?_
  rw [show (own_has M q) = (0 : Int32) from hc]
  refine pfY X1 hx 49 (hd.at 3 rfl) ((if0 _ _).trans (teq rfl).1) ?_
  exact own_retV X1 hx hret hlk (hd.at 4 rfl) (by decide) (by decide) ⟨rfl, e1, rfl⟩
set_option maxRecDepth 65536 in
set_option maxHeartbeats 40000000 in
theorem rmIBa (l : Launch) (Z : State) (a0 : Array Value) (hw : ∀ d ∈ tables_1, d.before a0 Z = true) (t : Addr) (q : Int32) (d1 : UInt64) (d2 : UInt64) (h0 : Heap) (hq : ¬ q = (-1 : Int32)) :
    OMet l Z yN25 prog_86_method_13_code 8 (some .boolean) (⟨2, 0, 0, 28⟩ : Room) #[(.ref t), (.int q), (.double d1), (.int (-1)), (.double d2)] h0 (fun v h L => v = some (.int (1 : Int32)) ∧ h = h0 ∧ L = []) := by
  refine own_enter own_pn25 ?_
  intro p e s m below meth c T0 X0 hC e0 hnamed
  have hC0 := hC
  obtain ⟨hx, hZH, hby, hml, hown, hret, hlk, hnm⟩ := hC
  have hZ := hZH.wide
  have hown : s.vm.findClass "com/example/rankfold/rankfold/summaries/Tournament" = some m.cls := hown
  refine own_at (own_ef25_RIDID m t q d1 (-1 : Int32) d2) ?_
  have hd := D25.to hby
  refine pI X0 hx (hd.at 0 rfl) rfl ?_
  refine pC X0 hx (-1) (hd.at 1 rfl) rfl ?_
  refine pcN X0 hx (hd.at 2 rfl) ((feq hq).1) ?_
  refine pi X0 hx (hd.at 3 rfl) rfl ?_
  refine pC X0 hx (-1) (hd.at 4 rfl) rfl ?_
  refine pcN X0 hx (hd.at 5 rfl) ((teq rfl).2) ?_
  refine pi X0 hx (hd.at 6 rfl) rfl ?_
  refine pC X0 hx (-1) (hd.at 7 rfl) rfl ?_
  refine pcN X0 hx (hd.at 8 rfl) ((teq rfl).2) ?_
  refine pI X0 hx (hd.at 9 rfl) rfl ?_
  refine pC X0 hx (-1) (hd.at 10 rfl) rfl ?_
  refine pcN X0 hx (hd.at 11 rfl) ((feq hq).1) ?_
  refine pC X0 hx 1 (hd.at 12 rfl) rfl ?_
  refine pG X0 hx 27 (hd.at 13 rfl) ?_
  refine ps X0 hx #[.val (.ref t), .val (.int q), .val (.double d1), .second, .val (.int (-1)), .val (.double d2), .second, .val (.int 1)] (hd.at 14 rfl) rfl ?_
  refine pG X0 hx 175 (hd.at 15 rfl) ?_
  refine pi X0 hx (hd.at 16 rfl) rfl ?_
  exact own_ret X0 hx (t := .boolean) hret hlk rfl (Or.inl ⟨rfl, by simp, _, rfl⟩) (hd.at 17 rfl) (by decide) (by decide) ⟨rfl, e0, rfl⟩
set_option maxRecDepth 65536 in
set_option maxHeartbeats 40000000 in
theorem rmIBb (l : Launch) (Z : State) (a0 : Array Value) (hw : ∀ d ∈ tables_1, d.before a0 Z = true) (t : Addr) (d1 : UInt64) (d2 : UInt64) (h0 : Heap) (ed u ct gd px nx : Addr) (fu fc : Nat → UInt64) (fg : Nat → Int32) (nd : UInt64) (fp fn : Nat → Int32) (k2 : Addr) (B : ORd Z h0 ed u ct gd px nx fu fc fg fp fn nd) (F_l : Fld Z h0 t "com/example/rankfold/rankfold/summaries/Tournament" "largestFirst" "Z" (.int (0 : Int32))) (F_o : Fld Z h0 t "com/example/rankfold/rankfold/summaries/Tournament" "order" "Ljava/util/function/IntToDoubleFunction;" (.ref k2)) (L_o : OLam Z h0 LT.sg k2 ed) :
    OMet l Z yN25 prog_86_method_13_code 8 (some .boolean) (⟨2, 0, 0, 28⟩ : Room) #[(.ref t), (.int 2), (.double d1), (.int 1), (.double d2)] h0 (fun v h L => (∃ r : Int32, v = some (.int r)) ∧ h = h0 ∧ L = []) := by
  refine own_enter own_pn25 ?_
  intro p e s m below meth c T0 X0 hC e0 hnamed
  have hC0 := hC
  obtain ⟨hx, hZH, hby, hml, hown, hret, hlk, hnm⟩ := hC
  have hZ := hZH.wide
  have hown : s.vm.findClass "com/example/rankfold/rankfold/summaries/Tournament" = some m.cls := hown
  refine own_at (own_ef25_RIDID m t (2 : Int32) d1 (1 : Int32) d2) ?_
  have hd := D25.to hby
  refine pI X0 hx (hd.at 0 rfl) rfl ?_
  refine pC X0 hx (-1) (hd.at 1 rfl) rfl ?_
  refine pcN X0 hx (hd.at 2 rfl) ((feq (by decide)).1) ?_
  refine pi X0 hx (hd.at 3 rfl) rfl ?_
  refine pC X0 hx (-1) (hd.at 4 rfl) rfl ?_
  refine pcY X0 hx 32 (hd.at 5 rfl) ((feq (by decide)).2) ?_
  refine pD X0 hx (hd.at 18 rfl) rfl ?_
  refine pgF (own_static X0 hx hZ (y := yN32) (rm := ⟨0, 0, 0, 0⟩) (W := 0) (argsL := [(.double d1)]) (rest := []) hown (wd hw 205 rfl) (wd hw 206 rfl) (wd hw 207 rfl) (wd hw 208 rfl) (rmNaN l Z a0 hw d1 h0) e0 rfl (by rw [hml]; rfl) (lenOf own_pd7 rfl) rfl (by exact Nat.le_of_eq rfl) (hd.at 19 rfl) (by decide) (by decide) (by decide) (by decide)) fun rv1 T2 X2 e2 => ?_
  by_cases b0 : rv1 = (0 : Int32)
  · refine pfN X2 hx (hd.at 20 rfl) ((if0 _ _).trans (teq b0).2) ?_
    refine pd X2 hx (hd.at 21 rfl) rfl ?_
    refine pgF (own_static X2 hx hZ (y := yN32) (rm := ⟨0, 0, 0, 0⟩) (W := 0) (argsL := [(.double d2)]) (rest := []) hown (wd hw 205 rfl) (wd hw 206 rfl) (wd hw 207 rfl) (wd hw 208 rfl) (rmNaN l Z a0 hw d2 h0) e2 rfl (by rw [hml]; rfl) (lenOf own_pd7 rfl) rfl (by exact Nat.le_of_eq rfl) (hd.at 22 rfl) (by decide) (by decide) (by decide) (by decide)) fun rv3 T4 X4 e4 => ?_
    by_cases b1 : rv3 = (0 : Int32)
    · refine pfY X4 hx 97 (hd.at 23 rfl) ((if0 _ _).trans (teq b1).1) ?_
      refine pD X4 hx (hd.at 24 rfl) rfl ?_
      refine pd X4 hx (hd.at 25 rfl) rfl ?_
      refine o_dcmpl X4 hx (hd.at 26 rfl) ?_
      by_cases b2 : (cmpValue (FP.dcmp d1 d2) .l) = (0 : Int32)
      · refine pfN X4 hx (hd.at 27 rfl) ((if0 _ _).trans (teq b2).2) ?_
        refine pA X4 hx (hd.at 28 rfl) rfl rfl ?_
        refine pF X4 hx hZ hown (wd hw 56 rfl) e4 F_o (hd.at 29 rfl) fun T5 X5 e5 => ?_
        refine pI X5 hx (hd.at 30 rfl) rfl ?_
        refine pg7 (own_lamCall (P := fun _ => True) X5 hx hZH (nm := "threshold") (index := 78) (count := 2) hown (wd hw 129 rfl) (wd hw 130 rfl) (wd hw 131 rfl) (wd hw 46 rfl) LT.facts (bytes := prog_72_method_23_code) (maxL := 2) (rm := ⟨0, 0, 0, 0⟩) (wd hw 211 rfl) (wd hw 209 rfl) (wd hw 210 rfl) (wd hw 7 rfl) e5 L_o B.1 (rmThr l Z a0 hw ed (2 : Int32) h0 u ct gd px nx fu fc fg nd fp fn 2 B (by decide) (by decide) (by decide)) rfl rfl rfl (by rw [hml]; rfl) rfl (W := 0) (by exact Nat.le_of_eq rfl) (hd.at 31 rfl) (by decide) (by decide) (by decide) (by decide)) fun rv6 T6 _ X6 e6 => ?_
        refine pA X6 hx (hd.at 32 rfl) rfl rfl ?_
        refine pF X6 hx hZ hown (wd hw 56 rfl) e6 F_o (hd.at 33 rfl) fun T7 X7 e7 => ?_
        refine pi X7 hx (hd.at 34 rfl) rfl ?_
        refine pg7 (own_lamCall (P := fun _ => True) X7 hx hZH (nm := "threshold") (index := 78) (count := 2) hown (wd hw 129 rfl) (wd hw 130 rfl) (wd hw 131 rfl) (wd hw 46 rfl) LT.facts (bytes := prog_72_method_23_code) (maxL := 2) (rm := ⟨0, 0, 0, 0⟩) (wd hw 211 rfl) (wd hw 209 rfl) (wd hw 210 rfl) (wd hw 7 rfl) e7 L_o B.1 (rmThr l Z a0 hw ed (1 : Int32) h0 u ct gd px nx fu fc fg nd fp fn 1 B (by decide) (by decide) (by decide)) rfl rfl rfl (by rw [hml]; rfl) rfl (W := 2) (by exact Nat.le_of_eq rfl) (hd.at 35 rfl) (by decide) (by decide) (by decide) (by decide)) fun rv8 T8 _ X8 e8 => ?_
        refine pR (own_dcmpg X8 hx rfl (hd.at 36 rfl) rfl) ?_
        by_cases b3 : (cmpValue (FP.dcmp rv6 rv8) .g) < (0 : Int32)
        · refine pfN X8 hx (hd.at 37 rfl) ((if0 _ _).trans (tlt b3).2.1) ?_
          refine pC X8 hx 1 (hd.at 38 rfl) rfl ?_
          refine pG X8 hx 134 (hd.at 39 rfl) ?_
          refine ps X8 hx #[.val (.ref t), .val (.int 2), .val (.double d1), .second, .val (.int 1), .val (.double d2), .second, .val (.int 1)] (hd.at 40 rfl) rfl ?_
          refine pG X8 hx 175 (hd.at 41 rfl) ?_
          refine pi X8 hx (hd.at 16 rfl) rfl ?_
          exact own_ret X8 hx (t := .boolean) hret hlk rfl (Or.inl ⟨rfl, by simp, _, rfl⟩) (hd.at 17 rfl) (by decide) (by decide) ⟨⟨_, rfl⟩, e8, rfl⟩
        · refine pfY X8 hx 133 (hd.at 37 rfl) ((if0 _ _).trans (flt b3).2.1) ?_
          refine pC X8 hx 0 (hd.at 42 rfl) rfl ?_
          refine ps X8 hx #[.val (.ref t), .val (.int 2), .val (.double d1), .second, .val (.int 1), .val (.double d2), .second, .val (.int 0)] (hd.at 40 rfl) rfl ?_
          refine pG X8 hx 175 (hd.at 41 rfl) ?_
          refine pi X8 hx (hd.at 16 rfl) rfl ?_
          exact own_ret X8 hx (t := .boolean) hret hlk rfl (Or.inl ⟨rfl, by simp, _, rfl⟩) (hd.at 17 rfl) (by decide) (by decide) ⟨⟨_, rfl⟩, e8, rfl⟩
      · refine pfY X4 hx 139 (hd.at 27 rfl) ((if0 _ _).trans (feq b2).2) ?_
        refine pA X4 hx (hd.at 43 rfl) rfl rfl ?_
        refine pF X4 hx hZ hown (wd hw 52 rfl) e4 F_l (hd.at 44 rfl) fun T9 X9 e9 => ?_
        refine pfY X9 hx 161 (hd.at 45 rfl) ((if0 _ _).trans (teq rfl).1) ?_
        refine pD X9 hx (hd.at 46 rfl) rfl ?_
        refine pd X9 hx (hd.at 47 rfl) rfl ?_
        refine pR (own_dcmpg X9 hx rfl (hd.at 48 rfl) rfl) ?_
        by_cases b3 : (cmpValue (FP.dcmp d1 d2) .g) < (0 : Int32)
        · refine pfN X9 hx (hd.at 49 rfl) ((if0 _ _).trans (tlt b3).2.1) ?_
          refine pC X9 hx 1 (hd.at 50 rfl) rfl ?_
          refine pG X9 hx 173 (hd.at 51 rfl) ?_
          refine ps X9 hx #[.val (.ref t), .val (.int 2), .val (.double d1), .second, .val (.int 1), .val (.double d2), .second, .val (.int 1)] (hd.at 52 rfl) rfl ?_
          refine pi X9 hx (hd.at 16 rfl) rfl ?_
          exact own_ret X9 hx (t := .boolean) hret hlk rfl (Or.inl ⟨rfl, by simp, _, rfl⟩) (hd.at 17 rfl) (by decide) (by decide) ⟨⟨_, rfl⟩, e9, rfl⟩
        · refine pfY X9 hx 172 (hd.at 49 rfl) ((if0 _ _).trans (flt b3).2.1) ?_
          refine pC X9 hx 0 (hd.at 53 rfl) rfl ?_
          refine ps X9 hx #[.val (.ref t), .val (.int 2), .val (.double d1), .second, .val (.int 1), .val (.double d2), .second, .val (.int 0)] (hd.at 52 rfl) rfl ?_
          refine pi X9 hx (hd.at 16 rfl) rfl ?_
          exact own_ret X9 hx (t := .boolean) hret hlk rfl (Or.inl ⟨rfl, by simp, _, rfl⟩) (hd.at 17 rfl) (by decide) (by decide) ⟨⟨_, rfl⟩, e9, rfl⟩
    · refine pfN X4 hx (hd.at 23 rfl) ((if0 _ _).trans (feq b1).1) ?_
      refine pd X4 hx (hd.at 54 rfl) rfl ?_
      refine pgF (own_static X4 hx hZ (y := yN32) (rm := ⟨0, 0, 0, 0⟩) (W := 0) (argsL := [(.double d2)]) (rest := []) hown (wd hw 205 rfl) (wd hw 206 rfl) (wd hw 207 rfl) (wd hw 208 rfl) (rmNaN l Z a0 hw d2 h0) e4 rfl (by rw [hml]; rfl) (lenOf own_pd7 rfl) rfl (by exact Nat.le_of_eq rfl) (hd.at 55 rfl) (by decide) (by decide) (by decide) (by decide)) fun rv10 T11 X11 e11 => ?_
      by_cases b2 : rv10 = (0 : Int32)
      · refine pfY X11 hx 91 (hd.at 56 rfl) ((if0 _ _).trans (teq b2).1) ?_
        refine pC X11 hx 0 (hd.at 57 rfl) rfl ?_
        refine ps X11 hx #[.val (.ref t), .val (.int 2), .val (.double d1), .second, .val (.int 1), .val (.double d2), .second, .val (.int 0)] (hd.at 58 rfl) rfl ?_
        refine pG X11 hx 175 (hd.at 59 rfl) ?_
        refine pi X11 hx (hd.at 16 rfl) rfl ?_
        exact own_ret X11 hx (t := .boolean) hret hlk rfl (Or.inl ⟨rfl, by simp, _, rfl⟩) (hd.at 17 rfl) (by decide) (by decide) ⟨⟨_, rfl⟩, e11, rfl⟩
      · refine pfN X11 hx (hd.at 56 rfl) ((if0 _ _).trans (feq b2).1) ?_
        refine pD X11 hx (hd.at 60 rfl) rfl ?_
        refine pgF (own_static X11 hx hZ (y := yN32) (rm := ⟨0, 0, 0, 0⟩) (W := 0) (argsL := [(.double d1)]) (rest := []) hown (wd hw 205 rfl) (wd hw 206 rfl) (wd hw 207 rfl) (wd hw 208 rfl) (rmNaN l Z a0 hw d1 h0) e11 rfl (by rw [hml]; rfl) (lenOf own_pd7 rfl) rfl (by exact Nat.le_of_eq rfl) (hd.at 61 rfl) (by decide) (by decide) (by decide) (by decide)) fun rv12 T13 X13 e13 => ?_
        by_cases b3 : rv12 = (0 : Int32)
        · refine pfY X13 hx 87 (hd.at 62 rfl) ((if0 _ _).trans (teq b3).1) ?_
          refine pC X13 hx 1 (hd.at 63 rfl) rfl ?_
          refine pG X13 hx 92 (hd.at 64 rfl) ?_
          refine ps X13 hx #[.val (.ref t), .val (.int 2), .val (.double d1), .second, .val (.int 1), .val (.double d2), .second, .val (.int 1)] (hd.at 58 rfl) rfl ?_
          refine pG X13 hx 175 (hd.at 59 rfl) ?_
          refine pi X13 hx (hd.at 16 rfl) rfl ?_
          exact own_ret X13 hx (t := .boolean) hret hlk rfl (Or.inl ⟨rfl, by simp, _, rfl⟩) (hd.at 17 rfl) (by decide) (by decide) ⟨⟨_, rfl⟩, e13, rfl⟩
        · refine pfN X13 hx (hd.at 62 rfl) ((if0 _ _).trans (feq b3).1) ?_
          refine pA X13 hx (hd.at 65 rfl) rfl rfl ?_
          refine pF X13 hx hZ hown (wd hw 56 rfl) e13 F_o (hd.at 66 rfl) fun T14 X14 e14 => ?_
          refine pI X14 hx (hd.at 67 rfl) rfl ?_
          refine pg7 (own_lamCall (P := fun _ => True) X14 hx hZH (nm := "threshold") (index := 78) (count := 2) hown (wd hw 129 rfl) (wd hw 130 rfl) (wd hw 131 rfl) (wd hw 46 rfl) LT.facts (bytes := prog_72_method_23_code) (maxL := 2) (rm := ⟨0, 0, 0, 0⟩) (wd hw 211 rfl) (wd hw 209 rfl) (wd hw 210 rfl) (wd hw 7 rfl) e14 L_o B.1 (rmThr l Z a0 hw ed (2 : Int32) h0 u ct gd px nx fu fc fg nd fp fn 2 B (by decide) (by decide) (by decide)) rfl rfl rfl (by rw [hml]; rfl) rfl (W := 0) (by exact Nat.le_of_eq rfl) (hd.at 68 rfl) (by decide) (by decide) (by decide) (by decide)) fun rv15 T15 _ X15 e15 => ?_
          refine pA X15 hx (hd.at 69 rfl) rfl rfl ?_
          refine pF X15 hx hZ hown (wd hw 56 rfl) e15 F_o (hd.at 70 rfl) fun T16 X16 e16 => ?_
          refine pi X16 hx (hd.at 71 rfl) rfl ?_
          refine pg7 (own_lamCall (P := fun _ => True) X16 hx hZH (nm := "threshold") (index := 78) (count := 2) hown (wd hw 129 rfl) (wd hw 130 rfl) (wd hw 131 rfl) (wd hw 46 rfl) LT.facts (bytes := prog_72_method_23_code) (maxL := 2) (rm := ⟨0, 0, 0, 0⟩) (wd hw 211 rfl) (wd hw 209 rfl) (wd hw 210 rfl) (wd hw 7 rfl) e16 L_o B.1 (rmThr l Z a0 hw ed (1 : Int32) h0 u ct gd px nx fu fc fg nd fp fn 1 B (by decide) (by decide) (by decide)) rfl rfl rfl (by rw [hml]; rfl) rfl (W := 2) (by exact Nat.le_of_eq rfl) (hd.at 72 rfl) (by decide) (by decide) (by decide) (by decide)) fun rv17 T17 _ X17 e17 => ?_
          refine pR (own_dcmpg X17 hx rfl (hd.at 73 rfl) rfl) ?_
          by_cases b4 : (cmpValue (FP.dcmp rv15 rv17) .g) < (0 : Int32)
          · refine pfN X17 hx (hd.at 74 rfl) ((if0 _ _).trans (tlt b4).2.1) ?_
            refine pC X17 hx 1 (hd.at 63 rfl) rfl ?_
            refine pG X17 hx 92 (hd.at 64 rfl) ?_
            refine ps X17 hx #[.val (.ref t), .val (.int 2), .val (.double d1), .second, .val (.int 1), .val (.double d2), .second, .val (.int 1)] (hd.at 58 rfl) rfl ?_
            refine pG X17 hx 175 (hd.at 59 rfl) ?_
            refine pi X17 hx (hd.at 16 rfl) rfl ?_
            exact own_ret X17 hx (t := .boolean) hret hlk rfl (Or.inl ⟨rfl, by simp, _, rfl⟩) (hd.at 17 rfl) (by decide) (by decide) ⟨⟨_, rfl⟩, e17, rfl⟩
          · refine pfY X17 hx 91 (hd.at 74 rfl) ((if0 _ _).trans (flt b4).2.1) ?_
            refine pC X17 hx 0 (hd.at 57 rfl) rfl ?_
            refine ps X17 hx #[.val (.ref t), .val (.int 2), .val (.double d1), .second, .val (.int 1), .val (.double d2), .second, .val (.int 0)] (hd.at 58 rfl) rfl ?_
            refine pG X17 hx 175 (hd.at 59 rfl) ?_
            refine pi X17 hx (hd.at 16 rfl) rfl ?_
            exact own_ret X17 hx (t := .boolean) hret hlk rfl (Or.inl ⟨rfl, by simp, _, rfl⟩) (hd.at 17 rfl) (by decide) (by decide) ⟨⟨_, rfl⟩, e17, rfl⟩
  · refine pfY X2 hx 47 (hd.at 20 rfl) ((if0 _ _).trans (feq b0).2) ?_
    refine pd X2 hx (hd.at 54 rfl) rfl ?_
    refine pgF (own_static X2 hx hZ (y := yN32) (rm := ⟨0, 0, 0, 0⟩) (W := 0) (argsL := [(.double d2)]) (rest := []) hown (wd hw 205 rfl) (wd hw 206 rfl) (wd hw 207 rfl) (wd hw 208 rfl) (rmNaN l Z a0 hw d2 h0) e2 rfl (by rw [hml]; rfl) (lenOf own_pd7 rfl) rfl (by exact Nat.le_of_eq rfl) (hd.at 55 rfl) (by decide) (by decide) (by decide) (by decide)) fun rv18 T19 X19 e19 => ?_
    by_cases b1 : rv18 = (0 : Int32)
    · refine pfY X19 hx 91 (hd.at 56 rfl) ((if0 _ _).trans (teq b1).1) ?_
      refine pC X19 hx 0 (hd.at 57 rfl) rfl ?_
      refine ps X19 hx #[.val (.ref t), .val (.int 2), .val (.double d1), .second, .val (.int 1), .val (.double d2), .second, .val (.int 0)] (hd.at 58 rfl) rfl ?_
      refine pG X19 hx 175 (hd.at 59 rfl) ?_
      refine pi X19 hx (hd.at 16 rfl) rfl ?_
      exact own_ret X19 hx (t := .boolean) hret hlk rfl (Or.inl ⟨rfl, by simp, _, rfl⟩) (hd.at 17 rfl) (by decide) (by decide) ⟨⟨_, rfl⟩, e19, rfl⟩
    · refine pfN X19 hx (hd.at 56 rfl) ((if0 _ _).trans (feq b1).1) ?_
      refine pD X19 hx (hd.at 60 rfl) rfl ?_
      refine pgF (own_static X19 hx hZ (y := yN32) (rm := ⟨0, 0, 0, 0⟩) (W := 0) (argsL := [(.double d1)]) (rest := []) hown (wd hw 205 rfl) (wd hw 206 rfl) (wd hw 207 rfl) (wd hw 208 rfl) (rmNaN l Z a0 hw d1 h0) e19 rfl (by rw [hml]; rfl) (lenOf own_pd7 rfl) rfl (by exact Nat.le_of_eq rfl) (hd.at 61 rfl) (by decide) (by decide) (by decide) (by decide)) fun rv20 T21 X21 e21 => ?_
      by_cases b2 : rv20 = (0 : Int32)
      · refine pfY X21 hx 87 (hd.at 62 rfl) ((if0 _ _).trans (teq b2).1) ?_
        refine pC X21 hx 1 (hd.at 63 rfl) rfl ?_
        refine pG X21 hx 92 (hd.at 64 rfl) ?_
        refine ps X21 hx #[.val (.ref t), .val (.int 2), .val (.double d1), .second, .val (.int 1), .val (.double d2), .second, .val (.int 1)] (hd.at 58 rfl) rfl ?_
        refine pG X21 hx 175 (hd.at 59 rfl) ?_
        refine pi X21 hx (hd.at 16 rfl) rfl ?_
        exact own_ret X21 hx (t := .boolean) hret hlk rfl (Or.inl ⟨rfl, by simp, _, rfl⟩) (hd.at 17 rfl) (by decide) (by decide) ⟨⟨_, rfl⟩, e21, rfl⟩
      · refine pfN X21 hx (hd.at 62 rfl) ((if0 _ _).trans (feq b2).1) ?_
        refine pA X21 hx (hd.at 65 rfl) rfl rfl ?_
        refine pF X21 hx hZ hown (wd hw 56 rfl) e21 F_o (hd.at 66 rfl) fun T22 X22 e22 => ?_
        refine pI X22 hx (hd.at 67 rfl) rfl ?_
        refine pg7 (own_lamCall (P := fun _ => True) X22 hx hZH (nm := "threshold") (index := 78) (count := 2) hown (wd hw 129 rfl) (wd hw 130 rfl) (wd hw 131 rfl) (wd hw 46 rfl) LT.facts (bytes := prog_72_method_23_code) (maxL := 2) (rm := ⟨0, 0, 0, 0⟩) (wd hw 211 rfl) (wd hw 209 rfl) (wd hw 210 rfl) (wd hw 7 rfl) e22 L_o B.1 (rmThr l Z a0 hw ed (2 : Int32) h0 u ct gd px nx fu fc fg nd fp fn 2 B (by decide) (by decide) (by decide)) rfl rfl rfl (by rw [hml]; rfl) rfl (W := 0) (by exact Nat.le_of_eq rfl) (hd.at 68 rfl) (by decide) (by decide) (by decide) (by decide)) fun rv23 T23 _ X23 e23 => ?_
        refine pA X23 hx (hd.at 69 rfl) rfl rfl ?_
        refine pF X23 hx hZ hown (wd hw 56 rfl) e23 F_o (hd.at 70 rfl) fun T24 X24 e24 => ?_
        refine pi X24 hx (hd.at 71 rfl) rfl ?_
        refine pg7 (own_lamCall (P := fun _ => True) X24 hx hZH (nm := "threshold") (index := 78) (count := 2) hown (wd hw 129 rfl) (wd hw 130 rfl) (wd hw 131 rfl) (wd hw 46 rfl) LT.facts (bytes := prog_72_method_23_code) (maxL := 2) (rm := ⟨0, 0, 0, 0⟩) (wd hw 211 rfl) (wd hw 209 rfl) (wd hw 210 rfl) (wd hw 7 rfl) e24 L_o B.1 (rmThr l Z a0 hw ed (1 : Int32) h0 u ct gd px nx fu fc fg nd fp fn 1 B (by decide) (by decide) (by decide)) rfl rfl rfl (by rw [hml]; rfl) rfl (W := 2) (by exact Nat.le_of_eq rfl) (hd.at 72 rfl) (by decide) (by decide) (by decide) (by decide)) fun rv25 T25 _ X25 e25 => ?_
        refine pR (own_dcmpg X25 hx rfl (hd.at 73 rfl) rfl) ?_
        by_cases b3 : (cmpValue (FP.dcmp rv23 rv25) .g) < (0 : Int32)
        · refine pfN X25 hx (hd.at 74 rfl) ((if0 _ _).trans (tlt b3).2.1) ?_
          refine pC X25 hx 1 (hd.at 63 rfl) rfl ?_
          refine pG X25 hx 92 (hd.at 64 rfl) ?_
          refine ps X25 hx #[.val (.ref t), .val (.int 2), .val (.double d1), .second, .val (.int 1), .val (.double d2), .second, .val (.int 1)] (hd.at 58 rfl) rfl ?_
          refine pG X25 hx 175 (hd.at 59 rfl) ?_
          refine pi X25 hx (hd.at 16 rfl) rfl ?_
          exact own_ret X25 hx (t := .boolean) hret hlk rfl (Or.inl ⟨rfl, by simp, _, rfl⟩) (hd.at 17 rfl) (by decide) (by decide) ⟨⟨_, rfl⟩, e25, rfl⟩
        · refine pfY X25 hx 91 (hd.at 74 rfl) ((if0 _ _).trans (flt b3).2.1) ?_
          refine pC X25 hx 0 (hd.at 57 rfl) rfl ?_
          refine ps X25 hx #[.val (.ref t), .val (.int 2), .val (.double d1), .second, .val (.int 1), .val (.double d2), .second, .val (.int 0)] (hd.at 58 rfl) rfl ?_
          refine pG X25 hx 175 (hd.at 59 rfl) ?_
          refine pi X25 hx (hd.at 16 rfl) rfl ?_
          exact own_ret X25 hx (t := .boolean) hret hlk rfl (Or.inl ⟨rfl, by simp, _, rfl⟩) (hd.at 17 rfl) (by decide) (by decide) ⟨⟨_, rfl⟩, e25, rfl⟩
set_option maxRecDepth 65536 in
set_option maxHeartbeats 40000000 in
theorem rmSc00 (l : Launch) (Z : State) (a0 : Array Value) (hw : ∀ d ∈ tables_1, d.before a0 Z = true) (t : Addr) (h0 : Heap) (n0 : Nat) (mm fa fk k1 k2 ed : Addr) (sz pl r0 r : Int32) (d0 d : UInt64) (BT : OTP Z h0 t mm fa fk k1 k2 ed 0 sz pl r0 r d0 d) (hS : OOrd n0 [t, mm, fa, fk, k1, k2]) :
    OMet l Z yN9 prog_86_method_11_code 9 none (⟨8, 0, 0, 136⟩ : Room) #[(.ref t), (.int 0)] h0 (fun v h L => v = none ∧ Fr n0 L ∧ Keep h0 h [fa, fk] ∧ ∃ r' d', r' = (-1 : Int32) ∧ OTP Z h t mm fa fk k1 k2 ed 0 sz pl r0 r' d0 d') := by
  refine own_enter own_pn9 ?_
  intro p e s m below meth c T0 X0 hC e0 hnamed
  have hC0 := hC
  obtain ⟨hx, hZH, hby, hml, hown, hret, hlk, hnm⟩ := hC
  have hZ := hZH.wide
  have hown : s.vm.findClass "com/example/rankfold/rankfold/summaries/Tournament" = some m.cls := hown
  refine own_at (own_ef9_RI m t (0 : Int32)) ?_
  have hd := D9.to hby
  have N0 := Fr.nil n0
  have kp0 := Keep.refl h0 [fa, fk]
  refine pC X0 hx (-1) (hd.at 0 rfl) rfl ?_
  refine pS X0 hx #[.val (.ref t), .val (.int 0), .val (.int (-1)), .unset, .unset, .unset, .unset, .unset, .unset] (hd.at 1 rfl) rfl ?_
  refine pL (own_dconst0 X0 hx rfl (hd.at 2 rfl)) ?_
  refine pT X0 hx #[.val (.ref t), .val (.int 0), .val (.int (-1)), .val (.double FP.dconst0), .second, .unset, .unset, .unset, .unset] (hd.at 3 rfl) rfl ?_
  refine pA X0 hx (hd.at 4 rfl) rfl rfl ?_
  refine pF X0 hx hZ hown (wd hw 58 rfl) e0 BT.2.2.2.2.1 (hd.at 5 rfl) fun T1 X1 e1 => ?_
  refine o_i2l X1 hx (hd.at 6 rfl) ?_
  refine pI X1 hx (hd.at 7 rfl) rfl ?_
  refine o_i2l X1 hx (hd.at 8 rfl) ?_
  refine own_st (fun _ kS => XS.lconst X1.here hx rfl (hd.at 9 rfl) kS) ?_
  show OFin p e below s _ _ _ (T1.setTop (mkF m 12 #[.val (.ref t), .val (.int 0), .val (.int (-1)), .val (.double FP.dconst0), .second, .unset, .unset, .unset, .unset] [(.long 1), (.long ((0 : Int32).toInt64)), (.long ((4 : Int32).toInt64))]))
  refine o_ladd X1 hx (hd.at 10 rfl) ?_
  refine pL (X1.ldc2Long hx hown (mvT hZ (wd hw 98 rfl)) rfl (hd.at 11 rfl)) ?_
  refine pR (fun _ kS => XS.lmul X1.here hx rfl (hd.at 12 rfl) rfl kS) ?_
  refine pgP (own_static X1 hx hZ (y := yN10) (rm := ⟨0, 0, 0, 0⟩) (W := 0) (argsL := [(.long ((4 : Int32).toInt64)), (.long ((((0 : Int32).toInt64) + (1 : Int64)) * (16 : Int64)))]) (rest := []) hown (wd hw 99 rfl) (wd hw 100 rfl) (wd hw 86 rfl) (wd hw 101 rfl) (rmMinJ l Z a0 hw ((4 : Int32).toInt64) ((((0 : Int32).toInt64) + (1 : Int64)) * (16 : Int64)) h0) e1 rfl (by rw [hml]; rfl) (lenOf own_pd8 rfl) rfl (by exact Nat.le_of_eq rfl) (hd.at 13 rfl) (by decide) (by decide) (by decide) (by decide)) fun T2 X2 e2 => ?_
  rw [show ((own_minJ ((4 : Int32).toInt64) ((((0 : Int32).toInt64) + (1 : Int64)) * (16 : Int64)))) = (4 : Int64) from by decide]
  refine pR (fun _ kS => XS.l2i X2.here hx rfl (hd.at 14 rfl) rfl kS) ?_
  rw [show (((4 : Int64).toInt32)) = (4 : Int32) from by decide]
  refine ps X2 hx #[.val (.ref t), .val (.int 0), .val (.int (-1)), .val (.double FP.dconst0), .second, .val (.int 4), .unset, .unset, .unset] (hd.at 15 rfl) rfl ?_
  refine pI X2 hx (hd.at 16 rfl) rfl ?_
  refine pB X2 hx 16 (hd.at 17 rfl) rfl ?_
  refine o_imul X2 hx (hd.at 18 rfl) ?_
  rw [show (((0 : Int32) * (16 : Int32))) = (0 : Int32) from by decide]
  refine ps X2 hx #[.val (.ref t), .val (.int 0), .val (.int (-1)), .val (.double FP.dconst0), .second, .val (.int 4), .val (.int 0), .unset, .unset] (hd.at 19 rfl) rfl ?_
  refine pi X2 hx (hd.at 20 rfl) rfl ?_
  refine pi X2 hx (hd.at 21 rfl) rfl ?_
  refine pcN X2 hx (hd.at 22 rfl) ((tlt (by decide)).2.1) ?_
  refine pA X2 hx (hd.at 23 rfl) rfl rfl ?_
  refine pi X2 hx (hd.at 24 rfl) rfl ?_
  refine pgP (own_virtual X2 hx hZ (y := yN6) (z := yN6) (rm := ⟨0, 0, 0, 0⟩) (W := 0) (a := t) (argsL := [(.int 0)]) (rest := []) hown (wd hw 74 rfl) (wd hw 75 rfl) (notFace_of_selects (args := #[]) (mvT hZ (wd hw 77 rfl))) (wd hw 77 rfl) (wd hw 76 rfl) (wd hw 42 rfl) (wd hw 78 rfl) (rmCo l Z a0 hw t (0 : Int32) h0 mm (0 : Int64) BT.2.2.2.2.2.1 BT.2.2.2.2.2.2.2.2.2.2.2.1 (by decide)) e2 BT.1 rfl (by rw [hml]; rfl) (lenOf own_pd3 rfl) rfl (by exact Nat.le_of_eq rfl) (hd.at 25 rfl) (by decide) (by decide) (by decide) (by decide)) fun T3 X3 e3 => ?_
  rw [show (own_has (0 : Int64) (0 : Int32)) = (0 : Int32) from (by decide)]
  refine pfY X3 hx 77 (hd.at 26 rfl) ((if0 _ _).trans (teq rfl).1) ?_
  refine pN X3 hx (1 : Int32) #[.val (.ref t), .val (.int 0), .val (.int (-1)), .val (.double FP.dconst0), .second, .val (.int 4), .val (.int 1), .unset, .unset] (hd.at 27 rfl) rfl (by decide) rfl ?_
  refine pG X3 hx 29 (hd.at 28 rfl) ?_
  refine pi X3 hx (hd.at 20 rfl) rfl ?_
  refine pi X3 hx (hd.at 21 rfl) rfl ?_
  refine pcN X3 hx (hd.at 22 rfl) ((tlt (by decide)).2.1) ?_
  refine pA X3 hx (hd.at 23 rfl) rfl rfl ?_
  refine pi X3 hx (hd.at 24 rfl) rfl ?_
  refine pgP (own_virtual X3 hx hZ (y := yN6) (z := yN6) (rm := ⟨0, 0, 0, 0⟩) (W := 0) (a := t) (argsL := [(.int 1)]) (rest := []) hown (wd hw 74 rfl) (wd hw 75 rfl) (notFace_of_selects (args := #[]) (mvT hZ (wd hw 77 rfl))) (wd hw 77 rfl) (wd hw 76 rfl) (wd hw 42 rfl) (wd hw 78 rfl) (rmCo l Z a0 hw t (1 : Int32) h0 mm (0 : Int64) BT.2.2.2.2.2.1 BT.2.2.2.2.2.2.2.2.2.2.2.1 (by decide)) e3 BT.1 rfl (by rw [hml]; rfl) (lenOf own_pd3 rfl) rfl (by exact Nat.le_of_eq rfl) (hd.at 25 rfl) (by decide) (by decide) (by decide) (by decide)) fun T4 X4 e4 => ?_
  rw [show (own_has (0 : Int64) (1 : Int32)) = (0 : Int32) from (by decide)]
  refine pfY X4 hx 77 (hd.at 26 rfl) ((if0 _ _).trans (teq rfl).1) ?_
  refine pN X4 hx (2 : Int32) #[.val (.ref t), .val (.int 0), .val (.int (-1)), .val (.double FP.dconst0), .second, .val (.int 4), .val (.int 2), .unset, .unset] (hd.at 27 rfl) rfl (by decide) rfl ?_
  refine pG X4 hx 29 (hd.at 28 rfl) ?_
  refine pi X4 hx (hd.at 20 rfl) rfl ?_
  refine pi X4 hx (hd.at 21 rfl) rfl ?_
  refine pcN X4 hx (hd.at 22 rfl) ((tlt (by decide)).2.1) ?_
  refine pA X4 hx (hd.at 23 rfl) rfl rfl ?_
  refine pi X4 hx (hd.at 24 rfl) rfl ?_
  refine pgP (own_virtual X4 hx hZ (y := yN6) (z := yN6) (rm := ⟨0, 0, 0, 0⟩) (W := 0) (a := t) (argsL := [(.int 2)]) (rest := []) hown (wd hw 74 rfl) (wd hw 75 rfl) (notFace_of_selects (args := #[]) (mvT hZ (wd hw 77 rfl))) (wd hw 77 rfl) (wd hw 76 rfl) (wd hw 42 rfl) (wd hw 78 rfl) (rmCo l Z a0 hw t (2 : Int32) h0 mm (0 : Int64) BT.2.2.2.2.2.1 BT.2.2.2.2.2.2.2.2.2.2.2.1 (by decide)) e4 BT.1 rfl (by rw [hml]; rfl) (lenOf own_pd3 rfl) rfl (by exact Nat.le_of_eq rfl) (hd.at 25 rfl) (by decide) (by decide) (by decide) (by decide)) fun T5 X5 e5 => ?_
  rw [show (own_has (0 : Int64) (2 : Int32)) = (0 : Int32) from (by decide)]
  refine pfY X5 hx 77 (hd.at 26 rfl) ((if0 _ _).trans (teq rfl).1) ?_
  refine pN X5 hx (3 : Int32) #[.val (.ref t), .val (.int 0), .val (.int (-1)), .val (.double FP.dconst0), .second, .val (.int 4), .val (.int 3), .unset, .unset] (hd.at 27 rfl) rfl (by decide) rfl ?_
  refine pG X5 hx 29 (hd.at 28 rfl) ?_
  refine pi X5 hx (hd.at 20 rfl) rfl ?_
  refine pi X5 hx (hd.at 21 rfl) rfl ?_
  refine pcN X5 hx (hd.at 22 rfl) ((tlt (by decide)).2.1) ?_
  refine pA X5 hx (hd.at 23 rfl) rfl rfl ?_
  refine pi X5 hx (hd.at 24 rfl) rfl ?_
  refine pgP (own_virtual X5 hx hZ (y := yN6) (z := yN6) (rm := ⟨0, 0, 0, 0⟩) (W := 0) (a := t) (argsL := [(.int 3)]) (rest := []) hown (wd hw 74 rfl) (wd hw 75 rfl) (notFace_of_selects (args := #[]) (mvT hZ (wd hw 77 rfl))) (wd hw 77 rfl) (wd hw 76 rfl) (wd hw 42 rfl) (wd hw 78 rfl) (rmCo l Z a0 hw t (3 : Int32) h0 mm (0 : Int64) BT.2.2.2.2.2.1 BT.2.2.2.2.2.2.2.2.2.2.2.1 (by decide)) e5 BT.1 rfl (by rw [hml]; rfl) (lenOf own_pd3 rfl) rfl (by exact Nat.le_of_eq rfl) (hd.at 25 rfl) (by decide) (by decide) (by decide) (by decide)) fun T6 X6 e6 => ?_
  rw [show (own_has (0 : Int64) (3 : Int32)) = (0 : Int32) from (by decide)]
  refine pfY X6 hx 77 (hd.at 26 rfl) ((if0 _ _).trans (teq rfl).1) ?_
  refine pN X6 hx (4 : Int32) #[.val (.ref t), .val (.int 0), .val (.int (-1)), .val (.double FP.dconst0), .second, .val (.int 4), .val (.int 4), .unset, .unset] (hd.at 27 rfl) rfl (by decide) rfl ?_
  refine pG X6 hx 29 (hd.at 28 rfl) ?_
  refine pi X6 hx (hd.at 20 rfl) rfl ?_
  refine pi X6 hx (hd.at 21 rfl) rfl ?_
  refine pcY X6 hx 83 (hd.at 22 rfl) ((flt (by decide)).2.1) ?_
  refine pA X6 hx (hd.at 29 rfl) rfl rfl ?_
  refine pF X6 hx hZ hown (wd hw 90 rfl) e6 BT.2.2.2.2.2.2.2.2.2.1 (hd.at 30 rfl) fun T7 X7 e7 => ?_
  refine pA X7 hx (hd.at 31 rfl) rfl rfl ?_
  refine pF X7 hx hZ hown (wd hw 88 rfl) e7 BT.2.2.2.2.2.2.2.2.1 (hd.at 32 rfl) fun T8 X8 e8 => ?_
  have f9 : OTS Z h0 t mm fa fk k1 k2 ed (0 : Int64) sz pl := ⟨BT.1, BT.2.1, BT.2.2.1, BT.2.2.2.1, BT.2.2.2.2.1, BT.2.2.2.2.2.1, BT.2.2.2.2.2.2.1, BT.2.2.2.2.2.2.2.1, BT.2.2.2.2.2.2.2.2.1, BT.2.2.2.2.2.2.2.2.2.1, BT.2.2.2.2.2.2.2.2.2.2.1, BT.2.2.2.2.2.2.2.2.2.2.2.1, BT.2.2.2.2.2.2.2.2.2.2.2.2.1, BT.2.2.2.2.2.2.2.2.2.2.2.2.2.1⟩
  have f10 := BT.2.2.2.2.2.2.2.2.2.2.2.2.2.2.1
  have f11 := BT.2.2.2.2.2.2.2.2.2.2.2.2.2.2.2
  refine pI X8 hx (hd.at 33 rfl) rfl ?_
  refine o_iadd X8 hx (hd.at 34 rfl) ?_
  rw [show (((1 : Int32) + (0 : Int32))) = (1 : Int32) from by decide]
  refine pI X8 hx (hd.at 35 rfl) rfl ?_
  refine wI X8 hx hZ e8 f10 1 (hd.at 36 rfl) fun T12 h12 X12 e12 W12 V12 => ?_
  have f13 : OArr Z h12 fa .int 2 (fun i => .int ((own_q2 r0 (-1 : Int32)) i)) := V12.congr (own_lt2 rfl rfl)
  have n14 := hS.ne 2 3
  have n15 := Ne.symm n14
  replace f11 := f11.other W12 n15
  have n16 := hS.ne 0 2
  have n17 := hS.ne 1 2
  have n18 := hS.ne 2 4
  have n19 := Ne.symm n18
  have n20 := hS.ne 2 5
  have n21 := Ne.symm n20
  replace f9 := f9.keep (Keep.of_wr W12) (ninS n16 nin0) (ninS n17 nin0) (ninS n19 nin0) (ninS n21 nin0)
  have fr12 := Fr.snoc X12 N0 (hS.ge 2 rfl)
  have kp12 := kp0.wr W12 (Or.inl (List.mem_of_getElem? (i := 0) rfl))
  refine pA X12 hx (hd.at 37 rfl) rfl rfl ?_
  refine pF X12 hx hZ hown (wd hw 92 rfl) e12 f9.2.2.2.2.2.2.2.2.2.2.1 (hd.at 38 rfl) fun T22 X22 e22 => ?_
  refine pA X22 hx (hd.at 39 rfl) rfl rfl ?_
  refine pF X22 hx hZ hown (wd hw 88 rfl) e22 f9.2.2.2.2.2.2.2.2.1 (hd.at 40 rfl) fun T23 X23 e23 => ?_
  refine pI X23 hx (hd.at 41 rfl) rfl ?_
  refine o_iadd X23 hx (hd.at 42 rfl) ?_
  rw [show (((1 : Int32) + (0 : Int32))) = (1 : Int32) from by decide]
  refine pD X23 hx (hd.at 43 rfl) rfl ?_
  refine wD X23 hx hZ e23 f11 1 (hd.at 44 rfl) fun T24 h24 X24 e24 W24 V24 => ?_
  have f25 : OArr Z h24 fk .double 2 (fun i => .double ((own_q2 d0 FP.dconst0) i)) := V24.congr (own_lt2 rfl rfl)
  replace f13 := f13.other W24 n14
  have n26 := hS.ne 0 3
  have n27 := hS.ne 1 3
  have n28 := hS.ne 3 4
  have n29 := Ne.symm n28
  have n30 := hS.ne 3 5
  have n31 := Ne.symm n30
  replace f9 := f9.keep (Keep.of_wr W24) (ninS n26 nin0) (ninS n27 nin0) (ninS n29 nin0) (ninS n31 nin0)
  have fr24 := Fr.snoc X24 fr12 (hS.ge 3 rfl)
  have kp24 := kp12.wr W24 (Or.inl (List.mem_of_getElem? (i := 1) rfl))
  exact own_retV X24 hx hret hlk (hd.at 45 rfl) (by decide) (by decide) (by show _ ∧ _ ∧ Keep h0 T24.heap _ ∧ _; rw [e24]; exact ⟨rfl, fr24, kp24, (-1 : Int32), FP.dconst0, rfl, f9.1, f9.2.1, f9.2.2.1, f9.2.2.2.1, f9.2.2.2.2.1, f9.2.2.2.2.2.1, f9.2.2.2.2.2.2.1, f9.2.2.2.2.2.2.2.1, f9.2.2.2.2.2.2.2.2.1, f9.2.2.2.2.2.2.2.2.2.1, f9.2.2.2.2.2.2.2.2.2.2.1, f9.2.2.2.2.2.2.2.2.2.2.2.1, f9.2.2.2.2.2.2.2.2.2.2.2.2.1, f9.2.2.2.2.2.2.2.2.2.2.2.2.2, f13, f25⟩)
set_option maxRecDepth 65536 in
set_option maxHeartbeats 40000000 in
theorem rmSc32 (l : Launch) (Z : State) (a0 : Array Value) (hw : ∀ d ∈ tables_1, d.before a0 Z = true) (t : Addr) (h0 : Heap) (n0 : Nat) (mm fa fk k1 k2 ed : Addr) (sz pl r0 r : Int32) (d0 d : UInt64) (BT : OTP Z h0 t mm fa fk k1 k2 ed 2 sz pl r0 r d0 d) (hS : OOrd n0 [t, mm, fa, fk, k1, k2]) (E_e : Exa Z h0 ed "com/example/rankfold/rankfold/summaries/BucketEditor") (HJ : OMet l Z yN16 prog_72_method_25_code 3 (some .double) (⟨6, 0, 0, 109⟩ : Room) #[(.ref ed), (.int 1)] h0 (fun v h L => (∃ w, v = some (.double w) ∧ True) ∧ h = h0 ∧ L = [])) :
    OMet l Z yN9 prog_86_method_11_code 9 none (⟨8, 0, 0, 136⟩ : Room) #[(.ref t), (.int 0)] h0 (fun v h L => v = none ∧ Fr n0 L ∧ Keep h0 h [fa, fk] ∧ ∃ r' d', r' = (1 : Int32) ∧ OTP Z h t mm fa fk k1 k2 ed 2 sz pl r0 r' d0 d') := by
  refine own_enter own_pn9 ?_
  intro p e s m below meth c T0 X0 hC e0 hnamed
  have hC0 := hC
  obtain ⟨hx, hZH, hby, hml, hown, hret, hlk, hnm⟩ := hC
  have hZ := hZH.wide
  have hown : s.vm.findClass "com/example/rankfold/rankfold/summaries/Tournament" = some m.cls := hown
  refine own_at (own_ef9_RI m t (0 : Int32)) ?_
  have hd := D9.to hby
  have N0 := Fr.nil n0
  have kp0 := Keep.refl h0 [fa, fk]
  refine pC X0 hx (-1) (hd.at 0 rfl) rfl ?_
  refine pS X0 hx #[.val (.ref t), .val (.int 0), .val (.int (-1)), .unset, .unset, .unset, .unset, .unset, .unset] (hd.at 1 rfl) rfl ?_
  refine pL (own_dconst0 X0 hx rfl (hd.at 2 rfl)) ?_
  refine pT X0 hx #[.val (.ref t), .val (.int 0), .val (.int (-1)), .val (.double FP.dconst0), .second, .unset, .unset, .unset, .unset] (hd.at 3 rfl) rfl ?_
  refine pA X0 hx (hd.at 4 rfl) rfl rfl ?_
  refine pF X0 hx hZ hown (wd hw 58 rfl) e0 BT.2.2.2.2.1 (hd.at 5 rfl) fun T1 X1 e1 => ?_
  refine o_i2l X1 hx (hd.at 6 rfl) ?_
  refine pI X1 hx (hd.at 7 rfl) rfl ?_
  refine o_i2l X1 hx (hd.at 8 rfl) ?_
  refine own_st (fun _ kS => XS.lconst X1.here hx rfl (hd.at 9 rfl) kS) ?_
  show OFin p e below s _ _ _ (T1.setTop (mkF m 12 #[.val (.ref t), .val (.int 0), .val (.int (-1)), .val (.double FP.dconst0), .second, .unset, .unset, .unset, .unset] [(.long 1), (.long ((0 : Int32).toInt64)), (.long ((4 : Int32).toInt64))]))
  refine o_ladd X1 hx (hd.at 10 rfl) ?_
  refine pL (X1.ldc2Long hx hown (mvT hZ (wd hw 98 rfl)) rfl (hd.at 11 rfl)) ?_
  refine pR (fun _ kS => XS.lmul X1.here hx rfl (hd.at 12 rfl) rfl kS) ?_
  refine pgP (own_static X1 hx hZ (y := yN10) (rm := ⟨0, 0, 0, 0⟩) (W := 0) (argsL := [(.long ((4 : Int32).toInt64)), (.long ((((0 : Int32).toInt64) + (1 : Int64)) * (16 : Int64)))]) (rest := []) hown (wd hw 99 rfl) (wd hw 100 rfl) (wd hw 86 rfl) (wd hw 101 rfl) (rmMinJ l Z a0 hw ((4 : Int32).toInt64) ((((0 : Int32).toInt64) + (1 : Int64)) * (16 : Int64)) h0) e1 rfl (by rw [hml]; rfl) (lenOf own_pd8 rfl) rfl (by exact Nat.le_of_eq rfl) (hd.at 13 rfl) (by decide) (by decide) (by decide) (by decide)) fun T2 X2 e2 => ?_
  rw [show ((own_minJ ((4 : Int32).toInt64) ((((0 : Int32).toInt64) + (1 : Int64)) * (16 : Int64)))) = (4 : Int64) from by decide]
  refine pR (fun _ kS => XS.l2i X2.here hx rfl (hd.at 14 rfl) rfl kS) ?_
  rw [show (((4 : Int64).toInt32)) = (4 : Int32) from by decide]
  refine ps X2 hx #[.val (.ref t), .val (.int 0), .val (.int (-1)), .val (.double FP.dconst0), .second, .val (.int 4), .unset, .unset, .unset] (hd.at 15 rfl) rfl ?_
  refine pI X2 hx (hd.at 16 rfl) rfl ?_
  refine pB X2 hx 16 (hd.at 17 rfl) rfl ?_
  refine o_imul X2 hx (hd.at 18 rfl) ?_
  rw [show (((0 : Int32) * (16 : Int32))) = (0 : Int32) from by decide]
  refine ps X2 hx #[.val (.ref t), .val (.int 0), .val (.int (-1)), .val (.double FP.dconst0), .second, .val (.int 4), .val (.int 0), .unset, .unset] (hd.at 19 rfl) rfl ?_
  refine pi X2 hx (hd.at 20 rfl) rfl ?_
  refine pi X2 hx (hd.at 21 rfl) rfl ?_
  refine pcN X2 hx (hd.at 22 rfl) ((tlt (by decide)).2.1) ?_
  refine pA X2 hx (hd.at 23 rfl) rfl rfl ?_
  refine pi X2 hx (hd.at 24 rfl) rfl ?_
  refine pgP (own_virtual X2 hx hZ (y := yN6) (z := yN6) (rm := ⟨0, 0, 0, 0⟩) (W := 0) (a := t) (argsL := [(.int 0)]) (rest := []) hown (wd hw 74 rfl) (wd hw 75 rfl) (notFace_of_selects (args := #[]) (mvT hZ (wd hw 77 rfl))) (wd hw 77 rfl) (wd hw 76 rfl) (wd hw 42 rfl) (wd hw 78 rfl) (rmCo l Z a0 hw t (0 : Int32) h0 mm (2 : Int64) BT.2.2.2.2.2.1 BT.2.2.2.2.2.2.2.2.2.2.2.1 (by decide)) e2 BT.1 rfl (by rw [hml]; rfl) (lenOf own_pd3 rfl) rfl (by exact Nat.le_of_eq rfl) (hd.at 25 rfl) (by decide) (by decide) (by decide) (by decide)) fun T3 X3 e3 => ?_
  rw [show (own_has (2 : Int64) (0 : Int32)) = (0 : Int32) from (by decide)]
  refine pfY X3 hx 77 (hd.at 26 rfl) ((if0 _ _).trans (teq rfl).1) ?_
  refine pN X3 hx (1 : Int32) #[.val (.ref t), .val (.int 0), .val (.int (-1)), .val (.double FP.dconst0), .second, .val (.int 4), .val (.int 1), .unset, .unset] (hd.at 27 rfl) rfl (by decide) rfl ?_
  refine pG X3 hx 29 (hd.at 28 rfl) ?_
  refine pi X3 hx (hd.at 20 rfl) rfl ?_
  refine pi X3 hx (hd.at 21 rfl) rfl ?_
  refine pcN X3 hx (hd.at 22 rfl) ((tlt (by decide)).2.1) ?_
  refine pA X3 hx (hd.at 23 rfl) rfl rfl ?_
  refine pi X3 hx (hd.at 24 rfl) rfl ?_
  refine pgP (own_virtual X3 hx hZ (y := yN6) (z := yN6) (rm := ⟨0, 0, 0, 0⟩) (W := 0) (a := t) (argsL := [(.int 1)]) (rest := []) hown (wd hw 74 rfl) (wd hw 75 rfl) (notFace_of_selects (args := #[]) (mvT hZ (wd hw 77 rfl))) (wd hw 77 rfl) (wd hw 76 rfl) (wd hw 42 rfl) (wd hw 78 rfl) (rmCo l Z a0 hw t (1 : Int32) h0 mm (2 : Int64) BT.2.2.2.2.2.1 BT.2.2.2.2.2.2.2.2.2.2.2.1 (by decide)) e3 BT.1 rfl (by rw [hml]; rfl) (lenOf own_pd3 rfl) rfl (by exact Nat.le_of_eq rfl) (hd.at 25 rfl) (by decide) (by decide) (by decide) (by decide)) fun T4 X4 e4 => ?_
  rw [show (own_has (2 : Int64) (1 : Int32)) = (1 : Int32) from (by decide)]
  refine pfN X4 hx (hd.at 26 rfl) ((if0 _ _).trans (feq (by decide)).1) ?_
  refine pA X4 hx (hd.at 46 rfl) rfl rfl ?_
  refine pF X4 hx hZ hown (wd hw 54 rfl) e4 BT.2.2.1 (hd.at 47 rfl) fun T5 X5 e5 => ?_
  refine pi X5 hx (hd.at 48 rfl) rfl ?_
  refine pg7 (own_lamCall (P := fun _ => True) X5 hx hZH (nm := "joinedError") (index := 78) (count := 2) hown (wd hw 129 rfl) (wd hw 130 rfl) (wd hw 131 rfl) (wd hw 46 rfl) LJ.facts (bytes := prog_72_method_25_code) (maxL := 3) (rm := ⟨6, 0, 0, 109⟩) (wd hw 134 rfl) (wd hw 132 rfl) (wd hw 133 rfl) (wd hw 7 rfl) e5 BT.2.2.2.2.2.2.2.2.2.2.2.2.1 E_e HJ rfl rfl rfl (by rw [hml]; rfl) rfl (W := 0) (by exact Nat.le_of_eq rfl) (hd.at 49 rfl) (by decide) (by decide) (by decide) (by decide)) fun rv6 T6 _ X6 e6 => ?_
  refine pt X6 hx #[.val (.ref t), .val (.int 0), .val (.int (-1)), .val (.double FP.dconst0), .second, .val (.int 4), .val (.int 1), .val (.double rv6), .second] (hd.at 50 rfl) rfl ?_
  refine pA X6 hx (hd.at 51 rfl) rfl rfl ?_
  refine pi X6 hx (hd.at 52 rfl) rfl ?_
  refine pd X6 hx (hd.at 53 rfl) rfl ?_
  refine pI X6 hx (hd.at 54 rfl) rfl ?_
  refine pD X6 hx (hd.at 55 rfl) rfl ?_
  refine pgP (own_private X6 hx hZ (y := yN25) (rm := ⟨2, 0, 0, 28⟩) (W := 0) (a := t) (argsL := [(.int 1), (.double rv6), (.int (-1)), (.double FP.dconst0)]) (rest := []) hown (wd hw 168 rfl) (wd hw 169 rfl) (wd hw 170 rfl) (wd hw 72 rfl) rfl (wd hw 42 rfl) (wd hw 171 rfl) (rmIBa l Z a0 hw t (1 : Int32) rv6 FP.dconst0 h0 (by decide)) e6 BT.1 rfl (by rw [hml]; rfl) (lenOf own_pd9 rfl) rfl (by exact Nat.le_of_eq rfl) (hd.at 56 rfl) (by decide) (by decide) (by decide) (by decide)) fun T7 X7 e7 => ?_
  refine pfN X7 hx (hd.at 57 rfl) ((if0 _ _).trans (feq (by decide)).1) ?_
  refine pi X7 hx (hd.at 58 rfl) rfl ?_
  refine pS X7 hx #[.val (.ref t), .val (.int 0), .val (.int 1), .val (.double FP.dconst0), .second, .val (.int 4), .val (.int 1), .val (.double rv6), .second] (hd.at 59 rfl) rfl ?_
  refine pd X7 hx (hd.at 60 rfl) rfl ?_
  refine pT X7 hx #[.val (.ref t), .val (.int 0), .val (.int 1), .val (.double rv6), .second, .val (.int 4), .val (.int 1), .val (.double rv6), .second] (hd.at 61 rfl) rfl ?_
  refine pN X7 hx (2 : Int32) #[.val (.ref t), .val (.int 0), .val (.int 1), .val (.double rv6), .second, .val (.int 4), .val (.int 2), .val (.double rv6), .second] (hd.at 27 rfl) rfl (by decide) rfl ?_
  refine pG X7 hx 29 (hd.at 28 rfl) ?_
  refine pi X7 hx (hd.at 20 rfl) rfl ?_
  refine pi X7 hx (hd.at 21 rfl) rfl ?_
  refine pcN X7 hx (hd.at 22 rfl) ((tlt (by decide)).2.1) ?_
  refine pA X7 hx (hd.at 23 rfl) rfl rfl ?_
  refine pi X7 hx (hd.at 24 rfl) rfl ?_
  refine pgP (own_virtual X7 hx hZ (y := yN6) (z := yN6) (rm := ⟨0, 0, 0, 0⟩) (W := 0) (a := t) (argsL := [(.int 2)]) (rest := []) hown (wd hw 74 rfl) (wd hw 75 rfl) (notFace_of_selects (args := #[]) (mvT hZ (wd hw 77 rfl))) (wd hw 77 rfl) (wd hw 76 rfl) (wd hw 42 rfl) (wd hw 78 rfl) (rmCo l Z a0 hw t (2 : Int32) h0 mm (2 : Int64) BT.2.2.2.2.2.1 BT.2.2.2.2.2.2.2.2.2.2.2.1 (by decide)) e7 BT.1 rfl (by rw [hml]; rfl) (lenOf own_pd3 rfl) rfl (by exact Nat.le_of_eq rfl) (hd.at 25 rfl) (by decide) (by decide) (by decide) (by decide)) fun T8 X8 e8 => ?_
  rw [show (own_has (2 : Int64) (2 : Int32)) = (0 : Int32) from (by decide)]
  refine pfY X8 hx 77 (hd.at 26 rfl) ((if0 _ _).trans (teq rfl).1) ?_
  refine pN X8 hx (3 : Int32) #[.val (.ref t), .val (.int 0), .val (.int 1), .val (.double rv6), .second, .val (.int 4), .val (.int 3), .val (.double rv6), .second] (hd.at 27 rfl) rfl (by decide) rfl ?_
  refine pG X8 hx 29 (hd.at 28 rfl) ?_
  refine pi X8 hx (hd.at 20 rfl) rfl ?_
  refine pi X8 hx (hd.at 21 rfl) rfl ?_
  refine pcN X8 hx (hd.at 22 rfl) ((tlt (by decide)).2.1) ?_
  refine pA X8 hx (hd.at 23 rfl) rfl rfl ?_
  refine pi X8 hx (hd.at 24 rfl) rfl ?_
  refine pgP (own_virtual X8 hx hZ (y := yN6) (z := yN6) (rm := ⟨0, 0, 0, 0⟩) (W := 0) (a := t) (argsL := [(.int 3)]) (rest := []) hown (wd hw 74 rfl) (wd hw 75 rfl) (notFace_of_selects (args := #[]) (mvT hZ (wd hw 77 rfl))) (wd hw 77 rfl) (wd hw 76 rfl) (wd hw 42 rfl) (wd hw 78 rfl) (rmCo l Z a0 hw t (3 : Int32) h0 mm (2 : Int64) BT.2.2.2.2.2.1 BT.2.2.2.2.2.2.2.2.2.2.2.1 (by decide)) e8 BT.1 rfl (by rw [hml]; rfl) (lenOf own_pd3 rfl) rfl (by exact Nat.le_of_eq rfl) (hd.at 25 rfl) (by decide) (by decide) (by decide) (by decide)) fun T9 X9 e9 => ?_
  rw [show (own_has (2 : Int64) (3 : Int32)) = (0 : Int32) from (by decide)]
  refine pfY X9 hx 77 (hd.at 26 rfl) ((if0 _ _).trans (teq rfl).1) ?_
  refine pN X9 hx (4 : Int32) #[.val (.ref t), .val (.int 0), .val (.int 1), .val (.double rv6), .second, .val (.int 4), .val (.int 4), .val (.double rv6), .second] (hd.at 27 rfl) rfl (by decide) rfl ?_
  refine pG X9 hx 29 (hd.at 28 rfl) ?_
  refine pi X9 hx (hd.at 20 rfl) rfl ?_
  refine pi X9 hx (hd.at 21 rfl) rfl ?_
  refine pcY X9 hx 83 (hd.at 22 rfl) ((flt (by decide)).2.1) ?_
  refine pA X9 hx (hd.at 29 rfl) rfl rfl ?_
  refine pF X9 hx hZ hown (wd hw 90 rfl) e9 BT.2.2.2.2.2.2.2.2.2.1 (hd.at 30 rfl) fun T10 X10 e10 => ?_
  refine pA X10 hx (hd.at 31 rfl) rfl rfl ?_
  refine pF X10 hx hZ hown (wd hw 88 rfl) e10 BT.2.2.2.2.2.2.2.2.1 (hd.at 32 rfl) fun T11 X11 e11 => ?_
  have f12 : OTS Z h0 t mm fa fk k1 k2 ed (2 : Int64) sz pl := ⟨BT.1, BT.2.1, BT.2.2.1, BT.2.2.2.1, BT.2.2.2.2.1, BT.2.2.2.2.2.1, BT.2.2.2.2.2.2.1, BT.2.2.2.2.2.2.2.1, BT.2.2.2.2.2.2.2.2.1, BT.2.2.2.2.2.2.2.2.2.1, BT.2.2.2.2.2.2.2.2.2.2.1, BT.2.2.2.2.2.2.2.2.2.2.2.1, BT.2.2.2.2.2.2.2.2.2.2.2.2.1, BT.2.2.2.2.2.2.2.2.2.2.2.2.2.1⟩
  have f13 := BT.2.2.2.2.2.2.2.2.2.2.2.2.2.2.1
  have f14 := BT.2.2.2.2.2.2.2.2.2.2.2.2.2.2.2
  refine pI X11 hx (hd.at 33 rfl) rfl ?_
  refine o_iadd X11 hx (hd.at 34 rfl) ?_
  rw [show (((1 : Int32) + (0 : Int32))) = (1 : Int32) from by decide]
  refine pI X11 hx (hd.at 35 rfl) rfl ?_
  refine wI X11 hx hZ e11 f13 1 (hd.at 36 rfl) fun T15 h15 X15 e15 W15 V15 => ?_
  have f16 : OArr Z h15 fa .int 2 (fun i => .int ((own_q2 r0 (1 : Int32)) i)) := V15.congr (own_lt2 rfl rfl)
  have n17 := hS.ne 2 3
  have n18 := Ne.symm n17
  replace f14 := f14.other W15 n18
  have n19 := hS.ne 0 2
  have n20 := hS.ne 1 2
  have n21 := hS.ne 2 4
  have n22 := Ne.symm n21
  have n23 := hS.ne 2 5
  have n24 := Ne.symm n23
  replace f12 := f12.keep (Keep.of_wr W15) (ninS n19 nin0) (ninS n20 nin0) (ninS n22 nin0) (ninS n24 nin0)
  have fr15 := Fr.snoc X15 N0 (hS.ge 2 rfl)
  have kp15 := kp0.wr W15 (Or.inl (List.mem_of_getElem? (i := 0) rfl))
  refine pA X15 hx (hd.at 37 rfl) rfl rfl ?_
  refine pF X15 hx hZ hown (wd hw 92 rfl) e15 f12.2.2.2.2.2.2.2.2.2.2.1 (hd.at 38 rfl) fun T25 X25 e25 => ?_
  refine pA X25 hx (hd.at 39 rfl) rfl rfl ?_
  refine pF X25 hx hZ hown (wd hw 88 rfl) e25 f12.2.2.2.2.2.2.2.2.1 (hd.at 40 rfl) fun T26 X26 e26 => ?_
  refine pI X26 hx (hd.at 41 rfl) rfl ?_
  refine o_iadd X26 hx (hd.at 42 rfl) ?_
  rw [show (((1 : Int32) + (0 : Int32))) = (1 : Int32) from by decide]
  refine pD X26 hx (hd.at 43 rfl) rfl ?_
  refine wD X26 hx hZ e26 f14 1 (hd.at 44 rfl) fun T27 h27 X27 e27 W27 V27 => ?_
  have f28 : OArr Z h27 fk .double 2 (fun i => .double ((own_q2 d0 rv6) i)) := V27.congr (own_lt2 rfl rfl)
  replace f16 := f16.other W27 n17
  have n29 := hS.ne 0 3
  have n30 := hS.ne 1 3
  have n31 := hS.ne 3 4
  have n32 := Ne.symm n31
  have n33 := hS.ne 3 5
  have n34 := Ne.symm n33
  replace f12 := f12.keep (Keep.of_wr W27) (ninS n29 nin0) (ninS n30 nin0) (ninS n32 nin0) (ninS n34 nin0)
  have fr27 := Fr.snoc X27 fr15 (hS.ge 3 rfl)
  have kp27 := kp15.wr W27 (Or.inl (List.mem_of_getElem? (i := 1) rfl))
  exact own_retV X27 hx hret hlk (hd.at 45 rfl) (by decide) (by decide) (by show _ ∧ _ ∧ Keep h0 T27.heap _ ∧ _; rw [e27]; exact ⟨rfl, fr27, kp27, (1 : Int32), rv6, rfl, f12.1, f12.2.1, f12.2.2.1, f12.2.2.2.1, f12.2.2.2.2.1, f12.2.2.2.2.2.1, f12.2.2.2.2.2.2.1, f12.2.2.2.2.2.2.2.1, f12.2.2.2.2.2.2.2.2.1, f12.2.2.2.2.2.2.2.2.2.1, f12.2.2.2.2.2.2.2.2.2.2.1, f12.2.2.2.2.2.2.2.2.2.2.2.1, f12.2.2.2.2.2.2.2.2.2.2.2.2.1, f12.2.2.2.2.2.2.2.2.2.2.2.2.2, f16, f28⟩)
set_option maxRecDepth 65536 in
set_option maxHeartbeats 40000000 in
theorem rmSc44 (l : Launch) (Z : State) (a0 : Array Value) (hw : ∀ d ∈ tables_1, d.before a0 Z = true) (t : Addr) (h0 : Heap) (n0 : Nat) (mm fa fk k1 k2 ed : Addr) (sz pl r0 r : Int32) (d0 d : UInt64) (u ct gd px nx : Addr) (fu fc : Nat → UInt64) (fg : Nat → Int32) (nd : UInt64) (BT : OTP Z h0 t mm fa fk k1 k2 ed 4 sz pl r0 r d0 d) (hS : OOrd n0 [t, mm, fa, fk, k1, k2]) (B : ORd Z h0 ed u ct gd px nx fu fc fg own_p4 own_n4 nd) (hU : OUp fu) (hN : OCn fc) (hD : Mag64 1088 nd) :
    OMet l Z yN9 prog_86_method_11_code 9 none (⟨8, 0, 0, 136⟩ : Room) #[(.ref t), (.int 0)] h0 (fun v h L => v = none ∧ Fr n0 L ∧ Keep h0 h [fa, fk] ∧ ∃ r' d', True ∧ OTP Z h t mm fa fk k1 k2 ed 4 sz pl r0 r' d0 d') := by
  refine own_enter own_pn9 ?_
  intro p e s m below meth c T0 X0 hC e0 hnamed
  have hC0 := hC
  obtain ⟨hx, hZH, hby, hml, hown, hret, hlk, hnm⟩ := hC
  have hZ := hZH.wide
  have hown : s.vm.findClass "com/example/rankfold/rankfold/summaries/Tournament" = some m.cls := hown
  refine own_at (own_ef9_RI m t (0 : Int32)) ?_
  have hd := D9.to hby
  have N0 := Fr.nil n0
  have kp0 := Keep.refl h0 [fa, fk]
  refine pC X0 hx (-1) (hd.at 0 rfl) rfl ?_
  refine pS X0 hx #[.val (.ref t), .val (.int 0), .val (.int (-1)), .unset, .unset, .unset, .unset, .unset, .unset] (hd.at 1 rfl) rfl ?_
  refine pL (own_dconst0 X0 hx rfl (hd.at 2 rfl)) ?_
  refine pT X0 hx #[.val (.ref t), .val (.int 0), .val (.int (-1)), .val (.double FP.dconst0), .second, .unset, .unset, .unset, .unset] (hd.at 3 rfl) rfl ?_
  refine pA X0 hx (hd.at 4 rfl) rfl rfl ?_
  refine pF X0 hx hZ hown (wd hw 58 rfl) e0 BT.2.2.2.2.1 (hd.at 5 rfl) fun T1 X1 e1 => ?_
  refine o_i2l X1 hx (hd.at 6 rfl) ?_
  refine pI X1 hx (hd.at 7 rfl) rfl ?_
  refine o_i2l X1 hx (hd.at 8 rfl) ?_
  refine own_st (fun _ kS => XS.lconst X1.here hx rfl (hd.at 9 rfl) kS) ?_
  show OFin p e below s _ _ _ (T1.setTop (mkF m 12 #[.val (.ref t), .val (.int 0), .val (.int (-1)), .val (.double FP.dconst0), .second, .unset, .unset, .unset, .unset] [(.long 1), (.long ((0 : Int32).toInt64)), (.long ((4 : Int32).toInt64))]))
  refine o_ladd X1 hx (hd.at 10 rfl) ?_
  refine pL (X1.ldc2Long hx hown (mvT hZ (wd hw 98 rfl)) rfl (hd.at 11 rfl)) ?_
  refine pR (fun _ kS => XS.lmul X1.here hx rfl (hd.at 12 rfl) rfl kS) ?_
  refine pgP (own_static X1 hx hZ (y := yN10) (rm := ⟨0, 0, 0, 0⟩) (W := 0) (argsL := [(.long ((4 : Int32).toInt64)), (.long ((((0 : Int32).toInt64) + (1 : Int64)) * (16 : Int64)))]) (rest := []) hown (wd hw 99 rfl) (wd hw 100 rfl) (wd hw 86 rfl) (wd hw 101 rfl) (rmMinJ l Z a0 hw ((4 : Int32).toInt64) ((((0 : Int32).toInt64) + (1 : Int64)) * (16 : Int64)) h0) e1 rfl (by rw [hml]; rfl) (lenOf own_pd8 rfl) rfl (by exact Nat.le_of_eq rfl) (hd.at 13 rfl) (by decide) (by decide) (by decide) (by decide)) fun T2 X2 e2 => ?_
  rw [show ((own_minJ ((4 : Int32).toInt64) ((((0 : Int32).toInt64) + (1 : Int64)) * (16 : Int64)))) = (4 : Int64) from by decide]
  refine pR (fun _ kS => XS.l2i X2.here hx rfl (hd.at 14 rfl) rfl kS) ?_
  rw [show (((4 : Int64).toInt32)) = (4 : Int32) from by decide]
  refine ps X2 hx #[.val (.ref t), .val (.int 0), .val (.int (-1)), .val (.double FP.dconst0), .second, .val (.int 4), .unset, .unset, .unset] (hd.at 15 rfl) rfl ?_
  refine pI X2 hx (hd.at 16 rfl) rfl ?_
  refine pB X2 hx 16 (hd.at 17 rfl) rfl ?_
  refine o_imul X2 hx (hd.at 18 rfl) ?_
  rw [show (((0 : Int32) * (16 : Int32))) = (0 : Int32) from by decide]
  refine ps X2 hx #[.val (.ref t), .val (.int 0), .val (.int (-1)), .val (.double FP.dconst0), .second, .val (.int 4), .val (.int 0), .unset, .unset] (hd.at 19 rfl) rfl ?_
  refine pi X2 hx (hd.at 20 rfl) rfl ?_
  refine pi X2 hx (hd.at 21 rfl) rfl ?_
  refine pcN X2 hx (hd.at 22 rfl) ((tlt (by decide)).2.1) ?_
  refine pA X2 hx (hd.at 23 rfl) rfl rfl ?_
  refine pi X2 hx (hd.at 24 rfl) rfl ?_
  refine pgP (own_virtual X2 hx hZ (y := yN6) (z := yN6) (rm := ⟨0, 0, 0, 0⟩) (W := 0) (a := t) (argsL := [(.int 0)]) (rest := []) hown (wd hw 74 rfl) (wd hw 75 rfl) (notFace_of_selects (args := #[]) (mvT hZ (wd hw 77 rfl))) (wd hw 77 rfl) (wd hw 76 rfl) (wd hw 42 rfl) (wd hw 78 rfl) (rmCo l Z a0 hw t (0 : Int32) h0 mm (4 : Int64) BT.2.2.2.2.2.1 BT.2.2.2.2.2.2.2.2.2.2.2.1 (by decide)) e2 BT.1 rfl (by rw [hml]; rfl) (lenOf own_pd3 rfl) rfl (by exact Nat.le_of_eq rfl) (hd.at 25 rfl) (by decide) (by decide) (by decide) (by decide)) fun T3 X3 e3 => ?_
  rw [show (own_has (4 : Int64) (0 : Int32)) = (0 : Int32) from (by decide)]
  refine pfY X3 hx 77 (hd.at 26 rfl) ((if0 _ _).trans (teq rfl).1) ?_
  refine pN X3 hx (1 : Int32) #[.val (.ref t), .val (.int 0), .val (.int (-1)), .val (.double FP.dconst0), .second, .val (.int 4), .val (.int 1), .unset, .unset] (hd.at 27 rfl) rfl (by decide) rfl ?_
  refine pG X3 hx 29 (hd.at 28 rfl) ?_
  refine pi X3 hx (hd.at 20 rfl) rfl ?_
  refine pi X3 hx (hd.at 21 rfl) rfl ?_
  refine pcN X3 hx (hd.at 22 rfl) ((tlt (by decide)).2.1) ?_
  refine pA X3 hx (hd.at 23 rfl) rfl rfl ?_
  refine pi X3 hx (hd.at 24 rfl) rfl ?_
  refine pgP (own_virtual X3 hx hZ (y := yN6) (z := yN6) (rm := ⟨0, 0, 0, 0⟩) (W := 0) (a := t) (argsL := [(.int 1)]) (rest := []) hown (wd hw 74 rfl) (wd hw 75 rfl) (notFace_of_selects (args := #[]) (mvT hZ (wd hw 77 rfl))) (wd hw 77 rfl) (wd hw 76 rfl) (wd hw 42 rfl) (wd hw 78 rfl) (rmCo l Z a0 hw t (1 : Int32) h0 mm (4 : Int64) BT.2.2.2.2.2.1 BT.2.2.2.2.2.2.2.2.2.2.2.1 (by decide)) e3 BT.1 rfl (by rw [hml]; rfl) (lenOf own_pd3 rfl) rfl (by exact Nat.le_of_eq rfl) (hd.at 25 rfl) (by decide) (by decide) (by decide) (by decide)) fun T4 X4 e4 => ?_
  rw [show (own_has (4 : Int64) (1 : Int32)) = (0 : Int32) from (by decide)]
  refine pfY X4 hx 77 (hd.at 26 rfl) ((if0 _ _).trans (teq rfl).1) ?_
  refine pN X4 hx (2 : Int32) #[.val (.ref t), .val (.int 0), .val (.int (-1)), .val (.double FP.dconst0), .second, .val (.int 4), .val (.int 2), .unset, .unset] (hd.at 27 rfl) rfl (by decide) rfl ?_
  refine pG X4 hx 29 (hd.at 28 rfl) ?_
  refine pi X4 hx (hd.at 20 rfl) rfl ?_
  refine pi X4 hx (hd.at 21 rfl) rfl ?_
  refine pcN X4 hx (hd.at 22 rfl) ((tlt (by decide)).2.1) ?_
  refine pA X4 hx (hd.at 23 rfl) rfl rfl ?_
  refine pi X4 hx (hd.at 24 rfl) rfl ?_
  refine pgP (own_virtual X4 hx hZ (y := yN6) (z := yN6) (rm := ⟨0, 0, 0, 0⟩) (W := 0) (a := t) (argsL := [(.int 2)]) (rest := []) hown (wd hw 74 rfl) (wd hw 75 rfl) (notFace_of_selects (args := #[]) (mvT hZ (wd hw 77 rfl))) (wd hw 77 rfl) (wd hw 76 rfl) (wd hw 42 rfl) (wd hw 78 rfl) (rmCo l Z a0 hw t (2 : Int32) h0 mm (4 : Int64) BT.2.2.2.2.2.1 BT.2.2.2.2.2.2.2.2.2.2.2.1 (by decide)) e4 BT.1 rfl (by rw [hml]; rfl) (lenOf own_pd3 rfl) rfl (by exact Nat.le_of_eq rfl) (hd.at 25 rfl) (by decide) (by decide) (by decide) (by decide)) fun T5 X5 e5 => ?_
  rw [show (own_has (4 : Int64) (2 : Int32)) = (1 : Int32) from (by decide)]
  refine pfN X5 hx (hd.at 26 rfl) ((if0 _ _).trans (feq (by decide)).1) ?_
  refine pA X5 hx (hd.at 46 rfl) rfl rfl ?_
  refine pF X5 hx hZ hown (wd hw 54 rfl) e5 BT.2.2.1 (hd.at 47 rfl) fun T6 X6 e6 => ?_
  refine pi X6 hx (hd.at 48 rfl) rfl ?_
  refine pg7 (own_lamCall (P := fun _ => True) X6 hx hZH (nm := "joinedError") (index := 78) (count := 2) hown (wd hw 129 rfl) (wd hw 130 rfl) (wd hw 131 rfl) (wd hw 46 rfl) LJ.facts (bytes := prog_72_method_25_code) (maxL := 3) (rm := ⟨6, 0, 0, 109⟩) (wd hw 134 rfl) (wd hw 132 rfl) (wd hw 133 rfl) (wd hw 7 rfl) e6 BT.2.2.2.2.2.2.2.2.2.2.2.2.1 B.1 (rmJE42 l Z a0 hw ed h0 u ct gd px nx fu fc fg nd B hU hN hD) rfl rfl rfl (by rw [hml]; rfl) rfl (W := 0) (by exact Nat.le_of_eq rfl) (hd.at 49 rfl) (by decide) (by decide) (by decide) (by decide)) fun rv7 T7 _ X7 e7 => ?_
  refine pt X7 hx #[.val (.ref t), .val (.int 0), .val (.int (-1)), .val (.double FP.dconst0), .second, .val (.int 4), .val (.int 2), .val (.double rv7), .second] (hd.at 50 rfl) rfl ?_
  refine pA X7 hx (hd.at 51 rfl) rfl rfl ?_
  refine pi X7 hx (hd.at 52 rfl) rfl ?_
  refine pd X7 hx (hd.at 53 rfl) rfl ?_
  refine pI X7 hx (hd.at 54 rfl) rfl ?_
  refine pD X7 hx (hd.at 55 rfl) rfl ?_
  refine pgP (own_private X7 hx hZ (y := yN25) (rm := ⟨2, 0, 0, 28⟩) (W := 0) (a := t) (argsL := [(.int 2), (.double rv7), (.int (-1)), (.double FP.dconst0)]) (rest := []) hown (wd hw 168 rfl) (wd hw 169 rfl) (wd hw 170 rfl) (wd hw 72 rfl) rfl (wd hw 42 rfl) (wd hw 171 rfl) (rmIBa l Z a0 hw t (2 : Int32) rv7 FP.dconst0 h0 (by decide)) e7 BT.1 rfl (by rw [hml]; rfl) (lenOf own_pd9 rfl) rfl (by exact Nat.le_of_eq rfl) (hd.at 56 rfl) (by decide) (by decide) (by decide) (by decide)) fun T8 X8 e8 => ?_
  refine pfN X8 hx (hd.at 57 rfl) ((if0 _ _).trans (feq (by decide)).1) ?_
  refine pi X8 hx (hd.at 58 rfl) rfl ?_
  refine pS X8 hx #[.val (.ref t), .val (.int 0), .val (.int 2), .val (.double FP.dconst0), .second, .val (.int 4), .val (.int 2), .val (.double rv7), .second] (hd.at 59 rfl) rfl ?_
  refine pd X8 hx (hd.at 60 rfl) rfl ?_
  refine pT X8 hx #[.val (.ref t), .val (.int 0), .val (.int 2), .val (.double rv7), .second, .val (.int 4), .val (.int 2), .val (.double rv7), .second] (hd.at 61 rfl) rfl ?_
  refine pN X8 hx (3 : Int32) #[.val (.ref t), .val (.int 0), .val (.int 2), .val (.double rv7), .second, .val (.int 4), .val (.int 3), .val (.double rv7), .second] (hd.at 27 rfl) rfl (by decide) rfl ?_
  refine pG X8 hx 29 (hd.at 28 rfl) ?_
  refine pi X8 hx (hd.at 20 rfl) rfl ?_
  refine pi X8 hx (hd.at 21 rfl) rfl ?_
  refine pcN X8 hx (hd.at 22 rfl) ((tlt (by decide)).2.1) ?_
  refine pA X8 hx (hd.at 23 rfl) rfl rfl ?_
  refine pi X8 hx (hd.at 24 rfl) rfl ?_
  refine pgP (own_virtual X8 hx hZ (y := yN6) (z := yN6) (rm := ⟨0, 0, 0, 0⟩) (W := 0) (a := t) (argsL := [(.int 3)]) (rest := []) hown (wd hw 74 rfl) (wd hw 75 rfl) (notFace_of_selects (args := #[]) (mvT hZ (wd hw 77 rfl))) (wd hw 77 rfl) (wd hw 76 rfl) (wd hw 42 rfl) (wd hw 78 rfl) (rmCo l Z a0 hw t (3 : Int32) h0 mm (4 : Int64) BT.2.2.2.2.2.1 BT.2.2.2.2.2.2.2.2.2.2.2.1 (by decide)) e8 BT.1 rfl (by rw [hml]; rfl) (lenOf own_pd3 rfl) rfl (by exact Nat.le_of_eq rfl) (hd.at 25 rfl) (by decide) (by decide) (by decide) (by decide)) fun T9 X9 e9 => ?_
  rw [show (own_has (4 : Int64) (3 : Int32)) = (0 : Int32) from (by decide)]
  refine pfY X9 hx 77 (hd.at 26 rfl) ((if0 _ _).trans (teq rfl).1) ?_
  refine pN X9 hx (4 : Int32) #[.val (.ref t), .val (.int 0), .val (.int 2), .val (.double rv7), .second, .val (.int 4), .val (.int 4), .val (.double rv7), .second] (hd.at 27 rfl) rfl (by decide) rfl ?_
  refine pG X9 hx 29 (hd.at 28 rfl) ?_
  refine pi X9 hx (hd.at 20 rfl) rfl ?_
  refine pi X9 hx (hd.at 21 rfl) rfl ?_
  refine pcY X9 hx 83 (hd.at 22 rfl) ((flt (by decide)).2.1) ?_
  refine pA X9 hx (hd.at 29 rfl) rfl rfl ?_
  refine pF X9 hx hZ hown (wd hw 90 rfl) e9 BT.2.2.2.2.2.2.2.2.2.1 (hd.at 30 rfl) fun T10 X10 e10 => ?_
  refine pA X10 hx (hd.at 31 rfl) rfl rfl ?_
  refine pF X10 hx hZ hown (wd hw 88 rfl) e10 BT.2.2.2.2.2.2.2.2.1 (hd.at 32 rfl) fun T11 X11 e11 => ?_
  have f12 : OTS Z h0 t mm fa fk k1 k2 ed (4 : Int64) sz pl := ⟨BT.1, BT.2.1, BT.2.2.1, BT.2.2.2.1, BT.2.2.2.2.1, BT.2.2.2.2.2.1, BT.2.2.2.2.2.2.1, BT.2.2.2.2.2.2.2.1, BT.2.2.2.2.2.2.2.2.1, BT.2.2.2.2.2.2.2.2.2.1, BT.2.2.2.2.2.2.2.2.2.2.1, BT.2.2.2.2.2.2.2.2.2.2.2.1, BT.2.2.2.2.2.2.2.2.2.2.2.2.1, BT.2.2.2.2.2.2.2.2.2.2.2.2.2.1⟩
  have f13 := BT.2.2.2.2.2.2.2.2.2.2.2.2.2.2.1
  have f14 := BT.2.2.2.2.2.2.2.2.2.2.2.2.2.2.2
  refine pI X11 hx (hd.at 33 rfl) rfl ?_
  refine o_iadd X11 hx (hd.at 34 rfl) ?_
  rw [show (((1 : Int32) + (0 : Int32))) = (1 : Int32) from by decide]
  refine pI X11 hx (hd.at 35 rfl) rfl ?_
  refine wI X11 hx hZ e11 f13 1 (hd.at 36 rfl) fun T15 h15 X15 e15 W15 V15 => ?_
  have f16 : OArr Z h15 fa .int 2 (fun i => .int ((own_q2 r0 (2 : Int32)) i)) := V15.congr (own_lt2 rfl rfl)
  have n17 := hS.ne 2 3
  have n18 := Ne.symm n17
  replace f14 := f14.other W15 n18
  have n19 := hS.ne 0 2
  have n20 := hS.ne 1 2
  have n21 := hS.ne 2 4
  have n22 := Ne.symm n21
  have n23 := hS.ne 2 5
  have n24 := Ne.symm n23
  replace f12 := f12.keep (Keep.of_wr W15) (ninS n19 nin0) (ninS n20 nin0) (ninS n22 nin0) (ninS n24 nin0)
  have fr15 := Fr.snoc X15 N0 (hS.ge 2 rfl)
  have kp15 := kp0.wr W15 (Or.inl (List.mem_of_getElem? (i := 0) rfl))
  refine pA X15 hx (hd.at 37 rfl) rfl rfl ?_
  refine pF X15 hx hZ hown (wd hw 92 rfl) e15 f12.2.2.2.2.2.2.2.2.2.2.1 (hd.at 38 rfl) fun T25 X25 e25 => ?_
  refine pA X25 hx (hd.at 39 rfl) rfl rfl ?_
  refine pF X25 hx hZ hown (wd hw 88 rfl) e25 f12.2.2.2.2.2.2.2.2.1 (hd.at 40 rfl) fun T26 X26 e26 => ?_
  refine pI X26 hx (hd.at 41 rfl) rfl ?_
  refine o_iadd X26 hx (hd.at 42 rfl) ?_
  rw [show (((1 : Int32) + (0 : Int32))) = (1 : Int32) from by decide]
  refine pD X26 hx (hd.at 43 rfl) rfl ?_
  refine wD X26 hx hZ e26 f14 1 (hd.at 44 rfl) fun T27 h27 X27 e27 W27 V27 => ?_
  have f28 : OArr Z h27 fk .double 2 (fun i => .double ((own_q2 d0 rv7) i)) := V27.congr (own_lt2 rfl rfl)
  replace f16 := f16.other W27 n17
  have n29 := hS.ne 0 3
  have n30 := hS.ne 1 3
  have n31 := hS.ne 3 4
  have n32 := Ne.symm n31
  have n33 := hS.ne 3 5
  have n34 := Ne.symm n33
  replace f12 := f12.keep (Keep.of_wr W27) (ninS n29 nin0) (ninS n30 nin0) (ninS n32 nin0) (ninS n34 nin0)
  have fr27 := Fr.snoc X27 fr15 (hS.ge 3 rfl)
  have kp27 := kp15.wr W27 (Or.inl (List.mem_of_getElem? (i := 1) rfl))
  exact own_retV X27 hx hret hlk (hd.at 45 rfl) (by decide) (by decide) (by show _ ∧ _ ∧ Keep h0 T27.heap _ ∧ _; rw [e27]; exact ⟨rfl, fr27, kp27, (2 : Int32), rv7, trivial, f12.1, f12.2.1, f12.2.2.1, f12.2.2.2.1, f12.2.2.2.2.1, f12.2.2.2.2.2.1, f12.2.2.2.2.2.2.1, f12.2.2.2.2.2.2.2.1, f12.2.2.2.2.2.2.2.2.1, f12.2.2.2.2.2.2.2.2.2.1, f12.2.2.2.2.2.2.2.2.2.2.1, f12.2.2.2.2.2.2.2.2.2.2.2.1, f12.2.2.2.2.2.2.2.2.2.2.2.2.1, f12.2.2.2.2.2.2.2.2.2.2.2.2.2, f16, f28⟩)
set_option maxRecDepth 65536 in
set_option maxHeartbeats 40000000 in
theorem rmSc46 (l : Launch) (Z : State) (a0 : Array Value) (hw : ∀ d ∈ tables_1, d.before a0 Z = true) (t : Addr) (h0 : Heap) (n0 : Nat) (mm fa fk k1 k2 ed : Addr) (sz pl r0 r : Int32) (d0 d : UInt64) (u ct gd px nx : Addr) (fu fc : Nat → UInt64) (fg : Nat → Int32) (nd : UInt64) (BT : OTP Z h0 t mm fa fk k1 k2 ed 6 sz pl r0 r d0 d) (hS : OOrd n0 [t, mm, fa, fk, k1, k2]) (B : ORd Z h0 ed u ct gd px nx fu fc fg own_p4 own_n4 nd) (hU : OUp fu) (hN : OCn fc) (hD : Mag64 1088 nd) :
    OMet l Z yN9 prog_86_method_11_code 9 none (⟨8, 0, 0, 136⟩ : Room) #[(.ref t), (.int 0)] h0 (fun v h L => v = none ∧ Fr n0 L ∧ Keep h0 h [fa, fk] ∧ ∃ r' d', True ∧ OTP Z h t mm fa fk k1 k2 ed 6 sz pl r0 r' d0 d') := by
  refine own_enter own_pn9 ?_
  intro p e s m below meth c T0 X0 hC e0 hnamed
  have hC0 := hC
  obtain ⟨hx, hZH, hby, hml, hown, hret, hlk, hnm⟩ := hC
  have hZ := hZH.wide
  have hown : s.vm.findClass "com/example/rankfold/rankfold/summaries/Tournament" = some m.cls := hown
  refine own_at (own_ef9_RI m t (0 : Int32)) ?_
  have hd := D9.to hby
  have N0 := Fr.nil n0
  have kp0 := Keep.refl h0 [fa, fk]
  refine pC X0 hx (-1) (hd.at 0 rfl) rfl ?_
  refine pS X0 hx #[.val (.ref t), .val (.int 0), .val (.int (-1)), .unset, .unset, .unset, .unset, .unset, .unset] (hd.at 1 rfl) rfl ?_
  refine pL (own_dconst0 X0 hx rfl (hd.at 2 rfl)) ?_
  refine pT X0 hx #[.val (.ref t), .val (.int 0), .val (.int (-1)), .val (.double FP.dconst0), .second, .unset, .unset, .unset, .unset] (hd.at 3 rfl) rfl ?_
  refine pA X0 hx (hd.at 4 rfl) rfl rfl ?_
  refine pF X0 hx hZ hown (wd hw 58 rfl) e0 BT.2.2.2.2.1 (hd.at 5 rfl) fun T1 X1 e1 => ?_
  refine o_i2l X1 hx (hd.at 6 rfl) ?_
  refine pI X1 hx (hd.at 7 rfl) rfl ?_
  refine o_i2l X1 hx (hd.at 8 rfl) ?_
  refine own_st (fun _ kS => XS.lconst X1.here hx rfl (hd.at 9 rfl) kS) ?_
  show OFin p e below s _ _ _ (T1.setTop (mkF m 12 #[.val (.ref t), .val (.int 0), .val (.int (-1)), .val (.double FP.dconst0), .second, .unset, .unset, .unset, .unset] [(.long 1), (.long ((0 : Int32).toInt64)), (.long ((4 : Int32).toInt64))]))
  refine o_ladd X1 hx (hd.at 10 rfl) ?_
  refine pL (X1.ldc2Long hx hown (mvT hZ (wd hw 98 rfl)) rfl (hd.at 11 rfl)) ?_
  refine pR (fun _ kS => XS.lmul X1.here hx rfl (hd.at 12 rfl) rfl kS) ?_
  refine pgP (own_static X1 hx hZ (y := yN10) (rm := ⟨0, 0, 0, 0⟩) (W := 0) (argsL := [(.long ((4 : Int32).toInt64)), (.long ((((0 : Int32).toInt64) + (1 : Int64)) * (16 : Int64)))]) (rest := []) hown (wd hw 99 rfl) (wd hw 100 rfl) (wd hw 86 rfl) (wd hw 101 rfl) (rmMinJ l Z a0 hw ((4 : Int32).toInt64) ((((0 : Int32).toInt64) + (1 : Int64)) * (16 : Int64)) h0) e1 rfl (by rw [hml]; rfl) (lenOf own_pd8 rfl) rfl (by exact Nat.le_of_eq rfl) (hd.at 13 rfl) (by decide) (by decide) (by decide) (by decide)) fun T2 X2 e2 => ?_
  rw [show ((own_minJ ((4 : Int32).toInt64) ((((0 : Int32).toInt64) + (1 : Int64)) * (16 : Int64)))) = (4 : Int64) from by decide]
  refine pR (fun _ kS => XS.l2i X2.here hx rfl (hd.at 14 rfl) rfl kS) ?_
  rw [show (((4 : Int64).toInt32)) = (4 : Int32) from by decide]
  refine ps X2 hx #[.val (.ref t), .val (.int 0), .val (.int (-1)), .val (.double FP.dconst0), .second, .val (.int 4), .unset, .unset, .unset] (hd.at 15 rfl) rfl ?_
  refine pI X2 hx (hd.at 16 rfl) rfl ?_
  refine pB X2 hx 16 (hd.at 17 rfl) rfl ?_
  refine o_imul X2 hx (hd.at 18 rfl) ?_
  rw [show (((0 : Int32) * (16 : Int32))) = (0 : Int32) from by decide]
  refine ps X2 hx #[.val (.ref t), .val (.int 0), .val (.int (-1)), .val (.double FP.dconst0), .second, .val (.int 4), .val (.int 0), .unset, .unset] (hd.at 19 rfl) rfl ?_
  refine pi X2 hx (hd.at 20 rfl) rfl ?_
  refine pi X2 hx (hd.at 21 rfl) rfl ?_
  refine pcN X2 hx (hd.at 22 rfl) ((tlt (by decide)).2.1) ?_
  refine pA X2 hx (hd.at 23 rfl) rfl rfl ?_
  refine pi X2 hx (hd.at 24 rfl) rfl ?_
  refine pgP (own_virtual X2 hx hZ (y := yN6) (z := yN6) (rm := ⟨0, 0, 0, 0⟩) (W := 0) (a := t) (argsL := [(.int 0)]) (rest := []) hown (wd hw 74 rfl) (wd hw 75 rfl) (notFace_of_selects (args := #[]) (mvT hZ (wd hw 77 rfl))) (wd hw 77 rfl) (wd hw 76 rfl) (wd hw 42 rfl) (wd hw 78 rfl) (rmCo l Z a0 hw t (0 : Int32) h0 mm (6 : Int64) BT.2.2.2.2.2.1 BT.2.2.2.2.2.2.2.2.2.2.2.1 (by decide)) e2 BT.1 rfl (by rw [hml]; rfl) (lenOf own_pd3 rfl) rfl (by exact Nat.le_of_eq rfl) (hd.at 25 rfl) (by decide) (by decide) (by decide) (by decide)) fun T3 X3 e3 => ?_
  rw [show (own_has (6 : Int64) (0 : Int32)) = (0 : Int32) from (by decide)]
  refine pfY X3 hx 77 (hd.at 26 rfl) ((if0 _ _).trans (teq rfl).1) ?_
  refine pN X3 hx (1 : Int32) #[.val (.ref t), .val (.int 0), .val (.int (-1)), .val (.double FP.dconst0), .second, .val (.int 4), .val (.int 1), .unset, .unset] (hd.at 27 rfl) rfl (by decide) rfl ?_
  refine pG X3 hx 29 (hd.at 28 rfl) ?_
  refine pi X3 hx (hd.at 20 rfl) rfl ?_
  refine pi X3 hx (hd.at 21 rfl) rfl ?_
  refine pcN X3 hx (hd.at 22 rfl) ((tlt (by decide)).2.1) ?_
  refine pA X3 hx (hd.at 23 rfl) rfl rfl ?_
  refine pi X3 hx (hd.at 24 rfl) rfl ?_
  refine pgP (own_virtual X3 hx hZ (y := yN6) (z := yN6) (rm := ⟨0, 0, 0, 0⟩) (W := 0) (a := t) (argsL := [(.int 1)]) (rest := []) hown (wd hw 74 rfl) (wd hw 75 rfl) (notFace_of_selects (args := #[]) (mvT hZ (wd hw 77 rfl))) (wd hw 77 rfl) (wd hw 76 rfl) (wd hw 42 rfl) (wd hw 78 rfl) (rmCo l Z a0 hw t (1 : Int32) h0 mm (6 : Int64) BT.2.2.2.2.2.1 BT.2.2.2.2.2.2.2.2.2.2.2.1 (by decide)) e3 BT.1 rfl (by rw [hml]; rfl) (lenOf own_pd3 rfl) rfl (by exact Nat.le_of_eq rfl) (hd.at 25 rfl) (by decide) (by decide) (by decide) (by decide)) fun T4 X4 e4 => ?_
  rw [show (own_has (6 : Int64) (1 : Int32)) = (1 : Int32) from (by decide)]
  refine pfN X4 hx (hd.at 26 rfl) ((if0 _ _).trans (feq (by decide)).1) ?_
  refine pA X4 hx (hd.at 46 rfl) rfl rfl ?_
  refine pF X4 hx hZ hown (wd hw 54 rfl) e4 BT.2.2.1 (hd.at 47 rfl) fun T5 X5 e5 => ?_
  refine pi X5 hx (hd.at 48 rfl) rfl ?_
  refine pg7 (own_lamCall (P := fun _ => True) X5 hx hZH (nm := "joinedError") (index := 78) (count := 2) hown (wd hw 129 rfl) (wd hw 130 rfl) (wd hw 131 rfl) (wd hw 46 rfl) LJ.facts (bytes := prog_72_method_25_code) (maxL := 3) (rm := ⟨6, 0, 0, 109⟩) (wd hw 134 rfl) (wd hw 132 rfl) (wd hw 133 rfl) (wd hw 7 rfl) e5 BT.2.2.2.2.2.2.2.2.2.2.2.2.1 B.1 (rmJE41 l Z a0 hw ed h0 u ct gd px nx fu fc fg nd B hU hN hD) rfl rfl rfl (by rw [hml]; rfl) rfl (W := 0) (by exact Nat.le_of_eq rfl) (hd.at 49 rfl) (by decide) (by decide) (by decide) (by decide)) fun rv6 T6 _ X6 e6 => ?_
  refine pt X6 hx #[.val (.ref t), .val (.int 0), .val (.int (-1)), .val (.double FP.dconst0), .second, .val (.int 4), .val (.int 1), .val (.double rv6), .second] (hd.at 50 rfl) rfl ?_
  refine pA X6 hx (hd.at 51 rfl) rfl rfl ?_
  refine pi X6 hx (hd.at 52 rfl) rfl ?_
  refine pd X6 hx (hd.at 53 rfl) rfl ?_
  refine pI X6 hx (hd.at 54 rfl) rfl ?_
  refine pD X6 hx (hd.at 55 rfl) rfl ?_
  refine pgP (own_private X6 hx hZ (y := yN25) (rm := ⟨2, 0, 0, 28⟩) (W := 0) (a := t) (argsL := [(.int 1), (.double rv6), (.int (-1)), (.double FP.dconst0)]) (rest := []) hown (wd hw 168 rfl) (wd hw 169 rfl) (wd hw 170 rfl) (wd hw 72 rfl) rfl (wd hw 42 rfl) (wd hw 171 rfl) (rmIBa l Z a0 hw t (1 : Int32) rv6 FP.dconst0 h0 (by decide)) e6 BT.1 rfl (by rw [hml]; rfl) (lenOf own_pd9 rfl) rfl (by exact Nat.le_of_eq rfl) (hd.at 56 rfl) (by decide) (by decide) (by decide) (by decide)) fun T7 X7 e7 => ?_
  refine pfN X7 hx (hd.at 57 rfl) ((if0 _ _).trans (feq (by decide)).1) ?_
  refine pi X7 hx (hd.at 58 rfl) rfl ?_
  refine pS X7 hx #[.val (.ref t), .val (.int 0), .val (.int 1), .val (.double FP.dconst0), .second, .val (.int 4), .val (.int 1), .val (.double rv6), .second] (hd.at 59 rfl) rfl ?_
  refine pd X7 hx (hd.at 60 rfl) rfl ?_
  refine pT X7 hx #[.val (.ref t), .val (.int 0), .val (.int 1), .val (.double rv6), .second, .val (.int 4), .val (.int 1), .val (.double rv6), .second] (hd.at 61 rfl) rfl ?_
  refine pN X7 hx (2 : Int32) #[.val (.ref t), .val (.int 0), .val (.int 1), .val (.double rv6), .second, .val (.int 4), .val (.int 2), .val (.double rv6), .second] (hd.at 27 rfl) rfl (by decide) rfl ?_
  refine pG X7 hx 29 (hd.at 28 rfl) ?_
  refine pi X7 hx (hd.at 20 rfl) rfl ?_
  refine pi X7 hx (hd.at 21 rfl) rfl ?_
  refine pcN X7 hx (hd.at 22 rfl) ((tlt (by decide)).2.1) ?_
  refine pA X7 hx (hd.at 23 rfl) rfl rfl ?_
  refine pi X7 hx (hd.at 24 rfl) rfl ?_
  refine pgP (own_virtual X7 hx hZ (y := yN6) (z := yN6) (rm := ⟨0, 0, 0, 0⟩) (W := 0) (a := t) (argsL := [(.int 2)]) (rest := []) hown (wd hw 74 rfl) (wd hw 75 rfl) (notFace_of_selects (args := #[]) (mvT hZ (wd hw 77 rfl))) (wd hw 77 rfl) (wd hw 76 rfl) (wd hw 42 rfl) (wd hw 78 rfl) (rmCo l Z a0 hw t (2 : Int32) h0 mm (6 : Int64) BT.2.2.2.2.2.1 BT.2.2.2.2.2.2.2.2.2.2.2.1 (by decide)) e7 BT.1 rfl (by rw [hml]; rfl) (lenOf own_pd3 rfl) rfl (by exact Nat.le_of_eq rfl) (hd.at 25 rfl) (by decide) (by decide) (by decide) (by decide)) fun T8 X8 e8 => ?_
  rw [show (own_has (6 : Int64) (2 : Int32)) = (1 : Int32) from (by decide)]
  refine pfN X8 hx (hd.at 26 rfl) ((if0 _ _).trans (feq (by decide)).1) ?_
  refine pA X8 hx (hd.at 46 rfl) rfl rfl ?_
  refine pF X8 hx hZ hown (wd hw 54 rfl) e8 BT.2.2.1 (hd.at 47 rfl) fun T9 X9 e9 => ?_
  refine pi X9 hx (hd.at 48 rfl) rfl ?_
  refine pg7 (own_lamCall (P := fun _ => True) X9 hx hZH (nm := "joinedError") (index := 78) (count := 2) hown (wd hw 129 rfl) (wd hw 130 rfl) (wd hw 131 rfl) (wd hw 46 rfl) LJ.facts (bytes := prog_72_method_25_code) (maxL := 3) (rm := ⟨6, 0, 0, 109⟩) (wd hw 134 rfl) (wd hw 132 rfl) (wd hw 133 rfl) (wd hw 7 rfl) e9 BT.2.2.2.2.2.2.2.2.2.2.2.2.1 B.1 (rmJE42 l Z a0 hw ed h0 u ct gd px nx fu fc fg nd B hU hN hD) rfl rfl rfl (by rw [hml]; rfl) rfl (W := 0) (by exact Nat.le_of_eq rfl) (hd.at 49 rfl) (by decide) (by decide) (by decide) (by decide)) fun rv10 T10 _ X10 e10 => ?_
  refine pt X10 hx #[.val (.ref t), .val (.int 0), .val (.int 1), .val (.double rv6), .second, .val (.int 4), .val (.int 2), .val (.double rv10), .second] (hd.at 50 rfl) rfl ?_
  refine pA X10 hx (hd.at 51 rfl) rfl rfl ?_
  refine pi X10 hx (hd.at 52 rfl) rfl ?_
  refine pd X10 hx (hd.at 53 rfl) rfl ?_
  refine pI X10 hx (hd.at 54 rfl) rfl ?_
  refine pD X10 hx (hd.at 55 rfl) rfl ?_
  refine pgF (own_private X10 hx hZ (y := yN25) (rm := ⟨2, 0, 0, 28⟩) (W := 0) (a := t) (argsL := [(.int 2), (.double rv10), (.int 1), (.double rv6)]) (rest := []) hown (wd hw 168 rfl) (wd hw 169 rfl) (wd hw 170 rfl) (wd hw 72 rfl) rfl (wd hw 42 rfl) (wd hw 171 rfl) (rmIBb l Z a0 hw t rv10 rv6 h0 ed u ct gd px nx fu fc fg nd own_p4 own_n4 k2 B BT.2.1 BT.2.2.2.1 BT.2.2.2.2.2.2.2.2.2.2.2.2.2.1) e10 BT.1 rfl (by rw [hml]; rfl) (lenOf own_pd9 rfl) rfl (by exact Nat.le_of_eq rfl) (hd.at 56 rfl) (by decide) (by decide) (by decide) (by decide)) fun rv11 T12 X12 e12 => ?_
  by_cases c2 : rv11 = (0 : Int32)
  · refine pfY X12 hx 77 (hd.at 57 rfl) ((if0 _ _).trans (teq c2).1) ?_
    refine pN X12 hx (3 : Int32) #[.val (.ref t), .val (.int 0), .val (.int 1), .val (.double rv6), .second, .val (.int 4), .val (.int 3), .val (.double rv10), .second] (hd.at 27 rfl) rfl (by decide) rfl ?_
    refine pG X12 hx 29 (hd.at 28 rfl) ?_
    refine pi X12 hx (hd.at 20 rfl) rfl ?_
    refine pi X12 hx (hd.at 21 rfl) rfl ?_
    refine pcN X12 hx (hd.at 22 rfl) ((tlt (by decide)).2.1) ?_
    refine pA X12 hx (hd.at 23 rfl) rfl rfl ?_
    refine pi X12 hx (hd.at 24 rfl) rfl ?_
    refine pgP (own_virtual X12 hx hZ (y := yN6) (z := yN6) (rm := ⟨0, 0, 0, 0⟩) (W := 0) (a := t) (argsL := [(.int 3)]) (rest := []) hown (wd hw 74 rfl) (wd hw 75 rfl) (notFace_of_selects (args := #[]) (mvT hZ (wd hw 77 rfl))) (wd hw 77 rfl) (wd hw 76 rfl) (wd hw 42 rfl) (wd hw 78 rfl) (rmCo l Z a0 hw t (3 : Int32) h0 mm (6 : Int64) BT.2.2.2.2.2.1 BT.2.2.2.2.2.2.2.2.2.2.2.1 (by decide)) e12 BT.1 rfl (by rw [hml]; rfl) (lenOf own_pd3 rfl) rfl (by exact Nat.le_of_eq rfl) (hd.at 25 rfl) (by decide) (by decide) (by decide) (by decide)) fun T13 X13 e13 => ?_
    rw [show (own_has (6 : Int64) (3 : Int32)) = (0 : Int32) from (by decide)]
    refine pfY X13 hx 77 (hd.at 26 rfl) ((if0 _ _).trans (teq rfl).1) ?_
    refine pN X13 hx (4 : Int32) #[.val (.ref t), .val (.int 0), .val (.int 1), .val (.double rv6), .second, .val (.int 4), .val (.int 4), .val (.double rv10), .second] (hd.at 27 rfl) rfl (by decide) rfl ?_
    refine pG X13 hx 29 (hd.at 28 rfl) ?_
    refine pi X13 hx (hd.at 20 rfl) rfl ?_
    refine pi X13 hx (hd.at 21 rfl) rfl ?_
    refine pcY X13 hx 83 (hd.at 22 rfl) ((flt (by decide)).2.1) ?_
    refine pA X13 hx (hd.at 29 rfl) rfl rfl ?_
    refine pF X13 hx hZ hown (wd hw 90 rfl) e13 BT.2.2.2.2.2.2.2.2.2.1 (hd.at 30 rfl) fun T14 X14 e14 => ?_
    refine pA X14 hx (hd.at 31 rfl) rfl rfl ?_
    refine pF X14 hx hZ hown (wd hw 88 rfl) e14 BT.2.2.2.2.2.2.2.2.1 (hd.at 32 rfl) fun T15 X15 e15 => ?_
    have f16 : OTS Z h0 t mm fa fk k1 k2 ed (6 : Int64) sz pl := ⟨BT.1, BT.2.1, BT.2.2.1, BT.2.2.2.1, BT.2.2.2.2.1, BT.2.2.2.2.2.1, BT.2.2.2.2.2.2.1, BT.2.2.2.2.2.2.2.1, BT.2.2.2.2.2.2.2.2.1, BT.2.2.2.2.2.2.2.2.2.1, BT.2.2.2.2.2.2.2.2.2.2.1, BT.2.2.2.2.2.2.2.2.2.2.2.1, BT.2.2.2.2.2.2.2.2.2.2.2.2.1, BT.2.2.2.2.2.2.2.2.2.2.2.2.2.1⟩
    have f17 := BT.2.2.2.2.2.2.2.2.2.2.2.2.2.2.1
    have f18 := BT.2.2.2.2.2.2.2.2.2.2.2.2.2.2.2
    refine pI X15 hx (hd.at 33 rfl) rfl ?_
    refine o_iadd X15 hx (hd.at 34 rfl) ?_
    rw [show (((1 : Int32) + (0 : Int32))) = (1 : Int32) from by decide]
    refine pI X15 hx (hd.at 35 rfl) rfl ?_
    refine wI X15 hx hZ e15 f17 1 (hd.at 36 rfl) fun T19 h19 X19 e19 W19 V19 => ?_
    have f20 : OArr Z h19 fa .int 2 (fun i => .int ((own_q2 r0 (1 : Int32)) i)) := V19.congr (own_lt2 rfl rfl)
    have n21 := hS.ne 2 3
    have n22 := Ne.symm n21
    replace f18 := f18.other W19 n22
    have n23 := hS.ne 0 2
    have n24 := hS.ne 1 2
    have n25 := hS.ne 2 4
    have n26 := Ne.symm n25
    have n27 := hS.ne 2 5
    have n28 := Ne.symm n27
    replace f16 := f16.keep (Keep.of_wr W19) (ninS n23 nin0) (ninS n24 nin0) (ninS n26 nin0) (ninS n28 nin0)
    have fr19 := Fr.snoc X19 N0 (hS.ge 2 rfl)
    have kp19 := kp0.wr W19 (Or.inl (List.mem_of_getElem? (i := 0) rfl))
    refine pA X19 hx (hd.at 37 rfl) rfl rfl ?_
    refine pF X19 hx hZ hown (wd hw 92 rfl) e19 f16.2.2.2.2.2.2.2.2.2.2.1 (hd.at 38 rfl) fun T29 X29 e29 => ?_
    refine pA X29 hx (hd.at 39 rfl) rfl rfl ?_
    refine pF X29 hx hZ hown (wd hw 88 rfl) e29 f16.2.2.2.2.2.2.2.2.1 (hd.at 40 rfl) fun T30 X30 e30 => ?_
    refine pI X30 hx (hd.at 41 rfl) rfl ?_
    refine o_iadd X30 hx (hd.at 42 rfl) ?_
    rw [show (((1 : Int32) + (0 : Int32))) = (1 : Int32) from by decide]
    refine pD X30 hx (hd.at 43 rfl) rfl ?_
    refine wD X30 hx hZ e30 f18 1 (hd.at 44 rfl) fun T31 h31 X31 e31 W31 V31 => ?_
    have f32 : OArr Z h31 fk .double 2 (fun i => .double ((own_q2 d0 rv6) i)) := V31.congr (own_lt2 rfl rfl)
    replace f20 := f20.other W31 n21
    have n33 := hS.ne 0 3
    have n34 := hS.ne 1 3
    have n35 := hS.ne 3 4
    have n36 := Ne.symm n35
    have n37 := hS.ne 3 5
    have n38 := Ne.symm n37
    replace f16 := f16.keep (Keep.of_wr W31) (ninS n33 nin0) (ninS n34 nin0) (ninS n36 nin0) (ninS n38 nin0)
    have fr31 := Fr.snoc X31 fr19 (hS.ge 3 rfl)
    have kp31 := kp19.wr W31 (Or.inl (List.mem_of_getElem? (i := 1) rfl))
    exact own_retV X31 hx hret hlk (hd.at 45 rfl) (by decide) (by decide) (by show _ ∧ _ ∧ Keep h0 T31.heap _ ∧ _; rw [e31]; exact ⟨rfl, fr31, kp31, (1 : Int32), rv6, trivial, f16.1, f16.2.1, f16.2.2.1, f16.2.2.2.1, f16.2.2.2.2.1, f16.2.2.2.2.2.1, f16.2.2.2.2.2.2.1, f16.2.2.2.2.2.2.2.1, f16.2.2.2.2.2.2.2.2.1, f16.2.2.2.2.2.2.2.2.2.1, f16.2.2.2.2.2.2.2.2.2.2.1, f16.2.2.2.2.2.2.2.2.2.2.2.1, f16.2.2.2.2.2.2.2.2.2.2.2.2.1, f16.2.2.2.2.2.2.2.2.2.2.2.2.2, f20, f32⟩)
  · refine pfN X12 hx (hd.at 57 rfl) ((if0 _ _).trans (feq c2).1) ?_
    refine pi X12 hx (hd.at 58 rfl) rfl ?_
    refine pS X12 hx #[.val (.ref t), .val (.int 0), .val (.int 2), .val (.double rv6), .second, .val (.int 4), .val (.int 2), .val (.double rv10), .second] (hd.at 59 rfl) rfl ?_
    refine pd X12 hx (hd.at 60 rfl) rfl ?_
    refine pT X12 hx #[.val (.ref t), .val (.int 0), .val (.int 2), .val (.double rv10), .second, .val (.int 4), .val (.int 2), .val (.double rv10), .second] (hd.at 61 rfl) rfl ?_
    refine pN X12 hx (3 : Int32) #[.val (.ref t), .val (.int 0), .val (.int 2), .val (.double rv10), .second, .val (.int 4), .val (.int 3), .val (.double rv10), .second] (hd.at 27 rfl) rfl (by decide) rfl ?_
    refine pG X12 hx 29 (hd.at 28 rfl) ?_
    refine pi X12 hx (hd.at 20 rfl) rfl ?_
    refine pi X12 hx (hd.at 21 rfl) rfl ?_
    refine pcN X12 hx (hd.at 22 rfl) ((tlt (by decide)).2.1) ?_
    refine pA X12 hx (hd.at 23 rfl) rfl rfl ?_
    refine pi X12 hx (hd.at 24 rfl) rfl ?_
    refine pgP (own_virtual X12 hx hZ (y := yN6) (z := yN6) (rm := ⟨0, 0, 0, 0⟩) (W := 0) (a := t) (argsL := [(.int 3)]) (rest := []) hown (wd hw 74 rfl) (wd hw 75 rfl) (notFace_of_selects (args := #[]) (mvT hZ (wd hw 77 rfl))) (wd hw 77 rfl) (wd hw 76 rfl) (wd hw 42 rfl) (wd hw 78 rfl) (rmCo l Z a0 hw t (3 : Int32) h0 mm (6 : Int64) BT.2.2.2.2.2.1 BT.2.2.2.2.2.2.2.2.2.2.2.1 (by decide)) e12 BT.1 rfl (by rw [hml]; rfl) (lenOf own_pd3 rfl) rfl (by exact Nat.le_of_eq rfl) (hd.at 25 rfl) (by decide) (by decide) (by decide) (by decide)) fun T39 X39 e39 => ?_
    rw [show (own_has (6 : Int64) (3 : Int32)) = (0 : Int32) from (by decide)]
    refine pfY X39 hx 77 (hd.at 26 rfl) ((if0 _ _).trans (teq rfl).1) ?_
    refine pN X39 hx (4 : Int32) #[.val (.ref t), .val (.int 0), .val (.int 2), .val (.double rv10), .second, .val (.int 4), .val (.int 4), .val (.double rv10), .second] (hd.at 27 rfl) rfl (by decide) rfl ?_
    refine pG X39 hx 29 (hd.at 28 rfl) ?_
    refine pi X39 hx (hd.at 20 rfl) rfl ?_
    refine pi X39 hx (hd.at 21 rfl) rfl ?_
    refine pcY X39 hx 83 (hd.at 22 rfl) ((flt (by decide)).2.1) ?_
    refine pA X39 hx (hd.at 29 rfl) rfl rfl ?_
    refine pF X39 hx hZ hown (wd hw 90 rfl) e39 BT.2.2.2.2.2.2.2.2.2.1 (hd.at 30 rfl) fun T40 X40 e40 => ?_
    refine pA X40 hx (hd.at 31 rfl) rfl rfl ?_
    refine pF X40 hx hZ hown (wd hw 88 rfl) e40 BT.2.2.2.2.2.2.2.2.1 (hd.at 32 rfl) fun T41 X41 e41 => ?_
    have f42 : OTS Z h0 t mm fa fk k1 k2 ed (6 : Int64) sz pl := ⟨BT.1, BT.2.1, BT.2.2.1, BT.2.2.2.1, BT.2.2.2.2.1, BT.2.2.2.2.2.1, BT.2.2.2.2.2.2.1, BT.2.2.2.2.2.2.2.1, BT.2.2.2.2.2.2.2.2.1, BT.2.2.2.2.2.2.2.2.2.1, BT.2.2.2.2.2.2.2.2.2.2.1, BT.2.2.2.2.2.2.2.2.2.2.2.1, BT.2.2.2.2.2.2.2.2.2.2.2.2.1, BT.2.2.2.2.2.2.2.2.2.2.2.2.2.1⟩
    have f43 := BT.2.2.2.2.2.2.2.2.2.2.2.2.2.2.1
    have f44 := BT.2.2.2.2.2.2.2.2.2.2.2.2.2.2.2
    refine pI X41 hx (hd.at 33 rfl) rfl ?_
    refine o_iadd X41 hx (hd.at 34 rfl) ?_
    rw [show (((1 : Int32) + (0 : Int32))) = (1 : Int32) from by decide]
    refine pI X41 hx (hd.at 35 rfl) rfl ?_
    refine wI X41 hx hZ e41 f43 1 (hd.at 36 rfl) fun T45 h45 X45 e45 W45 V45 => ?_
    have f46 : OArr Z h45 fa .int 2 (fun i => .int ((own_q2 r0 (2 : Int32)) i)) := V45.congr (own_lt2 rfl rfl)
    have n47 := hS.ne 2 3
    have n48 := Ne.symm n47
    replace f44 := f44.other W45 n48
    have n49 := hS.ne 0 2
    have n50 := hS.ne 1 2
    have n51 := hS.ne 2 4
    have n52 := Ne.symm n51
    have n53 := hS.ne 2 5
    have n54 := Ne.symm n53
    replace f42 := f42.keep (Keep.of_wr W45) (ninS n49 nin0) (ninS n50 nin0) (ninS n52 nin0) (ninS n54 nin0)
    have fr45 := Fr.snoc X45 N0 (hS.ge 2 rfl)
    have kp45 := kp0.wr W45 (Or.inl (List.mem_of_getElem? (i := 0) rfl))
    refine pA X45 hx (hd.at 37 rfl) rfl rfl ?_
    refine pF X45 hx hZ hown (wd hw 92 rfl) e45 f42.2.2.2.2.2.2.2.2.2.2.1 (hd.at 38 rfl) fun T55 X55 e55 => ?_
    refine pA X55 hx (hd.at 39 rfl) rfl rfl ?_
    refine pF X55 hx hZ hown (wd hw 88 rfl) e55 f42.2.2.2.2.2.2.2.2.1 (hd.at 40 rfl) fun T56 X56 e56 => ?_
    refine pI X56 hx (hd.at 41 rfl) rfl ?_
    refine o_iadd X56 hx (hd.at 42 rfl) ?_
    rw [show (((1 : Int32) + (0 : Int32))) = (1 : Int32) from by decide]
    refine pD X56 hx (hd.at 43 rfl) rfl ?_
    refine wD X56 hx hZ e56 f44 1 (hd.at 44 rfl) fun T57 h57 X57 e57 W57 V57 => ?_
    have f58 : OArr Z h57 fk .double 2 (fun i => .double ((own_q2 d0 rv10) i)) := V57.congr (own_lt2 rfl rfl)
    replace f46 := f46.other W57 n47
    have n59 := hS.ne 0 3
    have n60 := hS.ne 1 3
    have n61 := hS.ne 3 4
    have n62 := Ne.symm n61
    have n63 := hS.ne 3 5
    have n64 := Ne.symm n63
    replace f42 := f42.keep (Keep.of_wr W57) (ninS n59 nin0) (ninS n60 nin0) (ninS n62 nin0) (ninS n64 nin0)
    have fr57 := Fr.snoc X57 fr45 (hS.ge 3 rfl)
    have kp57 := kp45.wr W57 (Or.inl (List.mem_of_getElem? (i := 1) rfl))
    exact own_retV X57 hx hret hlk (hd.at 45 rfl) (by decide) (by decide) (by show _ ∧ _ ∧ Keep h0 T57.heap _ ∧ _; rw [e57]; exact ⟨rfl, fr57, kp57, (2 : Int32), rv10, trivial, f42.1, f42.2.1, f42.2.2.1, f42.2.2.2.1, f42.2.2.2.2.1, f42.2.2.2.2.2.1, f42.2.2.2.2.2.2.1, f42.2.2.2.2.2.2.2.1, f42.2.2.2.2.2.2.2.2.1, f42.2.2.2.2.2.2.2.2.2.1, f42.2.2.2.2.2.2.2.2.2.2.1, f42.2.2.2.2.2.2.2.2.2.2.2.1, f42.2.2.2.2.2.2.2.2.2.2.2.2.1, f42.2.2.2.2.2.2.2.2.2.2.2.2.2, f46, f58⟩)
set_option maxRecDepth 65536 in
set_option maxHeartbeats 40000000 in
theorem rmFi (l : Launch) (Z : State) (a0 : Array Value) (hw : ∀ d ∈ tables_1, d.before a0 Z = true) (t : Addr) (h0 : Heap) (mm fa fk k1 k2 ed : Addr) (M : Int64) (sz pl r0 r : Int32) (d0 d : UInt64) (BT : OTP Z h0 t mm fa fk k1 k2 ed M sz pl r0 r d0 d) :
    OMet l Z yN27 prog_86_method_4_code 1 (some .int) (⟨0, 0, 0, 0⟩ : Room) #[(.ref t)] h0 (fun v h L => v = some (.int r) ∧ h = h0 ∧ L = []) := by
  refine own_enter own_pn27 ?_
  intro p e s m below meth c T0 X0 hC e0 hnamed
  have hC0 := hC
  obtain ⟨hx, hZH, hby, hml, hown, hret, hlk, hnm⟩ := hC
  have hZ := hZH.wide
  have hown : s.vm.findClass "com/example/rankfold/rankfold/summaries/Tournament" = some m.cls := hown
  refine own_at (own_ef27_R m t) ?_
  have hd := D27.to hby
  obtain ⟨u1, u2, u3, u4, u5, u6, u7, u8, u9, u10, u11, u12, u13, u14, u15, u16⟩ := id BT
  refine pA X0 hx (hd.at 0 rfl) rfl rfl ?_
  refine pF X0 hx hZ hown (wd hw 90 rfl) e0 u10 (hd.at 1 rfl) fun T17 X17 e17 => ?_
  refine pC X17 hx 1 (hd.at 2 rfl) rfl ?_
  refine rI X17 hx hZ e17 u15 1 (.int r) rfl (hd.at 3 rfl) ?_
  exact own_ret X17 hx (t := .int) hret hlk rfl (Or.inl ⟨rfl, by simp, _, rfl⟩) (hd.at 4 rfl) (by decide) (by decide) ⟨rfl, e17, rfl⟩
set_option maxRecDepth 65536 in
set_option maxHeartbeats 40000000 in
theorem rmUp (l : Launch) (Z : State) (a0 : Array Value) (hw : ∀ d ∈ tables_1, d.before a0 Z = true) (t : Addr) (h0 : Heap) (n0 : Nat) (mm fa fk k1 k2 ed : Addr) (sz r0 : Int32) (d0 d : UInt64) (BT : OTP Z h0 t mm fa fk k1 k2 ed 0 sz 1 r0 1 d0 d) (hS : OOrd n0 [t, mm, fa, fk, k1, k2]) :
    OMet l Z yN29 prog_86_method_10_code 6 none (⟨9, 0, 0, 156⟩ : Room) #[(.ref t), (.int 1)] h0 (fun v h L => v = none ∧ Fr n0 L ∧ Keep h0 h [fa, fk] ∧ ∃ d', OTP Z h t mm fa fk k1 k2 ed 0 sz 1 r0 (-1) d0 d') := by
  refine own_enter own_pn29 ?_
  intro p e s m below meth c T0 X0 hC e0 hnamed
  have hC0 := hC
  obtain ⟨hx, hZH, hby, hml, hown, hret, hlk, hnm⟩ := hC
  have hZ := hZH.wide
  have hown : s.vm.findClass "com/example/rankfold/rankfold/summaries/Tournament" = some m.cls := hown
  refine own_at (own_ef29_RI m t (1 : Int32)) ?_
  have hd := D29.to hby
  have N0 := Fr.nil n0
  have kp0 := Keep.refl h0 [fa, fk]
  obtain ⟨u1, u2, u3, u4, u5, u6, u7, u8, u9, u10, u11, u12, u13, u14, u15, u16⟩ := id BT
  refine pA X0 hx (hd.at 0 rfl) rfl rfl ?_
  refine pF X0 hx hZ hown (wd hw 88 rfl) e0 u9 (hd.at 1 rfl) fun T17 X17 e17 => ?_
  refine pI X17 hx (hd.at 2 rfl) rfl ?_
  refine pB X17 hx 16 (hd.at 3 rfl) rfl ?_
  refine o_idiv X17 hx (hd.at 4 rfl) (by decide) ?_
  rw [show (((1 : Int32) / (16 : Int32))) = (0 : Int32) from by decide]
  refine o_iadd X17 hx (hd.at 5 rfl) ?_
  rw [show (((1 : Int32) + (0 : Int32))) = (1 : Int32) from by decide]
  refine pS X17 hx #[.val (.ref t), .val (.int 1), .val (.int 1), .unset, .unset, .unset] (hd.at 6 rfl) rfl ?_
  refine pA X17 hx (hd.at 7 rfl) rfl rfl ?_
  refine pF X17 hx hZ hown (wd hw 90 rfl) e17 u10 (hd.at 8 rfl) fun T18 X18 e18 => ?_
  refine pI X18 hx (hd.at 9 rfl) rfl ?_
  refine rI X18 hx hZ e18 u15 1 (.int 1) rfl (hd.at 10 rfl) ?_
  refine pI X18 hx (hd.at 11 rfl) rfl ?_
  refine pcN X18 hx (hd.at 12 rfl) ((teq rfl).2) ?_
  refine pA X18 hx (hd.at 13 rfl) rfl rfl ?_
  refine pI X18 hx (hd.at 14 rfl) rfl ?_
  refine pB X18 hx 16 (hd.at 15 rfl) rfl ?_
  refine o_idiv X18 hx (hd.at 16 rfl) (by decide) ?_
  rw [show (((1 : Int32) / (16 : Int32))) = (0 : Int32) from by decide]
  refine pgV (own_private X18 hx hZ (y := yN9) (rm := ⟨8, 0, 0, 136⟩) (W := 0) (a := t) (argsL := [(.int 0)]) (rest := []) hown (wd hw 94 rfl) (wd hw 95 rfl) (wd hw 96 rfl) (wd hw 72 rfl) rfl (wd hw 42 rfl) (wd hw 97 rfl) (rmSc00 l Z a0 hw t h0 n0 mm fa fk k1 k2 ed sz 1 r0 1 d0 d BT hS) e18 u1 rfl (by rw [hml]; rfl) (lenOf own_pd10 rfl) rfl (by exact Nat.le_of_eq rfl) (hd.at 17 rfl) (by decide) (by decide) (by decide) (by decide)) fun T19 L19 X19 hQ19 => ?_
  obtain ⟨N19, K19, r', d', hr, BT'⟩ := hQ19
  have fr19 := Fr.app N0 N19
  have kp19 := kp0.trans K19 (allS (Or.inl (List.mem_of_getElem? (i := 0) rfl)) (allS (Or.inl (List.mem_of_getElem? (i := 1) rfl)) all0))
  replace u1 := u1.keep K19
  subst hr
  refine pG X19 hx 90 (hd.at 18 rfl) ?_
  refine pI X19 hx (hd.at 19 rfl) rfl ?_
  refine pC X19 hx 2 (hd.at 20 rfl) rfl ?_
  refine o_idiv X19 hx (hd.at 21 rfl) (by decide) ?_
  rw [show (((1 : Int32) / (2 : Int32))) = (0 : Int32) from by decide]
  refine pS X19 hx #[.val (.ref t), .val (.int 1), .val (.int 0), .unset, .unset, .unset] (hd.at 22 rfl) rfl ?_
  refine pI X19 hx (hd.at 23 rfl) rfl ?_
  refine pfY X19 hx 156 (hd.at 24 rfl) ((if0 _ _).trans (flt (by decide)).2.2.2) ?_
  exact own_retV X19 hx hret hlk (hd.at 25 rfl) (by decide) (by decide) (by show _ ∧ _ ∧ Keep h0 T19.heap _ ∧ _; exact ⟨rfl, fr19, kp19, _, BT'⟩)
set_option maxRecDepth 65536 in
set_option maxHeartbeats 40000000 in
theorem rmRe1 (l : Launch) (Z : State) (a0 : Array Value) (hw : ∀ d ∈ tables_1, d.before a0 Z = true) (t : Addr) (h0 : Heap) (n0 : Nat) (mm fa fk k1 k2 ed : Addr) (sz r0 : Int32) (d0 d : UInt64) (BT : OTP Z h0 t mm fa fk k1 k2 ed 2 sz 1 r0 1 d0 d) (hS : OOrd n0 [t, mm, fa, fk, k1, k2]) :
    OMet l Z yN5 prog_86_method_6_code 2 none (⟨10, 0, 0, 173⟩ : Room) #[(.ref t), (.int 1)] h0 (fun v h L => v = none ∧ Fr n0 L ∧ Keep h0 h [t, mm, fa, fk] ∧ ∃ d', OTP Z h t mm fa fk k1 k2 ed 0 (sz - 1) 1 r0 (-1) d0 d') := by
  refine own_enter own_pn5 ?_
  intro p e s m below meth c T0 X0 hC e0 hnamed
  have hC0 := hC
  obtain ⟨hx, hZH, hby, hml, hown, hret, hlk, hnm⟩ := hC
  have hZ := hZH.wide
  have hown : s.vm.findClass "com/example/rankfold/rankfold/summaries/Tournament" = some m.cls := hown
  refine own_at (own_ef5_RI m t (1 : Int32)) ?_
  have hd := D5.to hby
  have N0 := Fr.nil n0
  have kp0 := Keep.refl h0 [t, mm, fa, fk]
  obtain ⟨u1, u2, u3, u4, u5, u6, u7, u8, u9, u10, u11, u12, u13, u14, u15, u16⟩ := id BT
  refine pA X0 hx (hd.at 0 rfl) rfl rfl ?_
  refine pI X0 hx (hd.at 1 rfl) rfl ?_
  refine pgP (own_virtual X0 hx hZ (y := yN6) (z := yN6) (rm := ⟨0, 0, 0, 0⟩) (W := 0) (a := t) (argsL := [(.int 1)]) (rest := []) hown (wd hw 74 rfl) (wd hw 75 rfl) (notFace_of_selects (args := #[]) (mvT hZ (wd hw 77 rfl))) (wd hw 77 rfl) (wd hw 76 rfl) (wd hw 42 rfl) (wd hw 78 rfl) (rmCo l Z a0 hw t (1 : Int32) h0 mm (2 : Int64) u6 u12 (by decide)) e0 u1 rfl (by rw [hml]; rfl) (lenOf own_pd3 rfl) rfl (by exact Nat.le_of_eq rfl) (hd.at 2 rfl) (by decide) (by decide) (by decide) (by decide)) fun T17 X17 e17 => ?_
  rw [show (own_has (2 : Int64) (1 : Int32)) = (1 : Int32) from (by decide)]
  refine pfN X17 hx (hd.at 3 rfl) ((if0 _ _).trans (feq (by decide)).1) ?_
  refine pA X17 hx (hd.at 5 rfl) rfl rfl ?_
  refine pF X17 hx hZ hown (wd hw 61 rfl) e17 u6 (hd.at 6 rfl) fun T18 X18 e18 => ?_
  refine pI X18 hx (hd.at 7 rfl) rfl ?_
  refine pB X18 hx 64 (hd.at 8 rfl) rfl ?_
  refine o_idiv X18 hx (hd.at 9 rfl) (by decide) ?_
  rw [show ((1 : Int32) / (64 : Int32)) = (0 : Int32) from by decide]
  refine pR (fun _ kS => XT.dup2 X18.here hx rfl (hd.at 10 rfl) rfl rfl rfl kS) ?_
  refine rJ X18 hx hZ e18 u12 0 (.long 2) rfl (hd.at 11 rfl) ?_
  refine own_st (fun _ kS => XS.lconst X18.here hx rfl (hd.at 12 rfl) kS) ?_
  show OFin p e below s _ _ _ (T18.setTop (mkF m 19 #[.val (.ref t), .val (.int 1)] [(.long 1), (.long 2), (.int 0), (.ref mm)]))
  refine pI X18 hx (hd.at 13 rfl) rfl ?_
  refine pR (fun _ kS => XS.lshl X18.here hx rfl (hd.at 14 rfl) rfl kS) ?_
  refine pL (X18.ldc2Long hx hown (mvT hZ (wd hw 192 rfl)) rfl (hd.at 15 rfl)) ?_
  refine pR (fun _ kS => XS.lxor X18.here hx rfl (hd.at 16 rfl) rfl kS) ?_
  refine pR (fun _ kS => XS.land X18.here hx rfl (hd.at 17 rfl) rfl kS) ?_
  rw [show (((2 : Int64) &&& (((1 : Int64) <<< ((1 : Int32) &&& 0x3f).toInt64) ^^^ (-1 : Int64)))) = (0 : Int64) from by decide]
  refine wJ X18 hx hZ e18 u12 0 (hd.at 18 rfl) fun T19 h19 X19 e19 W19 V19 => ?_
  have f20 : OArr Z h19 mm .long 1 (fun i => .long ((own_q1 (0 : Int64)) i)) := V19.congr (own_lt1 rfl)
  replace u1 := u1.wr W19
  have n21 := hS.ne 0 1
  replace u2 := u2.other W19 (Or.inl n21)
  replace u3 := u3.other W19 (Or.inl n21)
  replace u4 := u4.other W19 (Or.inl n21)
  replace u5 := u5.other W19 (Or.inl n21)
  replace u6 := u6.other W19 (Or.inl n21)
  replace u7 := u7.other W19 (Or.inl n21)
  replace u8 := u8.other W19 (Or.inl n21)
  replace u9 := u9.other W19 (Or.inl n21)
  replace u10 := u10.other W19 (Or.inl n21)
  replace u11 := u11.other W19 (Or.inl n21)
  have n22 := hS.ne 1 4
  have n23 := Ne.symm n22
  replace u13 := u13.other W19 n23
  have n24 := hS.ne 1 5
  have n25 := Ne.symm n24
  replace u14 := u14.other W19 n25
  have n26 := hS.ne 1 2
  have n27 := Ne.symm n26
  replace u15 := u15.other W19 n27
  have n28 := hS.ne 1 3
  have n29 := Ne.symm n28
  replace u16 := u16.other W19 n29
  have fr19 := Fr.snoc X19 N0 (hS.ge 1 rfl)
  have kp19 := kp0.wr W19 (Or.inl (List.mem_of_getElem? (i := 1) rfl))
  refine pA X19 hx (hd.at 19 rfl) rfl rfl ?_
  refine o_dup X19 hx (hd.at 20 rfl) rfl ?_
  refine pF X19 hx hZ hown (wd hw 127 rfl) e19 u7 (hd.at 21 rfl) fun T30 X30 e30 => ?_
  refine pC X30 hx 1 (hd.at 22 rfl) rfl ?_
  refine o_isub X30 hx (hd.at 23 rfl) ?_
  refine pg2 (putF X30 hx hZ hown (host := "") (Or.inl (wd hw 127 rfl)) Via.refl e30 u7 u1 (Or.inl (wd hw 128 rfl)) (wd hw 41 rfl) (ty := .int) (by decide) rfl rfl rfl rfl (hd.at 24 rfl)) fun T31 h31 X31 e31 W31 => ?_
  have f32 := u7.same W31
  replace u1 := u1.wr W31
  replace u2 := u2.other W31 (Or.inr (sl (Or.inr (wd hw 53 rfl)) (Or.inl (wd hw 128 rfl))))
  replace u3 := u3.other W31 (Or.inr (sl (Or.inr (wd hw 55 rfl)) (Or.inl (wd hw 128 rfl))))
  replace u4 := u4.other W31 (Or.inr (sl (Or.inr (wd hw 57 rfl)) (Or.inl (wd hw 128 rfl))))
  replace u5 := u5.other W31 (Or.inr (sl (Or.inl (wd hw 59 rfl)) (Or.inl (wd hw 128 rfl))))
  replace u6 := u6.other W31 (Or.inr (sl (Or.inl (wd hw 62 rfl)) (Or.inl (wd hw 128 rfl))))
  replace u8 := u8.other W31 (Or.inr (sl (Or.inl (wd hw 103 rfl)) (Or.inl (wd hw 128 rfl))))
  replace u9 := u9.other W31 (Or.inr (sl (Or.inl (wd hw 89 rfl)) (Or.inl (wd hw 128 rfl))))
  replace u10 := u10.other W31 (Or.inr (sl (Or.inl (wd hw 91 rfl)) (Or.inl (wd hw 128 rfl))))
  replace u11 := u11.other W31 (Or.inr (sl (Or.inl (wd hw 93 rfl)) (Or.inl (wd hw 128 rfl))))
  have n33 := Ne.symm n21
  replace f20 := f20.other W31 n33
  have n34 := hS.ne 0 4
  have n35 := Ne.symm n34
  replace u13 := u13.other W31 n35
  have n36 := hS.ne 0 5
  have n37 := Ne.symm n36
  replace u14 := u14.other W31 n37
  have n38 := hS.ne 0 2
  have n39 := Ne.symm n38
  replace u15 := u15.other W31 n39
  have n40 := hS.ne 0 3
  have n41 := Ne.symm n40
  replace u16 := u16.other W31 n41
  have fr31 := Fr.snoc X31 fr19 (hS.ge 0 rfl)
  have kp31 := kp19.wr W31 (Or.inl (List.mem_of_getElem? (i := 0) rfl))
  refine pA X31 hx (hd.at 25 rfl) rfl rfl ?_
  refine pF X31 hx hZ hown (wd hw 102 rfl) e31 u8 (hd.at 26 rfl) fun T42 X42 e42 => ?_
  refine pfN X42 hx (hd.at 27 rfl) ((if0 _ _).trans (feq (by decide)).1) ?_
  refine pA X42 hx (hd.at 28 rfl) rfl rfl ?_
  refine pI X42 hx (hd.at 29 rfl) rfl ?_
  have f43 : OTP Z h31 t mm fa fk k1 k2 ed (0 : Int64) (sz - (1 : Int32)) (1 : Int32) r0 (1 : Int32) d0 d := ⟨u1, u2, u3, u4, u5, u6, f32, u8, u9, u10, u11, f20, u13, u14, u15, u16⟩
  refine pgV (own_private X42 hx hZ (y := yN29) (rm := ⟨9, 0, 0, 156⟩) (W := 0) (a := t) (argsL := [(.int 1)]) (rest := []) hown (wd hw 193 rfl) (wd hw 194 rfl) (wd hw 195 rfl) (wd hw 72 rfl) rfl (wd hw 42 rfl) (wd hw 196 rfl) (rmUp l Z a0 hw t h31 n0 mm fa fk k1 k2 ed (sz - 1) r0 d0 d f43 hS) e42 u1 rfl (by rw [hml]; rfl) (lenOf own_pd10 rfl) rfl (by exact Nat.le_of_eq rfl) (hd.at 30 rfl) (by decide) (by decide) (by decide) (by decide)) fun T44 L44 X44 hQ44 => ?_
  obtain ⟨N44, K44, d', BT'⟩ := hQ44
  have fr44 := Fr.app fr31 N44
  have kp44 := kp31.trans K44 (allS (Or.inl (List.mem_of_getElem? (i := 2) rfl)) (allS (Or.inl (List.mem_of_getElem? (i := 3) rfl)) all0))
  replace u1 := u1.keep K44
  exact own_retV X44 hx hret hlk (hd.at 4 rfl) (by decide) (by decide) (by show _ ∧ _ ∧ Keep h0 T44.heap _ ∧ _; exact ⟨rfl, fr44, kp44, _, BT'⟩)
set_option maxRecDepth 65536 in
set_option maxHeartbeats 40000000 in
theorem rmPl (l : Launch) (Z : State) (a0 : Array Value) (hw : ∀ d ∈ tables_1, d.before a0 Z = true) (t : Addr) (h0 : Heap) (n0 : Nat) (mm k1 k2 ed : Addr) (sz : Int32) (M : Int64) (RR : Int32 → Prop) (Z0 : n0 ≤ h0.size) (BT : OT0 Z h0 t mm k1 k2 ed M sz) (hS : OOrd n0 [t, mm, k1, k2]) (HS : ∀ (h1 : Heap) (fa fk : Addr), Keep h0 h1 [t] → OTP Z h1 t mm fa fk k1 k2 ed M sz 0 0 0 0 0 → OOrd n0 [t, mm, fa, fk, k1, k2] → OMet l Z yN9 prog_86_method_11_code 9 none (⟨8, 0, 0, 136⟩ : Room) #[(.ref t), (.int 0)] h1 (fun v h L => v = none ∧ Fr n0 L ∧ Keep h1 h [fa, fk] ∧ ∃ r' d', RR r' ∧ OTP Z h t mm fa fk k1 k2 ed M sz 0 0 r' 0 d')) :
    OMet l Z yN7 prog_86_method_9_code 2 none (⟨9, 2, 4, 156⟩ : Room) #[(.ref t)] h0 (fun v h L => v = none ∧ Fr n0 L ∧ Keep h0 h [t] ∧ ∃ fa fk r' d0 d', h0.size ≤ fa ∧ h0.size ≤ fk ∧ fa ≠ fk ∧ RR r' ∧ OTP Z h t mm fa fk k1 k2 ed M sz 1 0 r' d0 d') := by
  refine own_enter own_pn7 ?_
  intro p e s m below meth c T0 X0 hC e0 hnamed
  have hC0 := hC
  obtain ⟨hx, hZH, hby, hml, hown, hret, hlk, hnm⟩ := hC
  have hZ := hZH.wide
  have hown : s.vm.findClass "com/example/rankfold/rankfold/summaries/Tournament" = some m.cls := hown
  refine own_at (own_ef7_R m t) ?_
  have hd := D7.to hby
  have N0 := Fr.nil n0
  have kp0 := Keep.refl h0 [t]
  obtain ⟨u1, u2, u3, u4, u5, u6, u7, u8, u9, u10, u11, u12, u13, u14⟩ := id BT
  refine pA X0 hx (hd.at 0 rfl) rfl rfl ?_
  refine pC X0 hx 1 (hd.at 1 rfl) rfl ?_
  refine pA X0 hx (hd.at 2 rfl) rfl rfl ?_
  refine pF X0 hx hZ hown (wd hw 58 rfl) e0 u5 (hd.at 3 rfl) fun T15 X15 e15 => ?_
  refine pB X15 hx 16 (hd.at 4 rfl) rfl ?_
  refine o_iadd X15 hx (hd.at 5 rfl) ?_
  refine pC X15 hx 1 (hd.at 6 rfl) rfl ?_
  refine o_isub X15 hx (hd.at 7 rfl) ?_
  refine pB X15 hx 16 (hd.at 8 rfl) rfl ?_
  refine o_idiv X15 hx (hd.at 9 rfl) (by decide) ?_
  rw [show (((((4 : Int32) + (16 : Int32)) - (1 : Int32)) / (16 : Int32))) = (1 : Int32) from by decide]
  refine pgP (own_static X15 hx hZ (y := yN8) (rm := ⟨0, 0, 0, 0⟩) (W := 1) (argsL := [(.int 1), (.int 1)]) (rest := [(.ref t)]) hown (wd hw 84 rfl) (wd hw 85 rfl) (wd hw 86 rfl) (wd hw 87 rfl) (rmMaxI l Z a0 hw 1 1 h0) e15 rfl (by rw [hml]; rfl) (lenOf own_pd11 rfl) rfl (by exact Nat.le_of_eq rfl) (hd.at 10 rfl) (by decide) (by decide) (by decide) (by decide)) fun T16 X16 e16 => ?_
  rw [show ((own_maxI (1 : Int32) (1 : Int32))) = (1 : Int32) from by decide]
  refine pg2 (putF X16 hx hZ hown (host := "") (Or.inl (wd hw 88 rfl)) Via.refl e16 u9 u1 (Or.inl (wd hw 89 rfl)) (wd hw 41 rfl) (ty := .int) (by decide) rfl rfl rfl rfl (hd.at 11 rfl)) fun T17 h17 X17 e17 W17 => ?_
  have f18 := u9.same W17
  replace u1 := u1.wr W17
  replace u2 := u2.other W17 (Or.inr (sl (Or.inr (wd hw 53 rfl)) (Or.inl (wd hw 89 rfl))))
  replace u3 := u3.other W17 (Or.inr (sl (Or.inr (wd hw 55 rfl)) (Or.inl (wd hw 89 rfl))))
  replace u4 := u4.other W17 (Or.inr (sl (Or.inr (wd hw 57 rfl)) (Or.inl (wd hw 89 rfl))))
  replace u5 := u5.other W17 (Or.inr (sl (Or.inl (wd hw 59 rfl)) (Or.inl (wd hw 89 rfl))))
  replace u6 := u6.other W17 (Or.inr (sl (Or.inl (wd hw 62 rfl)) (Or.inl (wd hw 89 rfl))))
  replace u7 := u7.other W17 (Or.inr (sl (Or.inl (wd hw 128 rfl)) (Or.inl (wd hw 89 rfl))))
  replace u8 := u8.other W17 (Or.inr (sl (Or.inl (wd hw 103 rfl)) (Or.inl (wd hw 89 rfl))))
  replace u10 := u10.other W17 (Or.inr (sl (Or.inl (wd hw 91 rfl)) (Or.inl (wd hw 89 rfl))))
  replace u11 := u11.other W17 (Or.inr (sl (Or.inl (wd hw 93 rfl)) (Or.inl (wd hw 89 rfl))))
  have n19 := hS.ne 0 1
  have n20 := Ne.symm n19
  replace u12 := u12.other W17 n20
  have n21 := hS.ne 0 2
  have n22 := Ne.symm n21
  replace u13 := u13.other W17 n22
  have n23 := hS.ne 0 3
  have n24 := Ne.symm n23
  replace u14 := u14.other W17 n24
  have sz17 : n0 ≤ h17.size := by rw [W17.size]; exact Z0
  have fr17 := Fr.snoc X17 N0 (hS.ge 0 rfl)
  have kp17 := kp0.wr W17 (Or.inl (List.mem_of_getElem? (i := 0) rfl))
  refine pA X17 hx (hd.at 12 rfl) rfl rfl ?_
  refine pC X17 hx 2 (hd.at 13 rfl) rfl ?_
  refine pA X17 hx (hd.at 14 rfl) rfl rfl ?_
  refine pF X17 hx hZ hown (wd hw 88 rfl) e17 f18 (hd.at 15 rfl) fun T25 X25 e25 => ?_
  refine o_imul X25 hx (hd.at 16 rfl) ?_
  rw [show (((2 : Int32) * (1 : Int32))) = (2 : Int32) from by decide]
  refine pg4 (newP X25 hx hZ (wd hw 35 rfl) e25 rfl (hd.at 17 rfl) rfl (by decide) (cap := 2) (by decide) (by decide) (by decide) (by decide)) fun T26 h26 k26 X26 e26 E26 A26 => ?_
  obtain ⟨fa, g26⟩ : ∃ z, z = h17.size := ⟨_, rfl⟩
  rw [← g26] at A26 ⊢
  have ne_k1_fa : k1 ≠ fa := Nat.ne_of_lt (Nat.lt_of_lt_of_le u13.lt (Nat.le_of_eq g26.symm))
  have ne_k2_fa : k2 ≠ fa := Nat.ne_of_lt (Nat.lt_of_lt_of_le u14.lt (Nat.le_of_eq g26.symm))
  have ne_mm_fa : mm ≠ fa := Nat.ne_of_lt (Nat.lt_of_lt_of_le u12.lt (Nat.le_of_eq g26.symm))
  have ne_t_fa : t ≠ fa := Nat.ne_of_lt (Nat.lt_of_lt_of_le u1.lt (Nat.le_of_eq g26.symm))
  have g_fa : n0 ≤ fa := Nat.le_trans sz17 (Nat.le_of_eq g26.symm)
  replace u1 := u1.ext E26
  replace u2 := u2.ext E26
  replace u3 := u3.ext E26
  replace u4 := u4.ext E26
  replace u5 := u5.ext E26
  replace u6 := u6.ext E26
  replace u7 := u7.ext E26
  replace u8 := u8.ext E26
  replace f18 := f18.ext E26
  replace u10 := u10.ext E26
  replace u11 := u11.ext E26
  replace u12 := u12.ext E26
  replace u13 := u13.ext E26
  replace u14 := u14.ext E26
  have f27 : Arv Z h26 fa k26 .int (2 : Int32) [(.int (0 : Int32)), (.int (0 : Int32))] (.int (0 : Int32)) := (Arv.new A26 (by decide)).pad (pad_rep [] (.int (0 : Int32)) 2)
  have sz26 : n0 ≤ h26.size := Nat.le_trans sz17 E26.1
  have kp26 := kp17.ext E26
  have kz_fa := Nat.le_trans kp17.1 (Nat.le_of_eq g26.symm)
  refine pg2 (putF X26 hx hZ hown (host := "") (Or.inl (wd hw 90 rfl)) Via.refl e26 u10 u1 (Or.inl (wd hw 91 rfl)) (wd hw 41 rfl) (ty := (.array .int)) (by decide) rfl rfl rfl rfl (hd.at 18 rfl)) fun T28 h28 X28 e28 W28 => ?_
  have f29 := u10.same W28
  replace u1 := u1.wr W28
  replace u2 := u2.other W28 (Or.inr (sl (Or.inr (wd hw 53 rfl)) (Or.inl (wd hw 91 rfl))))
  replace u3 := u3.other W28 (Or.inr (sl (Or.inr (wd hw 55 rfl)) (Or.inl (wd hw 91 rfl))))
  replace u4 := u4.other W28 (Or.inr (sl (Or.inr (wd hw 57 rfl)) (Or.inl (wd hw 91 rfl))))
  replace u5 := u5.other W28 (Or.inr (sl (Or.inl (wd hw 59 rfl)) (Or.inl (wd hw 91 rfl))))
  replace u6 := u6.other W28 (Or.inr (sl (Or.inl (wd hw 62 rfl)) (Or.inl (wd hw 91 rfl))))
  replace u7 := u7.other W28 (Or.inr (sl (Or.inl (wd hw 128 rfl)) (Or.inl (wd hw 91 rfl))))
  replace u8 := u8.other W28 (Or.inr (sl (Or.inl (wd hw 103 rfl)) (Or.inl (wd hw 91 rfl))))
  replace f18 := f18.other W28 (Or.inr (sl (Or.inl (wd hw 89 rfl)) (Or.inl (wd hw 91 rfl))))
  replace u11 := u11.other W28 (Or.inr (sl (Or.inl (wd hw 93 rfl)) (Or.inl (wd hw 91 rfl))))
  replace u12 := u12.other W28 n20
  replace u13 := u13.other W28 n22
  replace u14 := u14.other W28 n24
  have n30 := Ne.symm ne_t_fa
  replace f27 := f27.other W28 n30
  have sz28 : n0 ≤ h28.size := by rw [W28.size]; exact sz26
  have fr28 := Fr.snoc X28 fr17 (hS.ge 0 rfl)
  have kp28 := kp26.wr W28 (Or.inl (List.mem_of_getElem? (i := 0) rfl))
  refine pA X28 hx (hd.at 19 rfl) rfl rfl ?_
  refine pC X28 hx 2 (hd.at 20 rfl) rfl ?_
  refine pA X28 hx (hd.at 21 rfl) rfl rfl ?_
  refine pF X28 hx hZ hown (wd hw 88 rfl) e28 f18 (hd.at 22 rfl) fun T31 X31 e31 => ?_
  refine o_imul X31 hx (hd.at 23 rfl) ?_
  rw [show (((2 : Int32) * (1 : Int32))) = (2 : Int32) from by decide]
  refine pg4 (newP X31 hx hZ (wd hw 1 rfl) e31 rfl (hd.at 24 rfl) rfl (by decide) (cap := 2) (by decide) (by decide) (by decide) (by decide)) fun T32 h32 k32 X32 e32 E32 A32 => ?_
  obtain ⟨fk, g32⟩ : ∃ z, z = h28.size := ⟨_, rfl⟩
  rw [← g32] at A32 ⊢
  have ne_fa_fk : fa ≠ fk := Nat.ne_of_lt (Nat.lt_of_lt_of_le f27.lt (Nat.le_of_eq g32.symm))
  have ne_k1_fk : k1 ≠ fk := Nat.ne_of_lt (Nat.lt_of_lt_of_le u13.lt (Nat.le_of_eq g32.symm))
  have ne_k2_fk : k2 ≠ fk := Nat.ne_of_lt (Nat.lt_of_lt_of_le u14.lt (Nat.le_of_eq g32.symm))
  have ne_mm_fk : mm ≠ fk := Nat.ne_of_lt (Nat.lt_of_lt_of_le u12.lt (Nat.le_of_eq g32.symm))
  have ne_t_fk : t ≠ fk := Nat.ne_of_lt (Nat.lt_of_lt_of_le u1.lt (Nat.le_of_eq g32.symm))
  have g_fk : n0 ≤ fk := Nat.le_trans sz28 (Nat.le_of_eq g32.symm)
  replace u1 := u1.ext E32
  replace u2 := u2.ext E32
  replace u3 := u3.ext E32
  replace u4 := u4.ext E32
  replace u5 := u5.ext E32
  replace u6 := u6.ext E32
  replace u7 := u7.ext E32
  replace u8 := u8.ext E32
  replace f18 := f18.ext E32
  replace f29 := f29.ext E32
  replace u11 := u11.ext E32
  replace u12 := u12.ext E32
  replace u13 := u13.ext E32
  replace u14 := u14.ext E32
  replace f27 := f27.ext E32
  have f33 : Arv Z h32 fk k32 .double (2 : Int32) [(.double 0), (.double 0)] (.double 0) := (Arv.new A32 (by decide)).pad (pad_rep [] (.double 0) 2)
  have sz32 : n0 ≤ h32.size := Nat.le_trans sz28 E32.1
  have kp32 := kp28.ext E32
  have kz_fk := Nat.le_trans kp28.1 (Nat.le_of_eq g32.symm)
  refine pg2 (putF X32 hx hZ hown (host := "") (Or.inl (wd hw 92 rfl)) Via.refl e32 u11 u1 (Or.inl (wd hw 93 rfl)) (wd hw 41 rfl) (ty := (.array .double)) (by decide) rfl rfl rfl rfl (hd.at 25 rfl)) fun T34 h34 X34 e34 W34 => ?_
  have f35 := u11.same W34
  replace u1 := u1.wr W34
  replace u2 := u2.other W34 (Or.inr (sl (Or.inr (wd hw 53 rfl)) (Or.inl (wd hw 93 rfl))))
  replace u3 := u3.other W34 (Or.inr (sl (Or.inr (wd hw 55 rfl)) (Or.inl (wd hw 93 rfl))))
  replace u4 := u4.other W34 (Or.inr (sl (Or.inr (wd hw 57 rfl)) (Or.inl (wd hw 93 rfl))))
  replace u5 := u5.other W34 (Or.inr (sl (Or.inl (wd hw 59 rfl)) (Or.inl (wd hw 93 rfl))))
  replace u6 := u6.other W34 (Or.inr (sl (Or.inl (wd hw 62 rfl)) (Or.inl (wd hw 93 rfl))))
  replace u7 := u7.other W34 (Or.inr (sl (Or.inl (wd hw 128 rfl)) (Or.inl (wd hw 93 rfl))))
  replace u8 := u8.other W34 (Or.inr (sl (Or.inl (wd hw 103 rfl)) (Or.inl (wd hw 93 rfl))))
  replace f18 := f18.other W34 (Or.inr (sl (Or.inl (wd hw 89 rfl)) (Or.inl (wd hw 93 rfl))))
  replace f29 := f29.other W34 (Or.inr (sl (Or.inl (wd hw 91 rfl)) (Or.inl (wd hw 93 rfl))))
  replace u12 := u12.other W34 n20
  replace u13 := u13.other W34 n22
  replace u14 := u14.other W34 n24
  replace f27 := f27.other W34 n30
  have n36 := Ne.symm ne_t_fk
  replace f33 := f33.other W34 n36
  have sz34 : n0 ≤ h34.size := by rw [W34.size]; exact sz32
  have fr34 := Fr.snoc X34 fr28 (hS.ge 0 rfl)
  have kp34 := kp32.wr W34 (Or.inl (List.mem_of_getElem? (i := 0) rfl))
  have f37 : OArr Z h34 fa .int 2 (fun i => .int ((own_q2 (0 : Int32) (0 : Int32)) i)) := OArr.of f27 rfl (own_lt2 rfl rfl)
  have f38 : OArr Z h34 fk .double 2 (fun i => .double ((own_q2 (0 : UInt64) (0 : UInt64)) i)) := OArr.of f33 rfl (own_lt2 rfl rfl)
  refine pC X34 hx 0 (hd.at 26 rfl) rfl ?_
  refine pS X34 hx #[.val (.ref t), .val (.int 0)] (hd.at 27 rfl) rfl ?_
  refine pI X34 hx (hd.at 28 rfl) rfl ?_
  refine pA X34 hx (hd.at 29 rfl) rfl rfl ?_
  refine pF X34 hx hZ hown (wd hw 88 rfl) e34 f18 (hd.at 30 rfl) fun T39 X39 e39 => ?_
  refine pcN X39 hx (hd.at 31 rfl) ((tlt (by decide)).2.1) ?_
  refine pA X39 hx (hd.at 32 rfl) rfl rfl ?_
  refine pI X39 hx (hd.at 33 rfl) rfl ?_
  have n40 := hS.ne 1 3
  have n41 := hS.ne 1 2
  have n42 := Ne.symm ne_k2_fa
  have n43 := Ne.symm ne_k1_fa
  have n44 := Ne.symm ne_k2_fk
  have n45 := Ne.symm ne_k1_fk
  have n46 := hS.ne 2 3
  have hS2 := (OOrd.cons (hS.ge 0 rfl) (allS n19 (allS ne_t_fa (allS ne_t_fk (allS n21 (allS n23 all0))))) (OOrd.cons (hS.ge 1 rfl) (allS ne_mm_fa (allS ne_mm_fk (allS n41 (allS n40 all0)))) (OOrd.cons g_fa (allS ne_fa_fk (allS n43 (allS n42 all0))) (OOrd.cons g_fk (allS n45 (allS n44 all0)) (OOrd.cons (hS.ge 2 rfl) (allS n46 all0) (OOrd.cons (hS.ge 3 rfl) all0 OOrd.nil))))))
  have f47 : OTP Z h34 t mm fa fk k1 k2 ed M sz (0 : Int32) (0 : Int32) (0 : Int32) (0 : UInt64) (0 : UInt64) := ⟨u1, u2, u3, u4, u5, u6, u7, u8, f18, f29, f35, u12, u13, u14, f37, f38⟩
  refine pgV (own_private X39 hx hZ (y := yN9) (rm := ⟨8, 0, 0, 136⟩) (W := 0) (a := t) (argsL := [(.int 0)]) (rest := []) hown (wd hw 94 rfl) (wd hw 95 rfl) (wd hw 96 rfl) (wd hw 72 rfl) rfl (wd hw 42 rfl) (wd hw 97 rfl) (HS h34 fa fk kp34 f47 hS2) e39 u1 rfl (by rw [hml]; rfl) (lenOf own_pd10 rfl) rfl (by exact Nat.le_of_eq rfl) (hd.at 34 rfl) (by decide) (by decide) (by decide) (by decide)) fun T48 L48 X48 hQ48 => ?_
  obtain ⟨N48, K48, r', d', hr, BT'⟩ := hQ48
  have fr48 := Fr.app fr34 N48
  have kp48 := kp34.trans K48 (allS (Or.inr kz_fa) (allS (Or.inr kz_fk) all0))
  replace u1 := u1.keep K48
  have sz48 : n0 ≤ T48.heap.size := Nat.le_trans sz34 K48.1
  refine pN X48 hx (1 : Int32) #[.val (.ref t), .val (.int 1)] (hd.at 35 rfl) rfl (by decide) rfl ?_
  obtain ⟨u49, u50, u51, u52, u53, u54, u55, u56, u57, u58, u59, u60, u61, u62, u63, u64⟩ := BT'
  refine pG X48 hx 46 (hd.at 36 rfl) ?_
  refine pI X48 hx (hd.at 28 rfl) rfl ?_
  refine pA X48 hx (hd.at 29 rfl) rfl rfl ?_
  refine pF X48 hx hZ hown (wd hw 88 rfl) rfl u57 (hd.at 30 rfl) fun T65 X65 e65 => ?_
  refine pcY X65 hx 65 (hd.at 31 rfl) ((flt (by decide)).2.1) ?_
  refine pA X65 hx (hd.at 37 rfl) rfl rfl ?_
  refine pF X65 hx hZ hown (wd hw 88 rfl) e65 u57 (hd.at 38 rfl) fun T66 X66 e66 => ?_
  refine pC X66 hx 1 (hd.at 39 rfl) rfl ?_
  refine o_isub X66 hx (hd.at 40 rfl) ?_
  rw [show (((1 : Int32) - (1 : Int32))) = (0 : Int32) from by decide]
  refine pS X66 hx #[.val (.ref t), .val (.int 0)] (hd.at 41 rfl) rfl ?_
  refine pI X66 hx (hd.at 42 rfl) rfl ?_
  refine pfY X66 hx 87 (hd.at 43 rfl) ((if0 _ _).trans (flt (by decide)).2.2.2) ?_
  refine pA X66 hx (hd.at 44 rfl) rfl rfl ?_
  refine pC X66 hx 1 (hd.at 45 rfl) rfl ?_
  refine pg2 (putFN X66 hx hZ hown (wd hw 102 rfl) Via.refl e66 u56 u49 (Or.inl (wd hw 103 rfl)) (wd hw 41 rfl) (ty := .boolean) (v' := (.int 1)) (by decide) rfl (by decide) rfl rfl (hd.at 46 rfl)) fun T67 h67 X67 e67 W67 => ?_
  have f68 := u56.same W67
  replace u49 := u49.wr W67
  replace u50 := u50.other W67 (Or.inr (sl (Or.inr (wd hw 53 rfl)) (Or.inl (wd hw 103 rfl))))
  replace u51 := u51.other W67 (Or.inr (sl (Or.inr (wd hw 55 rfl)) (Or.inl (wd hw 103 rfl))))
  replace u52 := u52.other W67 (Or.inr (sl (Or.inr (wd hw 57 rfl)) (Or.inl (wd hw 103 rfl))))
  replace u53 := u53.other W67 (Or.inr (sl (Or.inl (wd hw 59 rfl)) (Or.inl (wd hw 103 rfl))))
  replace u54 := u54.other W67 (Or.inr (sl (Or.inl (wd hw 62 rfl)) (Or.inl (wd hw 103 rfl))))
  replace u55 := u55.other W67 (Or.inr (sl (Or.inl (wd hw 128 rfl)) (Or.inl (wd hw 103 rfl))))
  replace u57 := u57.other W67 (Or.inr (sl (Or.inl (wd hw 89 rfl)) (Or.inl (wd hw 103 rfl))))
  replace u58 := u58.other W67 (Or.inr (sl (Or.inl (wd hw 91 rfl)) (Or.inl (wd hw 103 rfl))))
  replace u59 := u59.other W67 (Or.inr (sl (Or.inl (wd hw 93 rfl)) (Or.inl (wd hw 103 rfl))))
  replace u60 := u60.other W67 n20
  replace u61 := u61.other W67 n22
  replace u62 := u62.other W67 n24
  replace u63 := u63.other W67 n30
  replace u64 := u64.other W67 n36
  have sz67 : n0 ≤ h67.size := by rw [W67.size]; exact sz48
  have fr67 := Fr.snoc X67 fr48 (hS.ge 0 rfl)
  have kp67 := kp48.wr W67 (Or.inl (List.mem_of_getElem? (i := 0) rfl))
  exact own_retV X67 hx hret hlk (hd.at 47 rfl) (by decide) (by decide) (by show _ ∧ _ ∧ Keep h0 T67.heap _ ∧ _; rw [e67]; exact ⟨rfl, fr67, kp67, fa, fk, r', 0, d', kz_fa, kz_fk, ne_fa_fk, hr, u49, u50, u51, u52, u53, u54, u55, f68, u57, u58, u59, u60, u61, u62, u63, u64⟩)
set_option maxRecDepth 65536 in
set_option maxHeartbeats 40000000 in
theorem rmTI (l : Launch) (Z : State) (a0 : Array Value) (hw : ∀ d ∈ tables_1, d.before a0 Z = true) (t : Addr) (k1 : Addr) (k2 : Addr) (h0 : Heap) (n0 : Nat) (ed : Addr) (Z0 : n0 ≤ h0.size) (B : OT9 Z h0 t) (hS : OOrd n0 [t, k1, k2]) (L1 : OLam Z h0 LJ.sg k1 ed) (L2 : OLam Z h0 LT.sg k2 ed) :
    OMet l Z yN3 prog_86_method_1_code 5 none (⟨1, 1, 1, 12⟩ : Room) #[(.ref t), (.int 0), (.int 4), (.ref k1), (.ref k2)] h0 (fun v h L => v = none ∧ Fr n0 L ∧ Keep h0 h [t] ∧ ∃ mm, h0.size ≤ mm ∧ OT0 Z h t mm k1 k2 ed 0 0) := by
  refine own_enter own_pn3 ?_
  intro p e s m below meth c T0 X0 hC e0 hnamed
  have hC0 := hC
  obtain ⟨hx, hZH, hby, hml, hown, hret, hlk, hnm⟩ := hC
  have hZ := hZH.wide
  have hown : s.vm.findClass "com/example/rankfold/rankfold/summaries/Tournament" = some m.cls := hown
  refine own_at (own_ef3_RIIRR m t (0 : Int32) (4 : Int32) k1 k2) ?_
  have hd := D3.to hby
  have N0 := Fr.nil n0
  have kp0 := Keep.refl h0 [t]
  obtain ⟨u1, u2, u3, u4, u5, u6, u7, u8, u9, u10, u11⟩ := id B
  refine pA X0 hx (hd.at 0 rfl) rfl rfl ?_
  refine pg1 (initO X0 hx hZ hown (wd hw 51 rfl) (wd hw 13 rfl) (wd hw 14 rfl) e0 rfl (by rw [hml]; rfl) rfl (hd.at 1 rfl) (by decide) (W := 0) (by exact Nat.le_of_eq rfl) (by decide)) fun T12 X12 e12 => ?_
  refine pA X12 hx (hd.at 2 rfl) rfl rfl ?_
  refine pI X12 hx (hd.at 3 rfl) rfl ?_
  refine pg2 (putFN X12 hx hZ hown (wd hw 52 rfl) Via.refl e12 u2 u1 (Or.inr ⟨(wd hw 53 rfl), rfl, hnm⟩) (wd hw 41 rfl) (ty := .boolean) (v' := (.int 0)) (by decide) rfl (by decide) rfl rfl (hd.at 4 rfl)) fun T13 h13 X13 e13 W13 => ?_
  have f14 := u2.same W13
  replace u1 := u1.wr W13
  replace u3 := u3.other W13 (Or.inr (sl (Or.inr (wd hw 55 rfl)) (Or.inr (wd hw 53 rfl))))
  replace u4 := u4.other W13 (Or.inr (sl (Or.inr (wd hw 57 rfl)) (Or.inr (wd hw 53 rfl))))
  replace u5 := u5.other W13 (Or.inr (sl (Or.inl (wd hw 59 rfl)) (Or.inr (wd hw 53 rfl))))
  replace u6 := u6.other W13 (Or.inr (sl (Or.inl (wd hw 62 rfl)) (Or.inr (wd hw 53 rfl))))
  replace u7 := u7.other W13 (Or.inr (sl (Or.inl (wd hw 128 rfl)) (Or.inr (wd hw 53 rfl))))
  replace u8 := u8.other W13 (Or.inr (sl (Or.inl (wd hw 103 rfl)) (Or.inr (wd hw 53 rfl))))
  replace u9 := u9.other W13 (Or.inr (sl (Or.inl (wd hw 89 rfl)) (Or.inr (wd hw 53 rfl))))
  replace u10 := u10.other W13 (Or.inr (sl (Or.inl (wd hw 91 rfl)) (Or.inr (wd hw 53 rfl))))
  replace u11 := u11.other W13 (Or.inr (sl (Or.inl (wd hw 93 rfl)) (Or.inr (wd hw 53 rfl))))
  have n15 := hS.ne 0 1
  have n16 := Ne.symm n15
  have f17 := L1.other W13 n16
  have n18 := hS.ne 0 2
  have n19 := Ne.symm n18
  have f20 := L2.other W13 n19
  have sz13 : n0 ≤ h13.size := by rw [W13.size]; exact Z0
  have fr13 := Fr.snoc X13 N0 (hS.ge 0 rfl)
  have kp13 := kp0.wr W13 (Or.inl (List.mem_of_getElem? (i := 0) rfl))
  refine pA X13 hx (hd.at 5 rfl) rfl rfl ?_
  refine pA X13 hx (hd.at 6 rfl) rfl rfl ?_
  refine pg2 (putF X13 hx hZ hown (host := "") (Or.inl (wd hw 54 rfl)) Via.refl e13 u3 u1 (Or.inr ⟨(wd hw 55 rfl), rfl, hnm⟩) (wd hw 41 rfl) (ty := (.object "java/util/function/IntToDoubleFunction")) (by decide) rfl rfl rfl rfl (hd.at 7 rfl)) fun T21 h21 X21 e21 W21 => ?_
  have f22 := u3.same W21
  replace u1 := u1.wr W21
  replace f14 := f14.other W21 (Or.inr (sl (Or.inr (wd hw 53 rfl)) (Or.inr (wd hw 55 rfl))))
  replace u4 := u4.other W21 (Or.inr (sl (Or.inr (wd hw 57 rfl)) (Or.inr (wd hw 55 rfl))))
  replace u5 := u5.other W21 (Or.inr (sl (Or.inl (wd hw 59 rfl)) (Or.inr (wd hw 55 rfl))))
  replace u6 := u6.other W21 (Or.inr (sl (Or.inl (wd hw 62 rfl)) (Or.inr (wd hw 55 rfl))))
  replace u7 := u7.other W21 (Or.inr (sl (Or.inl (wd hw 128 rfl)) (Or.inr (wd hw 55 rfl))))
  replace u8 := u8.other W21 (Or.inr (sl (Or.inl (wd hw 103 rfl)) (Or.inr (wd hw 55 rfl))))
  replace u9 := u9.other W21 (Or.inr (sl (Or.inl (wd hw 89 rfl)) (Or.inr (wd hw 55 rfl))))
  replace u10 := u10.other W21 (Or.inr (sl (Or.inl (wd hw 91 rfl)) (Or.inr (wd hw 55 rfl))))
  replace u11 := u11.other W21 (Or.inr (sl (Or.inl (wd hw 93 rfl)) (Or.inr (wd hw 55 rfl))))
  replace f17 := f17.other W21 n16
  replace f20 := f20.other W21 n19
  have sz21 : n0 ≤ h21.size := by rw [W21.size]; exact sz13
  have fr21 := Fr.snoc X21 fr13 (hS.ge 0 rfl)
  have kp21 := kp13.wr W21 (Or.inl (List.mem_of_getElem? (i := 0) rfl))
  refine pA X21 hx (hd.at 8 rfl) rfl rfl ?_
  refine pa X21 hx (hd.at 9 rfl) rfl rfl ?_
  refine pg2 (putF X21 hx hZ hown (host := "") (Or.inl (wd hw 56 rfl)) Via.refl e21 u4 u1 (Or.inr ⟨(wd hw 57 rfl), rfl, hnm⟩) (wd hw 41 rfl) (ty := (.object "java/util/function/IntToDoubleFunction")) (by decide) rfl rfl rfl rfl (hd.at 10 rfl)) fun T23 h23 X23 e23 W23 => ?_
  have f24 := u4.same W23
  replace u1 := u1.wr W23
  replace f14 := f14.other W23 (Or.inr (sl (Or.inr (wd hw 53 rfl)) (Or.inr (wd hw 57 rfl))))
  replace f22 := f22.other W23 (Or.inr (sl (Or.inr (wd hw 55 rfl)) (Or.inr (wd hw 57 rfl))))
  replace u5 := u5.other W23 (Or.inr (sl (Or.inl (wd hw 59 rfl)) (Or.inr (wd hw 57 rfl))))
  replace u6 := u6.other W23 (Or.inr (sl (Or.inl (wd hw 62 rfl)) (Or.inr (wd hw 57 rfl))))
  replace u7 := u7.other W23 (Or.inr (sl (Or.inl (wd hw 128 rfl)) (Or.inr (wd hw 57 rfl))))
  replace u8 := u8.other W23 (Or.inr (sl (Or.inl (wd hw 103 rfl)) (Or.inr (wd hw 57 rfl))))
  replace u9 := u9.other W23 (Or.inr (sl (Or.inl (wd hw 89 rfl)) (Or.inr (wd hw 57 rfl))))
  replace u10 := u10.other W23 (Or.inr (sl (Or.inl (wd hw 91 rfl)) (Or.inr (wd hw 57 rfl))))
  replace u11 := u11.other W23 (Or.inr (sl (Or.inl (wd hw 93 rfl)) (Or.inr (wd hw 57 rfl))))
  replace f17 := f17.other W23 n16
  replace f20 := f20.other W23 n19
  have sz23 : n0 ≤ h23.size := by rw [W23.size]; exact sz21
  have fr23 := Fr.snoc X23 fr21 (hS.ge 0 rfl)
  have kp23 := kp21.wr W23 (Or.inl (List.mem_of_getElem? (i := 0) rfl))
  refine pA X23 hx (hd.at 11 rfl) rfl rfl ?_
  refine pI X23 hx (hd.at 12 rfl) rfl ?_
  refine pg2 (putF X23 hx hZ hown (host := "") (Or.inl (wd hw 58 rfl)) Via.refl e23 u5 u1 (Or.inl (wd hw 59 rfl)) (wd hw 41 rfl) (ty := .int) (by decide) rfl rfl rfl rfl (hd.at 13 rfl)) fun T25 h25 X25 e25 W25 => ?_
  have f26 := u5.same W25
  replace u1 := u1.wr W25
  replace f14 := f14.other W25 (Or.inr (sl (Or.inr (wd hw 53 rfl)) (Or.inl (wd hw 59 rfl))))
  replace f22 := f22.other W25 (Or.inr (sl (Or.inr (wd hw 55 rfl)) (Or.inl (wd hw 59 rfl))))
  replace f24 := f24.other W25 (Or.inr (sl (Or.inr (wd hw 57 rfl)) (Or.inl (wd hw 59 rfl))))
  replace u6 := u6.other W25 (Or.inr (sl (Or.inl (wd hw 62 rfl)) (Or.inl (wd hw 59 rfl))))
  replace u7 := u7.other W25 (Or.inr (sl (Or.inl (wd hw 128 rfl)) (Or.inl (wd hw 59 rfl))))
  replace u8 := u8.other W25 (Or.inr (sl (Or.inl (wd hw 103 rfl)) (Or.inl (wd hw 59 rfl))))
  replace u9 := u9.other W25 (Or.inr (sl (Or.inl (wd hw 89 rfl)) (Or.inl (wd hw 59 rfl))))
  replace u10 := u10.other W25 (Or.inr (sl (Or.inl (wd hw 91 rfl)) (Or.inl (wd hw 59 rfl))))
  replace u11 := u11.other W25 (Or.inr (sl (Or.inl (wd hw 93 rfl)) (Or.inl (wd hw 59 rfl))))
  replace f17 := f17.other W25 n16
  replace f20 := f20.other W25 n19
  have sz25 : n0 ≤ h25.size := by rw [W25.size]; exact sz23
  have fr25 := Fr.snoc X25 fr23 (hS.ge 0 rfl)
  have kp25 := kp23.wr W25 (Or.inl (List.mem_of_getElem? (i := 0) rfl))
  refine pA X25 hx (hd.at 14 rfl) rfl rfl ?_
  refine pI X25 hx (hd.at 15 rfl) rfl ?_
  refine pB X25 hx 64 (hd.at 16 rfl) rfl ?_
  refine o_iadd X25 hx (hd.at 17 rfl) ?_
  refine pC X25 hx 1 (hd.at 18 rfl) rfl ?_
  refine o_isub X25 hx (hd.at 19 rfl) ?_
  refine pB X25 hx 64 (hd.at 20 rfl) rfl ?_
  refine o_idiv X25 hx (hd.at 21 rfl) (by decide) ?_
  rw [show (((((4 : Int32) + (64 : Int32)) - (1 : Int32)) / (64 : Int32))) = (1 : Int32) from by decide]
  refine pg4 (newP X25 hx hZ (wd hw 60 rfl) e25 rfl (hd.at 22 rfl) rfl (by decide) (cap := 1) (by decide) (by decide) (by decide) (by decide)) fun T27 h27 k27 X27 e27 E27 A27 => ?_
  obtain ⟨mm, g27⟩ : ∃ z, z = h25.size := ⟨_, rfl⟩
  rw [← g27] at A27 ⊢
  have ne_k1_mm : k1 ≠ mm := Nat.ne_of_lt (Nat.lt_of_lt_of_le f17.lt (Nat.le_of_eq g27.symm))
  have ne_k2_mm : k2 ≠ mm := Nat.ne_of_lt (Nat.lt_of_lt_of_le f20.lt (Nat.le_of_eq g27.symm))
  have ne_t_mm : t ≠ mm := Nat.ne_of_lt (Nat.lt_of_lt_of_le u1.lt (Nat.le_of_eq g27.symm))
  have g_mm : n0 ≤ mm := Nat.le_trans sz25 (Nat.le_of_eq g27.symm)
  replace u1 := u1.ext E27
  replace f14 := f14.ext E27
  replace f22 := f22.ext E27
  replace f24 := f24.ext E27
  replace f26 := f26.ext E27
  replace u6 := u6.ext E27
  replace u7 := u7.ext E27
  replace u8 := u8.ext E27
  replace u9 := u9.ext E27
  replace u10 := u10.ext E27
  replace u11 := u11.ext E27
  replace f17 := f17.ext E27
  replace f20 := f20.ext E27
  have f28 : Arv Z h27 mm k27 .long (1 : Int32) [(.long (0 : Int64))] (.long (0 : Int64)) := (Arv.new A27 (by decide)).pad (pad_rep [] (.long (0 : Int64)) 1)
  have sz27 : n0 ≤ h27.size := Nat.le_trans sz25 E27.1
  have kp27 := kp25.ext E27
  have kz_mm := Nat.le_trans kp25.1 (Nat.le_of_eq g27.symm)
  refine pg2 (putF X27 hx hZ hown (host := "") (Or.inl (wd hw 61 rfl)) Via.refl e27 u6 u1 (Or.inl (wd hw 62 rfl)) (wd hw 41 rfl) (ty := (.array .long)) (by decide) rfl rfl rfl rfl (hd.at 23 rfl)) fun T29 h29 X29 e29 W29 => ?_
  have f30 := u6.same W29
  replace u1 := u1.wr W29
  replace f14 := f14.other W29 (Or.inr (sl (Or.inr (wd hw 53 rfl)) (Or.inl (wd hw 62 rfl))))
  replace f22 := f22.other W29 (Or.inr (sl (Or.inr (wd hw 55 rfl)) (Or.inl (wd hw 62 rfl))))
  replace f24 := f24.other W29 (Or.inr (sl (Or.inr (wd hw 57 rfl)) (Or.inl (wd hw 62 rfl))))
  replace f26 := f26.other W29 (Or.inr (sl (Or.inl (wd hw 59 rfl)) (Or.inl (wd hw 62 rfl))))
  replace u7 := u7.other W29 (Or.inr (sl (Or.inl (wd hw 128 rfl)) (Or.inl (wd hw 62 rfl))))
  replace u8 := u8.other W29 (Or.inr (sl (Or.inl (wd hw 103 rfl)) (Or.inl (wd hw 62 rfl))))
  replace u9 := u9.other W29 (Or.inr (sl (Or.inl (wd hw 89 rfl)) (Or.inl (wd hw 62 rfl))))
  replace u10 := u10.other W29 (Or.inr (sl (Or.inl (wd hw 91 rfl)) (Or.inl (wd hw 62 rfl))))
  replace u11 := u11.other W29 (Or.inr (sl (Or.inl (wd hw 93 rfl)) (Or.inl (wd hw 62 rfl))))
  replace f17 := f17.other W29 n16
  replace f20 := f20.other W29 n19
  have n31 := Ne.symm ne_t_mm
  replace f28 := f28.other W29 n31
  have sz29 : n0 ≤ h29.size := by rw [W29.size]; exact sz27
  have fr29 := Fr.snoc X29 fr25 (hS.ge 0 rfl)
  have kp29 := kp27.wr W29 (Or.inl (List.mem_of_getElem? (i := 0) rfl))
  have f32 : OArr Z h29 mm .long 1 (fun i => .long ((own_q1 (0 : Int64)) i)) := OArr.of f28 rfl (own_lt1 rfl)
  exact own_retV X29 hx hret hlk (hd.at 24 rfl) (by decide) (by decide) (by show _ ∧ _ ∧ Keep h0 T29.heap _ ∧ _; rw [e29]; exact ⟨rfl, fr29, kp29, mm, kz_mm, u1, f14, f22, f24, f26, f30, u7, u8, u9, u10, u11, f32, f17, f20⟩)
def OTM (Z : State) (h : Heap) (t mm : Addr) (M : Int64) : Prop :=
  Exa Z h t "com/example/rankfold/rankfold/summaries/Tournament" ∧ Fld Z h t "com/example/rankfold/rankfold/summaries/Tournament" "members" "[J" (.ref mm) ∧ OArr Z h mm .long 1 (fun i => .long ((own_q1 M) i))
theorem OTM.keep {Z : State} {h h' : Heap} {ws : List Addr} {t mm : Addr} {M : Int64} (F : OTM Z h t mm M) (K : Keep h h' ws) (n0 : t ∉ ws) (n1 : mm ∉ ws) : OTM Z h' t mm M :=
  ⟨F.1.keep K, F.2.1.keep K n0, F.2.2.keep K n1⟩
def OEo (Z : State) (h : Heap) (ed px nx t : Addr) (aj : Value) : Prop :=
  Exa Z h ed "com/example/rankfold/rankfold/summaries/BucketEditor" ∧ Fld Z h ed "com/example/rankfold/rankfold/summaries/BucketEditor" "previous" "[I" (.ref px) ∧ Fld Z h ed "com/example/rankfold/rankfold/summaries/BucketEditor" "next" "[I" (.ref nx) ∧ Fld Z h ed "com/example/rankfold/rankfold/summaries/BucketEditor" "joins" "Lcom/example/rankfold/rankfold/summaries/Tournament;" (.ref t) ∧ Fld Z h ed "com/example/rankfold/rankfold/summaries/BucketEditor" "anyJoins" "Lcom/example/rankfold/rankfold/summaries/Tournament;" aj ∧ Fld Z h ed "com/example/rankfold/rankfold/summaries/BucketEditor" "splits" "Lcom/example/rankfold/rankfold/summaries/Tournament;" .null ∧ OArr Z h px .int 4 (fun i => .int (own_pJ i)) ∧ OArr Z h nx .int 4 (fun i => .int (own_nJ i))
theorem OEo.keep {Z : State} {h h' : Heap} {ws : List Addr} {ed px nx t : Addr} {aj : Value} (F : OEo Z h ed px nx t aj) (K : Keep h h' ws) (n0 : ed ∉ ws) (n1 : px ∉ ws) (n2 : nx ∉ ws) : OEo Z h' ed px nx t aj :=
  ⟨F.1.keep K, F.2.1.keep K n0, F.2.2.1.keep K n0, F.2.2.2.1.keep K n0, F.2.2.2.2.1.keep K n0, F.2.2.2.2.2.1.keep K n0, F.2.2.2.2.2.2.1.keep K n1, F.2.2.2.2.2.2.2.keep K n2⟩
set_option maxRecDepth 65536 in
set_option maxHeartbeats 40000000 in
theorem rmOz0 (l : Launch) (Z : State) (a0 : Array Value) (hw : ∀ d ∈ tables_1, d.before a0 Z = true) (ed : Addr) (t : Addr) (fl : Int32) (h0 : Heap) (mm : Addr) (M : Int64) (BT : OTM Z h0 t mm M) (hc : own_has M (0 : Int32) = 0) :
    OMet l Z yN4 prog_72_method_16_code 4 none (⟨2, 0, 0, 26⟩ : Room) #[(.ref ed), (.int 0), (.ref t), (.int fl)] h0 (fun v h L => v = none ∧ h = h0 ∧ L = []) := by
  refine own_enter own_pn4 ?_
  intro p e s m below meth c T0 X0 hC e0 hnamed
  have hC0 := hC
  obtain ⟨hx, hZH, hby, hml, hown, hret, hlk, hnm⟩ := hC
  have hZ := hZH.wide
  have hown : s.vm.findClass "com/example/rankfold/rankfold/summaries/BucketEditor" = some m.cls := hown
  refine own_at (own_ef4_RIRI m ed (0 : Int32) t fl) ?_
  have hd := D4.to hby
  refine pI X0 hx (hd.at 0 rfl) rfl ?_
  refine pfY X0 hx 34 (hd.at 1 rfl) ((if0 _ _).trans (teq rfl).1) ?_
  refine pA X0 hx (hd.at 2 rfl) rfl rfl ?_
  refine pI X0 hx (hd.at 3 rfl) rfl ?_
  refine pgN (own_virtual X0 hx hZ (y := yN5) (z := yN5) (rm := ⟨1, 0, 0, 13⟩) (W := 0) (a := t) (argsL := [(.int 0)]) (rest := []) hown (wd hw 69 rfl) (wd hw 70 rfl) (notFace_of_selects (args := #[]) (mvT hZ (wd hw 72 rfl))) (wd hw 72 rfl) (wd hw 71 rfl) (wd hw 42 rfl) (wd hw 73 rfl) (rmRe0 l Z a0 hw t (0 : Int32) h0 mm M BT.1 BT.2.1 BT.2.2 (by decide) hc) e0 BT.1 rfl (by rw [hml]; rfl) (lenOf own_pd10 rfl) rfl (by exact Nat.le_of_eq rfl) (hd.at 4 rfl) (by decide) (by decide) (by decide) (by decide)) fun T1 X1 e1 => ?_
  exact own_retV X1 hx hret hlk (hd.at 5 rfl) (by decide) (by decide) ⟨rfl, e1, rfl⟩
set_option maxRecDepth 65536 in
set_option maxHeartbeats 40000000 in
theorem rmOz1 (l : Launch) (Z : State) (a0 : Array Value) (hw : ∀ d ∈ tables_1, d.before a0 Z = true) (ed : Addr) (t : Addr) (fl : Int32) (h0 : Heap) (mm : Addr) (M : Int64) (nx : Addr) (fn : Nat → Int32) (BT : OTM Z h0 t mm M) (hc : own_has M (1 : Int32) = 0) (hn : fn 1 = (-1 : Int32)) (F_n : Fld Z h0 ed "com/example/rankfold/rankfold/summaries/BucketEditor" "next" "[I" (.ref nx)) (H_n : OArr Z h0 nx .int 4 (fun i => .int (fn i))) :
    OMet l Z yN4 prog_72_method_16_code 4 none (⟨2, 0, 0, 26⟩ : Room) #[(.ref ed), (.int 1), (.ref t), (.int fl)] h0 (fun v h L => v = none ∧ h = h0 ∧ L = []) := by
  refine own_enter own_pn4 ?_
  intro p e s m below meth c T0 X0 hC e0 hnamed
  have hC0 := hC
  obtain ⟨hx, hZH, hby, hml, hown, hret, hlk, hnm⟩ := hC
  have hZ := hZH.wide
  have hown : s.vm.findClass "com/example/rankfold/rankfold/summaries/BucketEditor" = some m.cls := hown
  refine own_at (own_ef4_RIRI m ed (1 : Int32) t fl) ?_
  have hd := D4.to hby
  refine pI X0 hx (hd.at 0 rfl) rfl ?_
  refine pfN X0 hx (hd.at 1 rfl) ((if0 _ _).trans (feq (by decide)).1) ?_
  refine pA X0 hx (hd.at 6 rfl) rfl rfl ?_
  refine pF X0 hx hZ hown (wd hw 38 rfl) e0 F_n (hd.at 7 rfl) fun T1 X1 e1 => ?_
  refine pI X1 hx (hd.at 8 rfl) rfl ?_
  refine rI X1 hx hZ e1 H_n 1 (.int (fn 1)) rfl (hd.at 9 rfl) ?_
  refine pC X1 hx (-1) (hd.at 10 rfl) rfl ?_
  refine pcY X1 hx 34 (hd.at 11 rfl) ((teq hn).1) ?_
  refine pA X1 hx (hd.at 2 rfl) rfl rfl ?_
  refine pI X1 hx (hd.at 3 rfl) rfl ?_
  refine pgN (own_virtual X1 hx hZ (y := yN5) (z := yN5) (rm := ⟨1, 0, 0, 13⟩) (W := 0) (a := t) (argsL := [(.int 1)]) (rest := []) hown (wd hw 69 rfl) (wd hw 70 rfl) (notFace_of_selects (args := #[]) (mvT hZ (wd hw 72 rfl))) (wd hw 72 rfl) (wd hw 71 rfl) (wd hw 42 rfl) (wd hw 73 rfl) (rmRe0 l Z a0 hw t (1 : Int32) h0 mm M BT.1 BT.2.1 BT.2.2 (by decide) hc) e1 BT.1 rfl (by rw [hml]; rfl) (lenOf own_pd10 rfl) rfl (by exact Nat.le_of_eq rfl) (hd.at 4 rfl) (by decide) (by decide) (by decide) (by decide)) fun T2 X2 e2 => ?_
  exact own_retV X2 hx hret hlk (hd.at 5 rfl) (by decide) (by decide) ⟨rfl, e2, rfl⟩
set_option maxRecDepth 65536 in
set_option maxHeartbeats 40000000 in
theorem rmOz2 (l : Launch) (Z : State) (a0 : Array Value) (hw : ∀ d ∈ tables_1, d.before a0 Z = true) (ed : Addr) (t : Addr) (fl : Int32) (h0 : Heap) (mm : Addr) (M : Int64) (nx : Addr) (fn : Nat → Int32) (BT : OTM Z h0 t mm M) (hc : own_has M (2 : Int32) = 0) (hn : fn 2 = (-1 : Int32)) (F_n : Fld Z h0 ed "com/example/rankfold/rankfold/summaries/BucketEditor" "next" "[I" (.ref nx)) (H_n : OArr Z h0 nx .int 4 (fun i => .int (fn i))) :
    OMet l Z yN4 prog_72_method_16_code 4 none (⟨2, 0, 0, 26⟩ : Room) #[(.ref ed), (.int 2), (.ref t), (.int fl)] h0 (fun v h L => v = none ∧ h = h0 ∧ L = []) := by
  refine own_enter own_pn4 ?_
  intro p e s m below meth c T0 X0 hC e0 hnamed
  have hC0 := hC
  obtain ⟨hx, hZH, hby, hml, hown, hret, hlk, hnm⟩ := hC
  have hZ := hZH.wide
  have hown : s.vm.findClass "com/example/rankfold/rankfold/summaries/BucketEditor" = some m.cls := hown
  refine own_at (own_ef4_RIRI m ed (2 : Int32) t fl) ?_
  have hd := D4.to hby
  refine pI X0 hx (hd.at 0 rfl) rfl ?_
  refine pfN X0 hx (hd.at 1 rfl) ((if0 _ _).trans (feq (by decide)).1) ?_
  refine pA X0 hx (hd.at 6 rfl) rfl rfl ?_
  refine pF X0 hx hZ hown (wd hw 38 rfl) e0 F_n (hd.at 7 rfl) fun T1 X1 e1 => ?_
  refine pI X1 hx (hd.at 8 rfl) rfl ?_
  refine rI X1 hx hZ e1 H_n 2 (.int (fn 2)) rfl (hd.at 9 rfl) ?_
  refine pC X1 hx (-1) (hd.at 10 rfl) rfl ?_
  refine pcY X1 hx 34 (hd.at 11 rfl) ((teq hn).1) ?_
  refine pA X1 hx (hd.at 2 rfl) rfl rfl ?_
  refine pI X1 hx (hd.at 3 rfl) rfl ?_
  refine pgN (own_virtual X1 hx hZ (y := yN5) (z := yN5) (rm := ⟨1, 0, 0, 13⟩) (W := 0) (a := t) (argsL := [(.int 2)]) (rest := []) hown (wd hw 69 rfl) (wd hw 70 rfl) (notFace_of_selects (args := #[]) (mvT hZ (wd hw 72 rfl))) (wd hw 72 rfl) (wd hw 71 rfl) (wd hw 42 rfl) (wd hw 73 rfl) (rmRe0 l Z a0 hw t (2 : Int32) h0 mm M BT.1 BT.2.1 BT.2.2 (by decide) hc) e1 BT.1 rfl (by rw [hml]; rfl) (lenOf own_pd10 rfl) rfl (by exact Nat.le_of_eq rfl) (hd.at 4 rfl) (by decide) (by decide) (by decide) (by decide)) fun T2 X2 e2 => ?_
  exact own_retV X2 hx hret hlk (hd.at 5 rfl) (by decide) (by decide) ⟨rfl, e2, rfl⟩
set_option maxRecDepth 65536 in
set_option maxHeartbeats 40000000 in
theorem rmOz3 (l : Launch) (Z : State) (a0 : Array Value) (hw : ∀ d ∈ tables_1, d.before a0 Z = true) (ed : Addr) (t : Addr) (fl : Int32) (h0 : Heap) (mm : Addr) (M : Int64) (nx : Addr) (fn : Nat → Int32) (BT : OTM Z h0 t mm M) (hc : own_has M (3 : Int32) = 0) (hn : fn 3 = (-1 : Int32)) (F_n : Fld Z h0 ed "com/example/rankfold/rankfold/summaries/BucketEditor" "next" "[I" (.ref nx)) (H_n : OArr Z h0 nx .int 4 (fun i => .int (fn i))) :
    OMet l Z yN4 prog_72_method_16_code 4 none (⟨2, 0, 0, 26⟩ : Room) #[(.ref ed), (.int 3), (.ref t), (.int fl)] h0 (fun v h L => v = none ∧ h = h0 ∧ L = []) := by
  refine own_enter own_pn4 ?_
  intro p e s m below meth c T0 X0 hC e0 hnamed
  have hC0 := hC
  obtain ⟨hx, hZH, hby, hml, hown, hret, hlk, hnm⟩ := hC
  have hZ := hZH.wide
  have hown : s.vm.findClass "com/example/rankfold/rankfold/summaries/BucketEditor" = some m.cls := hown
  refine own_at (own_ef4_RIRI m ed (3 : Int32) t fl) ?_
  have hd := D4.to hby
  refine pI X0 hx (hd.at 0 rfl) rfl ?_
  refine pfN X0 hx (hd.at 1 rfl) ((if0 _ _).trans (feq (by decide)).1) ?_
  refine pA X0 hx (hd.at 6 rfl) rfl rfl ?_
  refine pF X0 hx hZ hown (wd hw 38 rfl) e0 F_n (hd.at 7 rfl) fun T1 X1 e1 => ?_
  refine pI X1 hx (hd.at 8 rfl) rfl ?_
  refine rI X1 hx hZ e1 H_n 3 (.int (fn 3)) rfl (hd.at 9 rfl) ?_
  refine pC X1 hx (-1) (hd.at 10 rfl) rfl ?_
  refine pcY X1 hx 34 (hd.at 11 rfl) ((teq hn).1) ?_
  refine pA X1 hx (hd.at 2 rfl) rfl rfl ?_
  refine pI X1 hx (hd.at 3 rfl) rfl ?_
  refine pgN (own_virtual X1 hx hZ (y := yN5) (z := yN5) (rm := ⟨1, 0, 0, 13⟩) (W := 0) (a := t) (argsL := [(.int 3)]) (rest := []) hown (wd hw 69 rfl) (wd hw 70 rfl) (notFace_of_selects (args := #[]) (mvT hZ (wd hw 72 rfl))) (wd hw 72 rfl) (wd hw 71 rfl) (wd hw 42 rfl) (wd hw 73 rfl) (rmRe0 l Z a0 hw t (3 : Int32) h0 mm M BT.1 BT.2.1 BT.2.2 (by decide) hc) e1 BT.1 rfl (by rw [hml]; rfl) (lenOf own_pd10 rfl) rfl (by exact Nat.le_of_eq rfl) (hd.at 4 rfl) (by decide) (by decide) (by decide) (by decide)) fun T2 X2 e2 => ?_
  exact own_retV X2 hx hret hlk (hd.at 5 rfl) (by decide) (by decide) ⟨rfl, e2, rfl⟩
set_option maxRecDepth 65536 in
set_option maxHeartbeats 40000000 in
theorem rmOj310_1 (l : Launch) (Z : State) (a0 : Array Value) (hw : ∀ d ∈ tables_1, d.before a0 Z = true) (ed : Addr) (t : Addr) (h0 : Heap) (n0 : Nat) (mm k1 k2 : Addr) (sz : Int32) (u ct gd px nx : Addr) (fu fc : Nat → UInt64) (fg : Nat → Int32) (nd : UInt64) (B : ORd Z h0 ed u ct gd px nx fu fc fg own_p3 own_n3 nd) (hU : OUp fu) (hN : OCn fc) (hD : Mag64 1088 nd) (BT : OT0 Z h0 t mm k1 k2 ed 0 sz) (hS : OOrd n0 [t, mm, k1, k2]) :
    OMet l Z yN4 prog_72_method_16_code 4 none (⟨2, 0, 0, 33⟩ : Room) #[(.ref ed), (.int 1), (.ref t), (.int 1)] h0 (fun v h L => v = none ∧ Fr n0 L ∧ Keep h0 h [t, mm] ∧ ∃ M' sz', (M' = 0 ∨ M' = 2) ∧ OT0 Z h t mm k1 k2 ed M' sz') := by
  refine own_enter own_pn4 ?_
  intro p e s m below meth c T0 X0 hC e0 hnamed
  have hC0 := hC
  obtain ⟨hx, hZH, hby, hml, hown, hret, hlk, hnm⟩ := hC
  have hZ := hZH.wide
  have hown : s.vm.findClass "com/example/rankfold/rankfold/summaries/BucketEditor" = some m.cls := hown
  refine own_at (own_ef4_RIRI m ed (1 : Int32) t (1 : Int32)) ?_
  have hd := D4.to hby
  have N0 := Fr.nil n0
  have kp0 := Keep.refl h0 [t, mm]
  obtain ⟨u1, u2, u3, u4, u5, u6, u7, u8, u9, u10, u11, u12, u13, u14, u15⟩ := id B
  refine pI X0 hx (hd.at 0 rfl) rfl ?_
  refine pfN X0 hx (hd.at 1 rfl) ((if0 _ _).trans (feq (by decide)).1) ?_
  refine pA X0 hx (hd.at 6 rfl) rfl rfl ?_
  refine pF X0 hx hZ hown (wd hw 38 rfl) e0 u6 (hd.at 7 rfl) fun T16 X16 e16 => ?_
  refine pI X16 hx (hd.at 8 rfl) rfl ?_
  refine rI X16 hx hZ e16 u15 1 (.int 2) rfl (hd.at 9 rfl) ?_
  refine pC X16 hx (-1) (hd.at 10 rfl) rfl ?_
  refine pcN X16 hx (hd.at 11 rfl) ((feq (by decide)).1) ?_
  refine pI X16 hx (hd.at 12 rfl) rfl ?_
  refine pfN X16 hx (hd.at 13 rfl) ((if0 _ _).trans (feq (by decide)).1) ?_
  refine pA X16 hx (hd.at 14 rfl) rfl rfl ?_
  refine pI X16 hx (hd.at 15 rfl) rfl ?_
  refine pgF (own_private X16 hx hZ (y := yN13) (rm := ⟨1, 0, 0, 20⟩) (W := 0) (a := ed) (argsL := [(.int 1)]) (rest := []) hown (wd hw 113 rfl) (wd hw 114 rfl) (wd hw 115 rfl) (wd hw 107 rfl) rfl (wd hw 7 rfl) (wd hw 116 rfl) (rmIJ31 l Z a0 hw ed h0 u ct gd px nx fu fc fg nd B hU hN hD) e16 u1 rfl (by rw [hml]; rfl) (lenOf own_pd3 rfl) rfl (by exact Nat.le_of_eq rfl) (hd.at 16 rfl) (by decide) (by decide) (by decide) (by decide)) fun rv17 T18 X18 e18 => ?_
  by_cases c1 : rv17 = (0 : Int32)
  · refine pfY X18 hx 34 (hd.at 17 rfl) ((if0 _ _).trans (teq c1).1) ?_
    obtain ⟨u19, u20, u21, u22, u23, u24, u25, u26, u27, u28, u29, u30, u31, u32⟩ := id BT
    refine pA X18 hx (hd.at 2 rfl) rfl rfl ?_
    refine pI X18 hx (hd.at 3 rfl) rfl ?_
    refine pgN (own_virtual X18 hx hZ (y := yN5) (z := yN5) (rm := ⟨1, 0, 0, 13⟩) (W := 0) (a := t) (argsL := [(.int 1)]) (rest := []) hown (wd hw 69 rfl) (wd hw 70 rfl) (notFace_of_selects (args := #[]) (mvT hZ (wd hw 72 rfl))) (wd hw 72 rfl) (wd hw 71 rfl) (wd hw 42 rfl) (wd hw 73 rfl) (rmRe0 l Z a0 hw t (1 : Int32) h0 mm (0 : Int64) u19 u24 u30 (by decide) (by decide)) e18 u19 rfl (by rw [hml]; rfl) (lenOf own_pd10 rfl) rfl (by exact Nat.le_of_eq rfl) (hd.at 4 rfl) (by decide) (by decide) (by decide) (by decide)) fun T33 X33 e33 => ?_
    exact own_retV X33 hx hret hlk (hd.at 5 rfl) (by decide) (by decide) (by show _ ∧ _ ∧ Keep h0 T33.heap _ ∧ _; rw [e33]; exact ⟨rfl, N0, kp0, _, _, Or.inl rfl, BT⟩)
  · refine pfN X18 hx (hd.at 17 rfl) ((if0 _ _).trans (feq c1).1) ?_
    obtain ⟨u34, u35, u36, u37, u38, u39, u40, u41, u42, u43, u44, u45, u46, u47⟩ := id BT
    refine pA X18 hx (hd.at 18 rfl) rfl rfl ?_
    refine pI X18 hx (hd.at 19 rfl) rfl ?_
    refine pgV (own_virtual X18 hx hZ (y := yN15) (z := yN15) (rm := ⟨1, 0, 0, 20⟩) (W := 0) (a := t) (argsL := [(.int 1)]) (rest := []) hown (wd hw 122 rfl) (wd hw 123 rfl) (notFace_of_selects (args := #[]) (mvT hZ (wd hw 125 rfl))) (wd hw 125 rfl) (wd hw 124 rfl) (wd hw 42 rfl) (wd hw 126 rfl) (rmPut l Z a0 hw t (1 : Int32) h0 n0 mm k1 k2 ed 0 sz BT hS (by decide) (by decide)) e18 u34 rfl (by rw [hml]; rfl) (lenOf own_pd10 rfl) rfl (by exact Nat.le_of_eq rfl) (hd.at 20 rfl) (by decide) (by decide) (by decide) (by decide)) fun T48 L48 X48 hQ48 => ?_
    obtain ⟨N48, K48, BB48_0⟩ := hQ48
    have fr48 := Fr.app N0 N48
    have kp48 := kp0.trans K48 (allS (Or.inl (List.mem_of_getElem? (i := 0) rfl)) (allS (Or.inl (List.mem_of_getElem? (i := 1) rfl)) all0))
    replace u34 := u34.keep K48
    have f49 := BB48_0
    rw [show ((0 : Int64) ||| ((1 : Int64) <<< ((1 : Int32) &&& 0x3f).toInt64)) = (2 : Int64) from by decide] at f49
    refine pG X48 hx 39 (hd.at 21 rfl) ?_
    exact own_retV X48 hx hret hlk (hd.at 5 rfl) (by decide) (by decide) (by show _ ∧ _ ∧ Keep h0 T48.heap _ ∧ _; exact ⟨rfl, fr48, kp48, _, _, Or.inr rfl, f49⟩)
set_option maxRecDepth 65536 in
set_option maxHeartbeats 40000000 in
theorem rmOj410_1 (l : Launch) (Z : State) (a0 : Array Value) (hw : ∀ d ∈ tables_1, d.before a0 Z = true) (ed : Addr) (t : Addr) (h0 : Heap) (n0 : Nat) (mm k1 k2 : Addr) (sz : Int32) (u ct gd px nx : Addr) (fu fc : Nat → UInt64) (fg : Nat → Int32) (nd : UInt64) (B : ORd Z h0 ed u ct gd px nx fu fc fg own_p4 own_n4 nd) (hU : OUp fu) (hN : OCn fc) (hD : Mag64 1088 nd) (BT : OT0 Z h0 t mm k1 k2 ed 0 sz) (hS : OOrd n0 [t, mm, k1, k2]) :
    OMet l Z yN4 prog_72_method_16_code 4 none (⟨2, 0, 0, 33⟩ : Room) #[(.ref ed), (.int 1), (.ref t), (.int 1)] h0 (fun v h L => v = none ∧ Fr n0 L ∧ Keep h0 h [t, mm] ∧ ∃ M' sz', (M' = 0 ∨ M' = 2) ∧ OT0 Z h t mm k1 k2 ed M' sz') := by
  refine own_enter own_pn4 ?_
  intro p e s m below meth c T0 X0 hC e0 hnamed
  have hC0 := hC
  obtain ⟨hx, hZH, hby, hml, hown, hret, hlk, hnm⟩ := hC
  have hZ := hZH.wide
  have hown : s.vm.findClass "com/example/rankfold/rankfold/summaries/BucketEditor" = some m.cls := hown
  refine own_at (own_ef4_RIRI m ed (1 : Int32) t (1 : Int32)) ?_
  have hd := D4.to hby
  have N0 := Fr.nil n0
  have kp0 := Keep.refl h0 [t, mm]
  obtain ⟨u1, u2, u3, u4, u5, u6, u7, u8, u9, u10, u11, u12, u13, u14, u15⟩ := id B
  refine pI X0 hx (hd.at 0 rfl) rfl ?_
  refine pfN X0 hx (hd.at 1 rfl) ((if0 _ _).trans (feq (by decide)).1) ?_
  refine pA X0 hx (hd.at 6 rfl) rfl rfl ?_
  refine pF X0 hx hZ hown (wd hw 38 rfl) e0 u6 (hd.at 7 rfl) fun T16 X16 e16 => ?_
  refine pI X16 hx (hd.at 8 rfl) rfl ?_
  refine rI X16 hx hZ e16 u15 1 (.int 2) rfl (hd.at 9 rfl) ?_
  refine pC X16 hx (-1) (hd.at 10 rfl) rfl ?_
  refine pcN X16 hx (hd.at 11 rfl) ((feq (by decide)).1) ?_
  refine pI X16 hx (hd.at 12 rfl) rfl ?_
  refine pfN X16 hx (hd.at 13 rfl) ((if0 _ _).trans (feq (by decide)).1) ?_
  refine pA X16 hx (hd.at 14 rfl) rfl rfl ?_
  refine pI X16 hx (hd.at 15 rfl) rfl ?_
  refine pgF (own_private X16 hx hZ (y := yN13) (rm := ⟨1, 0, 0, 20⟩) (W := 0) (a := ed) (argsL := [(.int 1)]) (rest := []) hown (wd hw 113 rfl) (wd hw 114 rfl) (wd hw 115 rfl) (wd hw 107 rfl) rfl (wd hw 7 rfl) (wd hw 116 rfl) (rmIJ41 l Z a0 hw ed h0 u ct gd px nx fu fc fg nd B hU hN hD) e16 u1 rfl (by rw [hml]; rfl) (lenOf own_pd3 rfl) rfl (by exact Nat.le_of_eq rfl) (hd.at 16 rfl) (by decide) (by decide) (by decide) (by decide)) fun rv17 T18 X18 e18 => ?_
  by_cases c1 : rv17 = (0 : Int32)
  · refine pfY X18 hx 34 (hd.at 17 rfl) ((if0 _ _).trans (teq c1).1) ?_
    obtain ⟨u19, u20, u21, u22, u23, u24, u25, u26, u27, u28, u29, u30, u31, u32⟩ := id BT
    refine pA X18 hx (hd.at 2 rfl) rfl rfl ?_
    refine pI X18 hx (hd.at 3 rfl) rfl ?_
    refine pgN (own_virtual X18 hx hZ (y := yN5) (z := yN5) (rm := ⟨1, 0, 0, 13⟩) (W := 0) (a := t) (argsL := [(.int 1)]) (rest := []) hown (wd hw 69 rfl) (wd hw 70 rfl) (notFace_of_selects (args := #[]) (mvT hZ (wd hw 72 rfl))) (wd hw 72 rfl) (wd hw 71 rfl) (wd hw 42 rfl) (wd hw 73 rfl) (rmRe0 l Z a0 hw t (1 : Int32) h0 mm (0 : Int64) u19 u24 u30 (by decide) (by decide)) e18 u19 rfl (by rw [hml]; rfl) (lenOf own_pd10 rfl) rfl (by exact Nat.le_of_eq rfl) (hd.at 4 rfl) (by decide) (by decide) (by decide) (by decide)) fun T33 X33 e33 => ?_
    exact own_retV X33 hx hret hlk (hd.at 5 rfl) (by decide) (by decide) (by show _ ∧ _ ∧ Keep h0 T33.heap _ ∧ _; rw [e33]; exact ⟨rfl, N0, kp0, _, _, Or.inl rfl, BT⟩)
  · refine pfN X18 hx (hd.at 17 rfl) ((if0 _ _).trans (feq c1).1) ?_
    obtain ⟨u34, u35, u36, u37, u38, u39, u40, u41, u42, u43, u44, u45, u46, u47⟩ := id BT
    refine pA X18 hx (hd.at 18 rfl) rfl rfl ?_
    refine pI X18 hx (hd.at 19 rfl) rfl ?_
    refine pgV (own_virtual X18 hx hZ (y := yN15) (z := yN15) (rm := ⟨1, 0, 0, 20⟩) (W := 0) (a := t) (argsL := [(.int 1)]) (rest := []) hown (wd hw 122 rfl) (wd hw 123 rfl) (notFace_of_selects (args := #[]) (mvT hZ (wd hw 125 rfl))) (wd hw 125 rfl) (wd hw 124 rfl) (wd hw 42 rfl) (wd hw 126 rfl) (rmPut l Z a0 hw t (1 : Int32) h0 n0 mm k1 k2 ed 0 sz BT hS (by decide) (by decide)) e18 u34 rfl (by rw [hml]; rfl) (lenOf own_pd10 rfl) rfl (by exact Nat.le_of_eq rfl) (hd.at 20 rfl) (by decide) (by decide) (by decide) (by decide)) fun T48 L48 X48 hQ48 => ?_
    obtain ⟨N48, K48, BB48_0⟩ := hQ48
    have fr48 := Fr.app N0 N48
    have kp48 := kp0.trans K48 (allS (Or.inl (List.mem_of_getElem? (i := 0) rfl)) (allS (Or.inl (List.mem_of_getElem? (i := 1) rfl)) all0))
    replace u34 := u34.keep K48
    have f49 := BB48_0
    rw [show ((0 : Int64) ||| ((1 : Int64) <<< ((1 : Int32) &&& 0x3f).toInt64)) = (2 : Int64) from by decide] at f49
    refine pG X48 hx 39 (hd.at 21 rfl) ?_
    exact own_retV X48 hx hret hlk (hd.at 5 rfl) (by decide) (by decide) (by show _ ∧ _ ∧ Keep h0 T48.heap _ ∧ _; exact ⟨rfl, fr48, kp48, _, _, Or.inr rfl, f49⟩)
set_option maxRecDepth 65536 in
set_option maxHeartbeats 40000000 in
theorem rmOj420_1 (l : Launch) (Z : State) (a0 : Array Value) (hw : ∀ d ∈ tables_1, d.before a0 Z = true) (ed : Addr) (t : Addr) (h0 : Heap) (n0 : Nat) (mm k1 k2 : Addr) (sz : Int32) (u ct gd px nx : Addr) (fu fc : Nat → UInt64) (fg : Nat → Int32) (nd : UInt64) (B : ORd Z h0 ed u ct gd px nx fu fc fg own_p4 own_n4 nd) (hU : OUp fu) (hN : OCn fc) (hD : Mag64 1088 nd) (BT : OT0 Z h0 t mm k1 k2 ed 0 sz) (hS : OOrd n0 [t, mm, k1, k2]) :
    OMet l Z yN4 prog_72_method_16_code 4 none (⟨2, 0, 0, 33⟩ : Room) #[(.ref ed), (.int 2), (.ref t), (.int 1)] h0 (fun v h L => v = none ∧ Fr n0 L ∧ Keep h0 h [t, mm] ∧ ∃ M' sz', (M' = 0 ∨ M' = 4) ∧ OT0 Z h t mm k1 k2 ed M' sz') := by
  refine own_enter own_pn4 ?_
  intro p e s m below meth c T0 X0 hC e0 hnamed
  have hC0 := hC
  obtain ⟨hx, hZH, hby, hml, hown, hret, hlk, hnm⟩ := hC
  have hZ := hZH.wide
  have hown : s.vm.findClass "com/example/rankfold/rankfold/summaries/BucketEditor" = some m.cls := hown
  refine own_at (own_ef4_RIRI m ed (2 : Int32) t (1 : Int32)) ?_
  have hd := D4.to hby
  have N0 := Fr.nil n0
  have kp0 := Keep.refl h0 [t, mm]
  obtain ⟨u1, u2, u3, u4, u5, u6, u7, u8, u9, u10, u11, u12, u13, u14, u15⟩ := id B
  refine pI X0 hx (hd.at 0 rfl) rfl ?_
  refine pfN X0 hx (hd.at 1 rfl) ((if0 _ _).trans (feq (by decide)).1) ?_
  refine pA X0 hx (hd.at 6 rfl) rfl rfl ?_
  refine pF X0 hx hZ hown (wd hw 38 rfl) e0 u6 (hd.at 7 rfl) fun T16 X16 e16 => ?_
  refine pI X16 hx (hd.at 8 rfl) rfl ?_
  refine rI X16 hx hZ e16 u15 2 (.int 3) rfl (hd.at 9 rfl) ?_
  refine pC X16 hx (-1) (hd.at 10 rfl) rfl ?_
  refine pcN X16 hx (hd.at 11 rfl) ((feq (by decide)).1) ?_
  refine pI X16 hx (hd.at 12 rfl) rfl ?_
  refine pfN X16 hx (hd.at 13 rfl) ((if0 _ _).trans (feq (by decide)).1) ?_
  refine pA X16 hx (hd.at 14 rfl) rfl rfl ?_
  refine pI X16 hx (hd.at 15 rfl) rfl ?_
  refine pgF (own_private X16 hx hZ (y := yN13) (rm := ⟨1, 0, 0, 20⟩) (W := 0) (a := ed) (argsL := [(.int 2)]) (rest := []) hown (wd hw 113 rfl) (wd hw 114 rfl) (wd hw 115 rfl) (wd hw 107 rfl) rfl (wd hw 7 rfl) (wd hw 116 rfl) (rmIJ42 l Z a0 hw ed h0 u ct gd px nx fu fc fg nd B hU hN hD) e16 u1 rfl (by rw [hml]; rfl) (lenOf own_pd3 rfl) rfl (by exact Nat.le_of_eq rfl) (hd.at 16 rfl) (by decide) (by decide) (by decide) (by decide)) fun rv17 T18 X18 e18 => ?_
  by_cases c1 : rv17 = (0 : Int32)
  · refine pfY X18 hx 34 (hd.at 17 rfl) ((if0 _ _).trans (teq c1).1) ?_
    obtain ⟨u19, u20, u21, u22, u23, u24, u25, u26, u27, u28, u29, u30, u31, u32⟩ := id BT
    refine pA X18 hx (hd.at 2 rfl) rfl rfl ?_
    refine pI X18 hx (hd.at 3 rfl) rfl ?_
    refine pgN (own_virtual X18 hx hZ (y := yN5) (z := yN5) (rm := ⟨1, 0, 0, 13⟩) (W := 0) (a := t) (argsL := [(.int 2)]) (rest := []) hown (wd hw 69 rfl) (wd hw 70 rfl) (notFace_of_selects (args := #[]) (mvT hZ (wd hw 72 rfl))) (wd hw 72 rfl) (wd hw 71 rfl) (wd hw 42 rfl) (wd hw 73 rfl) (rmRe0 l Z a0 hw t (2 : Int32) h0 mm (0 : Int64) u19 u24 u30 (by decide) (by decide)) e18 u19 rfl (by rw [hml]; rfl) (lenOf own_pd10 rfl) rfl (by exact Nat.le_of_eq rfl) (hd.at 4 rfl) (by decide) (by decide) (by decide) (by decide)) fun T33 X33 e33 => ?_
    exact own_retV X33 hx hret hlk (hd.at 5 rfl) (by decide) (by decide) (by show _ ∧ _ ∧ Keep h0 T33.heap _ ∧ _; rw [e33]; exact ⟨rfl, N0, kp0, _, _, Or.inl rfl, BT⟩)
  · refine pfN X18 hx (hd.at 17 rfl) ((if0 _ _).trans (feq c1).1) ?_
    obtain ⟨u34, u35, u36, u37, u38, u39, u40, u41, u42, u43, u44, u45, u46, u47⟩ := id BT
    refine pA X18 hx (hd.at 18 rfl) rfl rfl ?_
    refine pI X18 hx (hd.at 19 rfl) rfl ?_
    refine pgV (own_virtual X18 hx hZ (y := yN15) (z := yN15) (rm := ⟨1, 0, 0, 20⟩) (W := 0) (a := t) (argsL := [(.int 2)]) (rest := []) hown (wd hw 122 rfl) (wd hw 123 rfl) (notFace_of_selects (args := #[]) (mvT hZ (wd hw 125 rfl))) (wd hw 125 rfl) (wd hw 124 rfl) (wd hw 42 rfl) (wd hw 126 rfl) (rmPut l Z a0 hw t (2 : Int32) h0 n0 mm k1 k2 ed 0 sz BT hS (by decide) (by decide)) e18 u34 rfl (by rw [hml]; rfl) (lenOf own_pd10 rfl) rfl (by exact Nat.le_of_eq rfl) (hd.at 20 rfl) (by decide) (by decide) (by decide) (by decide)) fun T48 L48 X48 hQ48 => ?_
    obtain ⟨N48, K48, BB48_0⟩ := hQ48
    have fr48 := Fr.app N0 N48
    have kp48 := kp0.trans K48 (allS (Or.inl (List.mem_of_getElem? (i := 0) rfl)) (allS (Or.inl (List.mem_of_getElem? (i := 1) rfl)) all0))
    replace u34 := u34.keep K48
    have f49 := BB48_0
    rw [show ((0 : Int64) ||| ((1 : Int64) <<< ((2 : Int32) &&& 0x3f).toInt64)) = (4 : Int64) from by decide] at f49
    refine pG X48 hx 39 (hd.at 21 rfl) ?_
    exact own_retV X48 hx hret hlk (hd.at 5 rfl) (by decide) (by decide) (by show _ ∧ _ ∧ Keep h0 T48.heap _ ∧ _; exact ⟨rfl, fr48, kp48, _, _, Or.inr rfl, f49⟩)
set_option maxRecDepth 65536 in
set_option maxHeartbeats 40000000 in
theorem rmOj422_1 (l : Launch) (Z : State) (a0 : Array Value) (hw : ∀ d ∈ tables_1, d.before a0 Z = true) (ed : Addr) (t : Addr) (h0 : Heap) (n0 : Nat) (mm k1 k2 : Addr) (sz : Int32) (u ct gd px nx : Addr) (fu fc : Nat → UInt64) (fg : Nat → Int32) (nd : UInt64) (B : ORd Z h0 ed u ct gd px nx fu fc fg own_p4 own_n4 nd) (hU : OUp fu) (hN : OCn fc) (hD : Mag64 1088 nd) (BT : OT0 Z h0 t mm k1 k2 ed 2 sz) (hS : OOrd n0 [t, mm, k1, k2]) :
    OMet l Z yN4 prog_72_method_16_code 4 none (⟨2, 0, 0, 33⟩ : Room) #[(.ref ed), (.int 2), (.ref t), (.int 1)] h0 (fun v h L => v = none ∧ Fr n0 L ∧ Keep h0 h [t, mm] ∧ ∃ M' sz', (M' = 2 ∨ M' = 6) ∧ OT0 Z h t mm k1 k2 ed M' sz') := by
  refine own_enter own_pn4 ?_
  intro p e s m below meth c T0 X0 hC e0 hnamed
  have hC0 := hC
  obtain ⟨hx, hZH, hby, hml, hown, hret, hlk, hnm⟩ := hC
  have hZ := hZH.wide
  have hown : s.vm.findClass "com/example/rankfold/rankfold/summaries/BucketEditor" = some m.cls := hown
  refine own_at (own_ef4_RIRI m ed (2 : Int32) t (1 : Int32)) ?_
  have hd := D4.to hby
  have N0 := Fr.nil n0
  have kp0 := Keep.refl h0 [t, mm]
  obtain ⟨u1, u2, u3, u4, u5, u6, u7, u8, u9, u10, u11, u12, u13, u14, u15⟩ := id B
  refine pI X0 hx (hd.at 0 rfl) rfl ?_
  refine pfN X0 hx (hd.at 1 rfl) ((if0 _ _).trans (feq (by decide)).1) ?_
  refine pA X0 hx (hd.at 6 rfl) rfl rfl ?_
  refine pF X0 hx hZ hown (wd hw 38 rfl) e0 u6 (hd.at 7 rfl) fun T16 X16 e16 => ?_
  refine pI X16 hx (hd.at 8 rfl) rfl ?_
  refine rI X16 hx hZ e16 u15 2 (.int 3) rfl (hd.at 9 rfl) ?_
  refine pC X16 hx (-1) (hd.at 10 rfl) rfl ?_
  refine pcN X16 hx (hd.at 11 rfl) ((feq (by decide)).1) ?_
  refine pI X16 hx (hd.at 12 rfl) rfl ?_
  refine pfN X16 hx (hd.at 13 rfl) ((if0 _ _).trans (feq (by decide)).1) ?_
  refine pA X16 hx (hd.at 14 rfl) rfl rfl ?_
  refine pI X16 hx (hd.at 15 rfl) rfl ?_
  refine pgF (own_private X16 hx hZ (y := yN13) (rm := ⟨1, 0, 0, 20⟩) (W := 0) (a := ed) (argsL := [(.int 2)]) (rest := []) hown (wd hw 113 rfl) (wd hw 114 rfl) (wd hw 115 rfl) (wd hw 107 rfl) rfl (wd hw 7 rfl) (wd hw 116 rfl) (rmIJ42 l Z a0 hw ed h0 u ct gd px nx fu fc fg nd B hU hN hD) e16 u1 rfl (by rw [hml]; rfl) (lenOf own_pd3 rfl) rfl (by exact Nat.le_of_eq rfl) (hd.at 16 rfl) (by decide) (by decide) (by decide) (by decide)) fun rv17 T18 X18 e18 => ?_
  by_cases c1 : rv17 = (0 : Int32)
  · refine pfY X18 hx 34 (hd.at 17 rfl) ((if0 _ _).trans (teq c1).1) ?_
    obtain ⟨u19, u20, u21, u22, u23, u24, u25, u26, u27, u28, u29, u30, u31, u32⟩ := id BT
    refine pA X18 hx (hd.at 2 rfl) rfl rfl ?_
    refine pI X18 hx (hd.at 3 rfl) rfl ?_
    refine pgN (own_virtual X18 hx hZ (y := yN5) (z := yN5) (rm := ⟨1, 0, 0, 13⟩) (W := 0) (a := t) (argsL := [(.int 2)]) (rest := []) hown (wd hw 69 rfl) (wd hw 70 rfl) (notFace_of_selects (args := #[]) (mvT hZ (wd hw 72 rfl))) (wd hw 72 rfl) (wd hw 71 rfl) (wd hw 42 rfl) (wd hw 73 rfl) (rmRe0 l Z a0 hw t (2 : Int32) h0 mm (2 : Int64) u19 u24 u30 (by decide) (by decide)) e18 u19 rfl (by rw [hml]; rfl) (lenOf own_pd10 rfl) rfl (by exact Nat.le_of_eq rfl) (hd.at 4 rfl) (by decide) (by decide) (by decide) (by decide)) fun T33 X33 e33 => ?_
    exact own_retV X33 hx hret hlk (hd.at 5 rfl) (by decide) (by decide) (by show _ ∧ _ ∧ Keep h0 T33.heap _ ∧ _; rw [e33]; exact ⟨rfl, N0, kp0, _, _, Or.inl rfl, BT⟩)
  · refine pfN X18 hx (hd.at 17 rfl) ((if0 _ _).trans (feq c1).1) ?_
    obtain ⟨u34, u35, u36, u37, u38, u39, u40, u41, u42, u43, u44, u45, u46, u47⟩ := id BT
    refine pA X18 hx (hd.at 18 rfl) rfl rfl ?_
    refine pI X18 hx (hd.at 19 rfl) rfl ?_
    refine pgV (own_virtual X18 hx hZ (y := yN15) (z := yN15) (rm := ⟨1, 0, 0, 20⟩) (W := 0) (a := t) (argsL := [(.int 2)]) (rest := []) hown (wd hw 122 rfl) (wd hw 123 rfl) (notFace_of_selects (args := #[]) (mvT hZ (wd hw 125 rfl))) (wd hw 125 rfl) (wd hw 124 rfl) (wd hw 42 rfl) (wd hw 126 rfl) (rmPut l Z a0 hw t (2 : Int32) h0 n0 mm k1 k2 ed 2 sz BT hS (by decide) (by decide)) e18 u34 rfl (by rw [hml]; rfl) (lenOf own_pd10 rfl) rfl (by exact Nat.le_of_eq rfl) (hd.at 20 rfl) (by decide) (by decide) (by decide) (by decide)) fun T48 L48 X48 hQ48 => ?_
    obtain ⟨N48, K48, BB48_0⟩ := hQ48
    have fr48 := Fr.app N0 N48
    have kp48 := kp0.trans K48 (allS (Or.inl (List.mem_of_getElem? (i := 0) rfl)) (allS (Or.inl (List.mem_of_getElem? (i := 1) rfl)) all0))
    replace u34 := u34.keep K48
    have f49 := BB48_0
    rw [show ((2 : Int64) ||| ((1 : Int64) <<< ((2 : Int32) &&& 0x3f).toInt64)) = (6 : Int64) from by decide] at f49
    refine pG X48 hx 39 (hd.at 21 rfl) ?_
    exact own_retV X48 hx hret hlk (hd.at 5 rfl) (by decide) (by decide) (by show _ ∧ _ ∧ Keep h0 T48.heap _ ∧ _; exact ⟨rfl, fr48, kp48, _, _, Or.inr rfl, f49⟩)
set_option maxRecDepth 65536 in
set_option maxHeartbeats 40000000 in
theorem rmOj310_0 (l : Launch) (Z : State) (a0 : Array Value) (hw : ∀ d ∈ tables_1, d.before a0 Z = true) (ed : Addr) (t : Addr) (h0 : Heap) (n0 : Nat) (mm k1 k2 : Addr) (sz : Int32) (u ct gd px nx : Addr) (fu fc : Nat → UInt64) (fg : Nat → Int32) (nd : UInt64) (B : ORd Z h0 ed u ct gd px nx fu fc fg own_p3 own_n3 nd) (hU : OUp fu) (hN : OCn fc) (hD : Mag64 1088 nd) (BT : OT0 Z h0 t mm k1 k2 ed 0 sz) (hS : OOrd n0 [t, mm, k1, k2]) :
    OMet l Z yN4 prog_72_method_16_code 4 none (⟨2, 0, 0, 33⟩ : Room) #[(.ref ed), (.int 1), (.ref t), (.int 0)] h0 (fun v h L => v = none ∧ Fr n0 L ∧ Keep h0 h [t, mm] ∧ ∃ M' sz', M' = 2 ∧ OT0 Z h t mm k1 k2 ed M' sz') := by
  refine own_enter own_pn4 ?_
  intro p e s m below meth c T0 X0 hC e0 hnamed
  have hC0 := hC
  obtain ⟨hx, hZH, hby, hml, hown, hret, hlk, hnm⟩ := hC
  have hZ := hZH.wide
  have hown : s.vm.findClass "com/example/rankfold/rankfold/summaries/BucketEditor" = some m.cls := hown
  refine own_at (own_ef4_RIRI m ed (1 : Int32) t (0 : Int32)) ?_
  have hd := D4.to hby
  have N0 := Fr.nil n0
  have kp0 := Keep.refl h0 [t, mm]
  obtain ⟨u1, u2, u3, u4, u5, u6, u7, u8, u9, u10, u11, u12, u13, u14, u15⟩ := id B
  refine pI X0 hx (hd.at 0 rfl) rfl ?_
  refine pfN X0 hx (hd.at 1 rfl) ((if0 _ _).trans (feq (by decide)).1) ?_
  refine pA X0 hx (hd.at 6 rfl) rfl rfl ?_
  refine pF X0 hx hZ hown (wd hw 38 rfl) e0 u6 (hd.at 7 rfl) fun T16 X16 e16 => ?_
  refine pI X16 hx (hd.at 8 rfl) rfl ?_
  refine rI X16 hx hZ e16 u15 1 (.int 2) rfl (hd.at 9 rfl) ?_
  refine pC X16 hx (-1) (hd.at 10 rfl) rfl ?_
  refine pcN X16 hx (hd.at 11 rfl) ((feq (by decide)).1) ?_
  refine pI X16 hx (hd.at 12 rfl) rfl ?_
  refine pfY X16 hx 26 (hd.at 13 rfl) ((if0 _ _).trans (teq rfl).1) ?_
  obtain ⟨u17, u18, u19, u20, u21, u22, u23, u24, u25, u26, u27, u28, u29, u30⟩ := id BT
  refine pA X16 hx (hd.at 18 rfl) rfl rfl ?_
  refine pI X16 hx (hd.at 19 rfl) rfl ?_
  refine pgV (own_virtual X16 hx hZ (y := yN15) (z := yN15) (rm := ⟨1, 0, 0, 20⟩) (W := 0) (a := t) (argsL := [(.int 1)]) (rest := []) hown (wd hw 122 rfl) (wd hw 123 rfl) (notFace_of_selects (args := #[]) (mvT hZ (wd hw 125 rfl))) (wd hw 125 rfl) (wd hw 124 rfl) (wd hw 42 rfl) (wd hw 126 rfl) (rmPut l Z a0 hw t (1 : Int32) h0 n0 mm k1 k2 ed 0 sz BT hS (by decide) (by decide)) e16 u17 rfl (by rw [hml]; rfl) (lenOf own_pd10 rfl) rfl (by exact Nat.le_of_eq rfl) (hd.at 20 rfl) (by decide) (by decide) (by decide) (by decide)) fun T31 L31 X31 hQ31 => ?_
  obtain ⟨N31, K31, BB31_0⟩ := hQ31
  have fr31 := Fr.app N0 N31
  have kp31 := kp0.trans K31 (allS (Or.inl (List.mem_of_getElem? (i := 0) rfl)) (allS (Or.inl (List.mem_of_getElem? (i := 1) rfl)) all0))
  replace u17 := u17.keep K31
  have f32 := BB31_0
  rw [show ((0 : Int64) ||| ((1 : Int64) <<< ((1 : Int32) &&& 0x3f).toInt64)) = (2 : Int64) from by decide] at f32
  refine pG X31 hx 39 (hd.at 21 rfl) ?_
  exact own_retV X31 hx hret hlk (hd.at 5 rfl) (by decide) (by decide) (by show _ ∧ _ ∧ Keep h0 T31.heap _ ∧ _; exact ⟨rfl, fr31, kp31, _, _, rfl, f32⟩)
set_option maxRecDepth 65536 in
set_option maxHeartbeats 40000000 in
theorem rmOf0A (l : Launch) (Z : State) (a0 : Array Value) (hw : ∀ d ∈ tables_1, d.before a0 Z = true) (ed : Addr) (h0 : Heap) (px nx t mm : Addr) (BE' : OEo Z h0 ed px nx t .null) (B1 : OTM Z h0 t mm 0) :
    OMet l Z yN31 prog_72_method_14_code 2 none (⟨3, 0, 0, 41⟩ : Room) #[(.ref ed), (.int 0)] h0 (fun v h L => v = none ∧ h = h0 ∧ L = []) := by
  refine own_enter own_pn31 ?_
  intro p e s m below meth c T0 X0 hC e0 hnamed
  have hC0 := hC
  obtain ⟨hx, hZH, hby, hml, hown, hret, hlk, hnm⟩ := hC
  have hZ := hZH.wide
  have hown : s.vm.findClass "com/example/rankfold/rankfold/summaries/BucketEditor" = some m.cls := hown
  refine own_at (own_ef31_RI m ed (0 : Int32)) ?_
  have hd := D31.to hby
  obtain ⟨u1, u2, u3, u4, u5, u6, u7, u8⟩ := id BE'
  refine pA X0 hx (hd.at 0 rfl) rfl rfl ?_
  refine pF X0 hx hZ hown (wd hw 190 rfl) e0 u6 (hd.at 1 rfl) fun T9 X9 e9 => ?_
  refine pn X9 hx 12 (hd.at 2 rfl) ?_
  refine pA X9 hx (hd.at 3 rfl) rfl rfl ?_
  refine pI X9 hx (hd.at 4 rfl) rfl ?_
  refine pA X9 hx (hd.at 5 rfl) rfl rfl ?_
  refine pF X9 hx hZ hown (wd hw 63 rfl) e9 u4 (hd.at 6 rfl) fun T10 X10 e10 => ?_
  refine pC X10 hx 1 (hd.at 7 rfl) rfl ?_
  refine pgN (own_private X10 hx hZ (y := yN4) (rm := ⟨2, 0, 0, 26⟩) (W := 0) (a := ed) (argsL := [(.int 0), (.ref t), (.int 1)]) (rest := []) hown (wd hw 65 rfl) (wd hw 66 rfl) (wd hw 67 rfl) (wd hw 107 rfl) rfl (wd hw 7 rfl) (wd hw 68 rfl) (rmOz0 l Z a0 hw ed t (1 : Int32) h0 mm 0 B1 (by decide)) e10 u1 rfl (by rw [hml]; rfl) (lenOf own_pd12 rfl) rfl (by exact Nat.le_of_eq rfl) (hd.at 8 rfl) (by decide) (by decide) (by decide) (by decide)) fun T11 X11 e11 => ?_
  refine pA X11 hx (hd.at 9 rfl) rfl rfl ?_
  refine pF X11 hx hZ hown (wd hw 182 rfl) e11 u5 (hd.at 10 rfl) fun T12 X12 e12 => ?_
  refine pn X12 hx 39 (hd.at 11 rfl) ?_
  exact own_retV X12 hx hret hlk (hd.at 12 rfl) (by decide) (by decide) ⟨rfl, e12, rfl⟩
set_option maxRecDepth 65536 in
set_option maxHeartbeats 40000000 in
theorem rmOf2A (l : Launch) (Z : State) (a0 : Array Value) (hw : ∀ d ∈ tables_1, d.before a0 Z = true) (ed : Addr) (h0 : Heap) (px nx t mm : Addr) (BE' : OEo Z h0 ed px nx t .null) (B1 : OTM Z h0 t mm 0) :
    OMet l Z yN31 prog_72_method_14_code 2 none (⟨3, 0, 0, 41⟩ : Room) #[(.ref ed), (.int 2)] h0 (fun v h L => v = none ∧ h = h0 ∧ L = []) := by
  refine own_enter own_pn31 ?_
  intro p e s m below meth c T0 X0 hC e0 hnamed
  have hC0 := hC
  obtain ⟨hx, hZH, hby, hml, hown, hret, hlk, hnm⟩ := hC
  have hZ := hZH.wide
  have hown : s.vm.findClass "com/example/rankfold/rankfold/summaries/BucketEditor" = some m.cls := hown
  refine own_at (own_ef31_RI m ed (2 : Int32)) ?_
  have hd := D31.to hby
  obtain ⟨u1, u2, u3, u4, u5, u6, u7, u8⟩ := id BE'
  refine pA X0 hx (hd.at 0 rfl) rfl rfl ?_
  refine pF X0 hx hZ hown (wd hw 190 rfl) e0 u6 (hd.at 1 rfl) fun T9 X9 e9 => ?_
  refine pn X9 hx 12 (hd.at 2 rfl) ?_
  refine pA X9 hx (hd.at 3 rfl) rfl rfl ?_
  refine pI X9 hx (hd.at 4 rfl) rfl ?_
  refine pA X9 hx (hd.at 5 rfl) rfl rfl ?_
  refine pF X9 hx hZ hown (wd hw 63 rfl) e9 u4 (hd.at 6 rfl) fun T10 X10 e10 => ?_
  refine pC X10 hx 1 (hd.at 7 rfl) rfl ?_
  refine pgN (own_private X10 hx hZ (y := yN4) (rm := ⟨2, 0, 0, 26⟩) (W := 0) (a := ed) (argsL := [(.int 2), (.ref t), (.int 1)]) (rest := []) hown (wd hw 65 rfl) (wd hw 66 rfl) (wd hw 67 rfl) (wd hw 107 rfl) rfl (wd hw 7 rfl) (wd hw 68 rfl) (rmOz2 l Z a0 hw ed t (1 : Int32) h0 mm 0 nx own_nJ B1 (by decide) rfl u3 u8) e10 u1 rfl (by rw [hml]; rfl) (lenOf own_pd12 rfl) rfl (by exact Nat.le_of_eq rfl) (hd.at 8 rfl) (by decide) (by decide) (by decide) (by decide)) fun T11 X11 e11 => ?_
  refine pA X11 hx (hd.at 9 rfl) rfl rfl ?_
  refine pF X11 hx hZ hown (wd hw 182 rfl) e11 u5 (hd.at 10 rfl) fun T12 X12 e12 => ?_
  refine pn X12 hx 39 (hd.at 11 rfl) ?_
  exact own_retV X12 hx hret hlk (hd.at 12 rfl) (by decide) (by decide) ⟨rfl, e12, rfl⟩
set_option maxRecDepth 65536 in
set_option maxHeartbeats 40000000 in
theorem rmOf0B (l : Launch) (Z : State) (a0 : Array Value) (hw : ∀ d ∈ tables_1, d.before a0 Z = true) (ed : Addr) (h0 : Heap) (px nx t mm : Addr) (t2 mm2 : Addr) (BE' : OEo Z h0 ed px nx t (.ref t2)) (B1 : OTM Z h0 t mm 0) (B2 : OTM Z h0 t2 mm2 0) :
    OMet l Z yN31 prog_72_method_14_code 2 none (⟨3, 0, 0, 41⟩ : Room) #[(.ref ed), (.int 0)] h0 (fun v h L => v = none ∧ h = h0 ∧ L = []) := by
  refine own_enter own_pn31 ?_
  intro p e s m below meth c T0 X0 hC e0 hnamed
  have hC0 := hC
  obtain ⟨hx, hZH, hby, hml, hown, hret, hlk, hnm⟩ := hC
  have hZ := hZH.wide
  have hown : s.vm.findClass "com/example/rankfold/rankfold/summaries/BucketEditor" = some m.cls := hown
  refine own_at (own_ef31_RI m ed (0 : Int32)) ?_
  have hd := D31.to hby
  obtain ⟨u1, u2, u3, u4, u5, u6, u7, u8⟩ := id BE'
  refine pA X0 hx (hd.at 0 rfl) rfl rfl ?_
  refine pF X0 hx hZ hown (wd hw 190 rfl) e0 u6 (hd.at 1 rfl) fun T9 X9 e9 => ?_
  refine pn X9 hx 12 (hd.at 2 rfl) ?_
  refine pA X9 hx (hd.at 3 rfl) rfl rfl ?_
  refine pI X9 hx (hd.at 4 rfl) rfl ?_
  refine pA X9 hx (hd.at 5 rfl) rfl rfl ?_
  refine pF X9 hx hZ hown (wd hw 63 rfl) e9 u4 (hd.at 6 rfl) fun T10 X10 e10 => ?_
  refine pC X10 hx 1 (hd.at 7 rfl) rfl ?_
  refine pgN (own_private X10 hx hZ (y := yN4) (rm := ⟨2, 0, 0, 26⟩) (W := 0) (a := ed) (argsL := [(.int 0), (.ref t), (.int 1)]) (rest := []) hown (wd hw 65 rfl) (wd hw 66 rfl) (wd hw 67 rfl) (wd hw 107 rfl) rfl (wd hw 7 rfl) (wd hw 68 rfl) (rmOz0 l Z a0 hw ed t (1 : Int32) h0 mm 0 B1 (by decide)) e10 u1 rfl (by rw [hml]; rfl) (lenOf own_pd12 rfl) rfl (by exact Nat.le_of_eq rfl) (hd.at 8 rfl) (by decide) (by decide) (by decide) (by decide)) fun T11 X11 e11 => ?_
  refine pA X11 hx (hd.at 9 rfl) rfl rfl ?_
  refine pF X11 hx hZ hown (wd hw 182 rfl) e11 u5 (hd.at 10 rfl) fun T12 X12 e12 => ?_
  refine own_st (fun _ kS => XS.ifnullNo X12.here hx rfl (hd.at 11 rfl) rfl kS) ?_
  show OFin p e below s _ _ _ (T12.setTop (mkF m 29 #[.val (.ref ed), .val (.int 0)] []))
  refine pA X12 hx (hd.at 13 rfl) rfl rfl ?_
  refine pI X12 hx (hd.at 14 rfl) rfl ?_
  refine pA X12 hx (hd.at 15 rfl) rfl rfl ?_
  refine pF X12 hx hZ hown (wd hw 182 rfl) e12 u5 (hd.at 16 rfl) fun T13 X13 e13 => ?_
  refine pC X13 hx 0 (hd.at 17 rfl) rfl ?_
  refine pgN (own_private X13 hx hZ (y := yN4) (rm := ⟨2, 0, 0, 26⟩) (W := 0) (a := ed) (argsL := [(.int 0), (.ref t2), (.int 0)]) (rest := []) hown (wd hw 65 rfl) (wd hw 66 rfl) (wd hw 67 rfl) (wd hw 107 rfl) rfl (wd hw 7 rfl) (wd hw 68 rfl) (rmOz0 l Z a0 hw ed t2 (0 : Int32) h0 mm2 0 B2 (by decide)) e13 u1 rfl (by rw [hml]; rfl) (lenOf own_pd12 rfl) rfl (by exact Nat.le_of_eq rfl) (hd.at 18 rfl) (by decide) (by decide) (by decide) (by decide)) fun T14 X14 e14 => ?_
  exact own_retV X14 hx hret hlk (hd.at 12 rfl) (by decide) (by decide) ⟨rfl, e14, rfl⟩
set_option maxRecDepth 65536 in
set_option maxHeartbeats 40000000 in
theorem rmOf2B (l : Launch) (Z : State) (a0 : Array Value) (hw : ∀ d ∈ tables_1, d.before a0 Z = true) (ed : Addr) (h0 : Heap) (px nx t mm : Addr) (t2 mm2 : Addr) (BE' : OEo Z h0 ed px nx t (.ref t2)) (B1 : OTM Z h0 t mm 0) (B2 : OTM Z h0 t2 mm2 0) :
    OMet l Z yN31 prog_72_method_14_code 2 none (⟨3, 0, 0, 41⟩ : Room) #[(.ref ed), (.int 2)] h0 (fun v h L => v = none ∧ h = h0 ∧ L = []) := by
  refine own_enter own_pn31 ?_
  intro p e s m below meth c T0 X0 hC e0 hnamed
  have hC0 := hC
  obtain ⟨hx, hZH, hby, hml, hown, hret, hlk, hnm⟩ := hC
  have hZ := hZH.wide
  have hown : s.vm.findClass "com/example/rankfold/rankfold/summaries/BucketEditor" = some m.cls := hown
  refine own_at (own_ef31_RI m ed (2 : Int32)) ?_
  have hd := D31.to hby
  obtain ⟨u1, u2, u3, u4, u5, u6, u7, u8⟩ := id BE'
  refine pA X0 hx (hd.at 0 rfl) rfl rfl ?_
  refine pF X0 hx hZ hown (wd hw 190 rfl) e0 u6 (hd.at 1 rfl) fun T9 X9 e9 => ?_
  refine pn X9 hx 12 (hd.at 2 rfl) ?_
  refine pA X9 hx (hd.at 3 rfl) rfl rfl ?_
  refine pI X9 hx (hd.at 4 rfl) rfl ?_
  refine pA X9 hx (hd.at 5 rfl) rfl rfl ?_
  refine pF X9 hx hZ hown (wd hw 63 rfl) e9 u4 (hd.at 6 rfl) fun T10 X10 e10 => ?_
  refine pC X10 hx 1 (hd.at 7 rfl) rfl ?_
  refine pgN (own_private X10 hx hZ (y := yN4) (rm := ⟨2, 0, 0, 26⟩) (W := 0) (a := ed) (argsL := [(.int 2), (.ref t), (.int 1)]) (rest := []) hown (wd hw 65 rfl) (wd hw 66 rfl) (wd hw 67 rfl) (wd hw 107 rfl) rfl (wd hw 7 rfl) (wd hw 68 rfl) (rmOz2 l Z a0 hw ed t (1 : Int32) h0 mm 0 nx own_nJ B1 (by decide) rfl u3 u8) e10 u1 rfl (by rw [hml]; rfl) (lenOf own_pd12 rfl) rfl (by exact Nat.le_of_eq rfl) (hd.at 8 rfl) (by decide) (by decide) (by decide) (by decide)) fun T11 X11 e11 => ?_
  refine pA X11 hx (hd.at 9 rfl) rfl rfl ?_
  refine pF X11 hx hZ hown (wd hw 182 rfl) e11 u5 (hd.at 10 rfl) fun T12 X12 e12 => ?_
  refine own_st (fun _ kS => XS.ifnullNo X12.here hx rfl (hd.at 11 rfl) rfl kS) ?_
  show OFin p e below s _ _ _ (T12.setTop (mkF m 29 #[.val (.ref ed), .val (.int 2)] []))
  refine pA X12 hx (hd.at 13 rfl) rfl rfl ?_
  refine pI X12 hx (hd.at 14 rfl) rfl ?_
  refine pA X12 hx (hd.at 15 rfl) rfl rfl ?_
  refine pF X12 hx hZ hown (wd hw 182 rfl) e12 u5 (hd.at 16 rfl) fun T13 X13 e13 => ?_
  refine pC X13 hx 0 (hd.at 17 rfl) rfl ?_
  refine pgN (own_private X13 hx hZ (y := yN4) (rm := ⟨2, 0, 0, 26⟩) (W := 0) (a := ed) (argsL := [(.int 2), (.ref t2), (.int 0)]) (rest := []) hown (wd hw 65 rfl) (wd hw 66 rfl) (wd hw 67 rfl) (wd hw 107 rfl) rfl (wd hw 7 rfl) (wd hw 68 rfl) (rmOz2 l Z a0 hw ed t2 (0 : Int32) h0 mm2 0 nx own_nJ B2 (by decide) rfl u3 u8) e13 u1 rfl (by rw [hml]; rfl) (lenOf own_pd12 rfl) rfl (by exact Nat.le_of_eq rfl) (hd.at 18 rfl) (by decide) (by decide) (by decide) (by decide)) fun T14 X14 e14 => ?_
  exact own_retV X14 hx hret hlk (hd.at 12 rfl) (by decide) (by decide) ⟨rfl, e14, rfl⟩
set_option maxRecDepth 65536 in
set_option maxHeartbeats 40000000 in
theorem rmRAA (l : Launch) (Z : State) (a0 : Array Value) (hw : ∀ d ∈ tables_1, d.before a0 Z = true) (ed : Addr) (h0 : Heap) (px nx t mm : Addr) (BE' : OEo Z h0 ed px nx t .null) (B1 : OTM Z h0 t mm 0) :
    OMet l Z yN30 prog_72_method_13_code 5 none (⟨4, 0, 0, 54⟩ : Room) #[(.ref ed), (.int 2)] h0 (fun v h L => v = none ∧ h = h0 ∧ L = []) := by
  refine own_enter own_pn30 ?_
  intro p e s m below meth c T0 X0 hC e0 hnamed
  have hC0 := hC
  obtain ⟨hx, hZH, hby, hml, hown, hret, hlk, hnm⟩ := hC
  have hZ := hZH.wide
  have hown : s.vm.findClass "com/example/rankfold/rankfold/summaries/BucketEditor" = some m.cls := hown
  refine own_at (own_ef30_RI m ed (2 : Int32)) ?_
  have hd := D30.to hby
  obtain ⟨u1, u2, u3, u4, u5, u6, u7, u8⟩ := id BE'
  refine pI X0 hx (hd.at 0 rfl) rfl ?_
  refine pS X0 hx #[.val (.ref ed), .val (.int 2), .val (.int 2), .unset, .unset] (hd.at 1 rfl) rfl ?_
  refine pC X0 hx 0 (hd.at 2 rfl) rfl ?_
  refine pS X0 hx #[.val (.ref ed), .val (.int 2), .val (.int 2), .val (.int 0), .unset] (hd.at 3 rfl) rfl ?_
  refine pI X0 hx (hd.at 4 rfl) rfl ?_
  refine pC X0 hx 2 (hd.at 5 rfl) rfl ?_
  refine pcN X0 hx (hd.at 6 rfl) ((tlt (by decide)).2.1) ?_
  refine pA X0 hx (hd.at 7 rfl) rfl rfl ?_
  refine pF X0 hx hZ hown (wd hw 36 rfl) e0 u2 (hd.at 8 rfl) fun T9 X9 e9 => ?_
  refine pI X9 hx (hd.at 9 rfl) rfl ?_
  refine rI X9 hx hZ e9 u7 2 (.int 0) rfl (hd.at 10 rfl) ?_
  refine pC X9 hx (-1) (hd.at 11 rfl) rfl ?_
  refine pcN X9 hx (hd.at 12 rfl) ((feq (by decide)).1) ?_
  refine pA X9 hx (hd.at 13 rfl) rfl rfl ?_
  refine pF X9 hx hZ hown (wd hw 36 rfl) e9 u2 (hd.at 14 rfl) fun T10 X10 e10 => ?_
  refine pI X10 hx (hd.at 15 rfl) rfl ?_
  refine rI X10 hx hZ e10 u7 2 (.int 0) rfl (hd.at 16 rfl) ?_
  refine pS X10 hx #[.val (.ref ed), .val (.int 2), .val (.int 0), .val (.int 0), .unset] (hd.at 17 rfl) rfl ?_
  refine pN X10 hx (1 : Int32) #[.val (.ref ed), .val (.int 2), .val (.int 0), .val (.int 1), .unset] (hd.at 18 rfl) rfl (by decide) rfl ?_
  refine pG X10 hx 4 (hd.at 19 rfl) ?_
  refine pI X10 hx (hd.at 4 rfl) rfl ?_
  refine pC X10 hx 2 (hd.at 5 rfl) rfl ?_
  refine pcN X10 hx (hd.at 6 rfl) ((tlt (by decide)).2.1) ?_
  refine pA X10 hx (hd.at 7 rfl) rfl rfl ?_
  refine pF X10 hx hZ hown (wd hw 36 rfl) e10 u2 (hd.at 8 rfl) fun T11 X11 e11 => ?_
  refine pI X11 hx (hd.at 9 rfl) rfl ?_
  refine rI X11 hx hZ e11 u7 0 (.int (-1)) rfl (hd.at 10 rfl) ?_
  refine pC X11 hx (-1) (hd.at 11 rfl) rfl ?_
  refine pcY X11 hx 32 (hd.at 12 rfl) ((teq rfl).1) ?_
  refine pA X11 hx (hd.at 20 rfl) rfl rfl ?_
  refine pF X11 hx hZ hown (wd hw 38 rfl) e11 u3 (hd.at 21 rfl) fun T12 X12 e12 => ?_
  refine pI X12 hx (hd.at 22 rfl) rfl ?_
  refine rI X12 hx hZ e12 u8 2 (.int (-1)) rfl (hd.at 23 rfl) ?_
  refine pC X12 hx (-1) (hd.at 24 rfl) rfl ?_
  refine pcN X12 hx (hd.at 25 rfl) ((teq rfl).2) ?_
  refine pI X12 hx (hd.at 26 rfl) rfl ?_
  refine pG X12 hx 52 (hd.at 27 rfl) ?_
  refine pS X12 hx #[.val (.ref ed), .val (.int 2), .val (.int 0), .val (.int 2), .unset] (hd.at 28 rfl) rfl ?_
  refine pI X12 hx (hd.at 29 rfl) rfl ?_
  refine ps X12 hx #[.val (.ref ed), .val (.int 2), .val (.int 0), .val (.int 2), .val (.int 0)] (hd.at 30 rfl) rfl ?_
  refine pi X12 hx (hd.at 31 rfl) rfl ?_
  refine pA X12 hx (hd.at 32 rfl) rfl rfl ?_
  refine pF X12 hx hZ hown (wd hw 38 rfl) e12 u3 (hd.at 33 rfl) fun T13 X13 e13 => ?_
  refine pI X13 hx (hd.at 34 rfl) rfl ?_
  refine rI X13 hx hZ e13 u8 2 (.int (-1)) rfl (hd.at 35 rfl) ?_
  refine pcN X13 hx (hd.at 36 rfl) ((feq (by decide)).1) ?_
  refine pA X13 hx (hd.at 37 rfl) rfl rfl ?_
  refine pi X13 hx (hd.at 38 rfl) rfl ?_
  refine pgN (own_private X13 hx hZ (y := yN31) (rm := ⟨3, 0, 0, 41⟩) (W := 0) (a := ed) (argsL := [(.int 0)]) (rest := []) hown (wd hw 201 rfl) (wd hw 202 rfl) (wd hw 203 rfl) (wd hw 107 rfl) rfl (wd hw 7 rfl) (wd hw 204 rfl) (rmOf0A l Z a0 hw ed h0 px nx t mm BE' B1) e13 u1 rfl (by rw [hml]; rfl) (lenOf own_pd10 rfl) rfl (by exact Nat.le_of_eq rfl) (hd.at 39 rfl) (by decide) (by decide) (by decide) (by decide)) fun T14 X14 e14 => ?_
  refine pA X14 hx (hd.at 40 rfl) rfl rfl ?_
  refine pF X14 hx hZ hown (wd hw 38 rfl) e14 u3 (hd.at 41 rfl) fun T15 X15 e15 => ?_
  refine pi X15 hx (hd.at 42 rfl) rfl ?_
  refine rI X15 hx hZ e15 u8 0 (.int 2) rfl (hd.at 43 rfl) ?_
  refine ps X15 hx #[.val (.ref ed), .val (.int 2), .val (.int 0), .val (.int 2), .val (.int 2)] (hd.at 44 rfl) rfl ?_
  refine pG X15 hx 56 (hd.at 45 rfl) ?_
  refine pi X15 hx (hd.at 31 rfl) rfl ?_
  refine pA X15 hx (hd.at 32 rfl) rfl rfl ?_
  refine pF X15 hx hZ hown (wd hw 38 rfl) e15 u3 (hd.at 33 rfl) fun T16 X16 e16 => ?_
  refine pI X16 hx (hd.at 34 rfl) rfl ?_
  refine rI X16 hx hZ e16 u8 2 (.int (-1)) rfl (hd.at 35 rfl) ?_
  refine pcN X16 hx (hd.at 36 rfl) ((feq (by decide)).1) ?_
  refine pA X16 hx (hd.at 37 rfl) rfl rfl ?_
  refine pi X16 hx (hd.at 38 rfl) rfl ?_
  refine pgN (own_private X16 hx hZ (y := yN31) (rm := ⟨3, 0, 0, 41⟩) (W := 0) (a := ed) (argsL := [(.int 2)]) (rest := []) hown (wd hw 201 rfl) (wd hw 202 rfl) (wd hw 203 rfl) (wd hw 107 rfl) rfl (wd hw 7 rfl) (wd hw 204 rfl) (rmOf2A l Z a0 hw ed h0 px nx t mm BE' B1) e16 u1 rfl (by rw [hml]; rfl) (lenOf own_pd10 rfl) rfl (by exact Nat.le_of_eq rfl) (hd.at 39 rfl) (by decide) (by decide) (by decide) (by decide)) fun T17 X17 e17 => ?_
  refine pA X17 hx (hd.at 40 rfl) rfl rfl ?_
  refine pF X17 hx hZ hown (wd hw 38 rfl) e17 u3 (hd.at 41 rfl) fun T18 X18 e18 => ?_
  refine pi X18 hx (hd.at 42 rfl) rfl ?_
  refine rI X18 hx hZ e18 u8 2 (.int (-1)) rfl (hd.at 43 rfl) ?_
  refine ps X18 hx #[.val (.ref ed), .val (.int 2), .val (.int 0), .val (.int 2), .val (.int (-1))] (hd.at 44 rfl) rfl ?_
  refine pG X18 hx 56 (hd.at 45 rfl) ?_
  refine pi X18 hx (hd.at 31 rfl) rfl ?_
  refine pA X18 hx (hd.at 32 rfl) rfl rfl ?_
  refine pF X18 hx hZ hown (wd hw 38 rfl) e18 u3 (hd.at 33 rfl) fun T19 X19 e19 => ?_
  refine pI X19 hx (hd.at 34 rfl) rfl ?_
  refine rI X19 hx hZ e19 u8 2 (.int (-1)) rfl (hd.at 35 rfl) ?_
  refine pcY X19 hx 85 (hd.at 36 rfl) ((teq rfl).1) ?_
  exact own_retV X19 hx hret hlk (hd.at 46 rfl) (by decide) (by decide) ⟨rfl, e19, rfl⟩
set_option maxRecDepth 65536 in
set_option maxHeartbeats 40000000 in
theorem rmRAB (l : Launch) (Z : State) (a0 : Array Value) (hw : ∀ d ∈ tables_1, d.before a0 Z = true) (ed : Addr) (h0 : Heap) (px nx t mm : Addr) (t2 mm2 : Addr) (BE' : OEo Z h0 ed px nx t (.ref t2)) (B1 : OTM Z h0 t mm 0) (B2 : OTM Z h0 t2 mm2 0) :
    OMet l Z yN30 prog_72_method_13_code 5 none (⟨4, 0, 0, 54⟩ : Room) #[(.ref ed), (.int 2)] h0 (fun v h L => v = none ∧ h = h0 ∧ L = []) := by
  refine own_enter own_pn30 ?_
  intro p e s m below meth c T0 X0 hC e0 hnamed
  have hC0 := hC
  obtain ⟨hx, hZH, hby, hml, hown, hret, hlk, hnm⟩ := hC
  have hZ := hZH.wide
  have hown : s.vm.findClass "com/example/rankfold/rankfold/summaries/BucketEditor" = some m.cls := hown
  refine own_at (own_ef30_RI m ed (2 : Int32)) ?_
  have hd := D30.to hby
  obtain ⟨u1, u2, u3, u4, u5, u6, u7, u8⟩ := id BE'
  refine pI X0 hx (hd.at 0 rfl) rfl ?_
  refine pS X0 hx #[.val (.ref ed), .val (.int 2), .val (.int 2), .unset, .unset] (hd.at 1 rfl) rfl ?_
  refine pC X0 hx 0 (hd.at 2 rfl) rfl ?_
  refine pS X0 hx #[.val (.ref ed), .val (.int 2), .val (.int 2), .val (.int 0), .unset] (hd.at 3 rfl) rfl ?_
  refine pI X0 hx (hd.at 4 rfl) rfl ?_
  refine pC X0 hx 2 (hd.at 5 rfl) rfl ?_
  refine pcN X0 hx (hd.at 6 rfl) ((tlt (by decide)).2.1) ?_
  refine pA X0 hx (hd.at 7 rfl) rfl rfl ?_
  refine pF X0 hx hZ hown (wd hw 36 rfl) e0 u2 (hd.at 8 rfl) fun T9 X9 e9 => ?_
  refine pI X9 hx (hd.at 9 rfl) rfl ?_
  refine rI X9 hx hZ e9 u7 2 (.int 0) rfl (hd.at 10 rfl) ?_
  refine pC X9 hx (-1) (hd.at 11 rfl) rfl ?_
  refine pcN X9 hx (hd.at 12 rfl) ((feq (by decide)).1) ?_
  refine pA X9 hx (hd.at 13 rfl) rfl rfl ?_
  refine pF X9 hx hZ hown (wd hw 36 rfl) e9 u2 (hd.at 14 rfl) fun T10 X10 e10 => ?_
  refine pI X10 hx (hd.at 15 rfl) rfl ?_
  refine rI X10 hx hZ e10 u7 2 (.int 0) rfl (hd.at 16 rfl) ?_
  refine pS X10 hx #[.val (.ref ed), .val (.int 2), .val (.int 0), .val (.int 0), .unset] (hd.at 17 rfl) rfl ?_
  refine pN X10 hx (1 : Int32) #[.val (.ref ed), .val (.int 2), .val (.int 0), .val (.int 1), .unset] (hd.at 18 rfl) rfl (by decide) rfl ?_
  refine pG X10 hx 4 (hd.at 19 rfl) ?_
  refine pI X10 hx (hd.at 4 rfl) rfl ?_
  refine pC X10 hx 2 (hd.at 5 rfl) rfl ?_
  refine pcN X10 hx (hd.at 6 rfl) ((tlt (by decide)).2.1) ?_
  refine pA X10 hx (hd.at 7 rfl) rfl rfl ?_
  refine pF X10 hx hZ hown (wd hw 36 rfl) e10 u2 (hd.at 8 rfl) fun T11 X11 e11 => ?_
  refine pI X11 hx (hd.at 9 rfl) rfl ?_
  refine rI X11 hx hZ e11 u7 0 (.int (-1)) rfl (hd.at 10 rfl) ?_
  refine pC X11 hx (-1) (hd.at 11 rfl) rfl ?_
  refine pcY X11 hx 32 (hd.at 12 rfl) ((teq rfl).1) ?_
  refine pA X11 hx (hd.at 20 rfl) rfl rfl ?_
  refine pF X11 hx hZ hown (wd hw 38 rfl) e11 u3 (hd.at 21 rfl) fun T12 X12 e12 => ?_
  refine pI X12 hx (hd.at 22 rfl) rfl ?_
  refine rI X12 hx hZ e12 u8 2 (.int (-1)) rfl (hd.at 23 rfl) ?_
  refine pC X12 hx (-1) (hd.at 24 rfl) rfl ?_
  refine pcN X12 hx (hd.at 25 rfl) ((teq rfl).2) ?_
  refine pI X12 hx (hd.at 26 rfl) rfl ?_
  refine pG X12 hx 52 (hd.at 27 rfl) ?_
  refine pS X12 hx #[.val (.ref ed), .val (.int 2), .val (.int 0), .val (.int 2), .unset] (hd.at 28 rfl) rfl ?_
  refine pI X12 hx (hd.at 29 rfl) rfl ?_
  refine ps X12 hx #[.val (.ref ed), .val (.int 2), .val (.int 0), .val (.int 2), .val (.int 0)] (hd.at 30 rfl) rfl ?_
  refine pi X12 hx (hd.at 31 rfl) rfl ?_
  refine pA X12 hx (hd.at 32 rfl) rfl rfl ?_
  refine pF X12 hx hZ hown (wd hw 38 rfl) e12 u3 (hd.at 33 rfl) fun T13 X13 e13 => ?_
  refine pI X13 hx (hd.at 34 rfl) rfl ?_
  refine rI X13 hx hZ e13 u8 2 (.int (-1)) rfl (hd.at 35 rfl) ?_
  refine pcN X13 hx (hd.at 36 rfl) ((feq (by decide)).1) ?_
  refine pA X13 hx (hd.at 37 rfl) rfl rfl ?_
  refine pi X13 hx (hd.at 38 rfl) rfl ?_
  refine pgN (own_private X13 hx hZ (y := yN31) (rm := ⟨3, 0, 0, 41⟩) (W := 0) (a := ed) (argsL := [(.int 0)]) (rest := []) hown (wd hw 201 rfl) (wd hw 202 rfl) (wd hw 203 rfl) (wd hw 107 rfl) rfl (wd hw 7 rfl) (wd hw 204 rfl) (rmOf0B l Z a0 hw ed h0 px nx t mm t2 mm2 BE' B1 B2) e13 u1 rfl (by rw [hml]; rfl) (lenOf own_pd10 rfl) rfl (by exact Nat.le_of_eq rfl) (hd.at 39 rfl) (by decide) (by decide) (by decide) (by decide)) fun T14 X14 e14 => ?_
  refine pA X14 hx (hd.at 40 rfl) rfl rfl ?_
  refine pF X14 hx hZ hown (wd hw 38 rfl) e14 u3 (hd.at 41 rfl) fun T15 X15 e15 => ?_
  refine pi X15 hx (hd.at 42 rfl) rfl ?_
  refine rI X15 hx hZ e15 u8 0 (.int 2) rfl (hd.at 43 rfl) ?_
  refine ps X15 hx #[.val (.ref ed), .val (.int 2), .val (.int 0), .val (.int 2), .val (.int 2)] (hd.at 44 rfl) rfl ?_
  refine pG X15 hx 56 (hd.at 45 rfl) ?_
  refine pi X15 hx (hd.at 31 rfl) rfl ?_
  refine pA X15 hx (hd.at 32 rfl) rfl rfl ?_
  refine pF X15 hx hZ hown (wd hw 38 rfl) e15 u3 (hd.at 33 rfl) fun T16 X16 e16 => ?_
  refine pI X16 hx (hd.at 34 rfl) rfl ?_
  refine rI X16 hx hZ e16 u8 2 (.int (-1)) rfl (hd.at 35 rfl) ?_
  refine pcN X16 hx (hd.at 36 rfl) ((feq (by decide)).1) ?_
  refine pA X16 hx (hd.at 37 rfl) rfl rfl ?_
  refine pi X16 hx (hd.at 38 rfl) rfl ?_
  refine pgN (own_private X16 hx hZ (y := yN31) (rm := ⟨3, 0, 0, 41⟩) (W := 0) (a := ed) (argsL := [(.int 2)]) (rest := []) hown (wd hw 201 rfl) (wd hw 202 rfl) (wd hw 203 rfl) (wd hw 107 rfl) rfl (wd hw 7 rfl) (wd hw 204 rfl) (rmOf2B l Z a0 hw ed h0 px nx t mm t2 mm2 BE' B1 B2) e16 u1 rfl (by rw [hml]; rfl) (lenOf own_pd10 rfl) rfl (by exact Nat.le_of_eq rfl) (hd.at 39 rfl) (by decide) (by decide) (by decide) (by decide)) fun T17 X17 e17 => ?_
  refine pA X17 hx (hd.at 40 rfl) rfl rfl ?_
  refine pF X17 hx hZ hown (wd hw 38 rfl) e17 u3 (hd.at 41 rfl) fun T18 X18 e18 => ?_
  refine pi X18 hx (hd.at 42 rfl) rfl ?_
  refine rI X18 hx hZ e18 u8 2 (.int (-1)) rfl (hd.at 43 rfl) ?_
  refine ps X18 hx #[.val (.ref ed), .val (.int 2), .val (.int 0), .val (.int 2), .val (.int (-1))] (hd.at 44 rfl) rfl ?_
  refine pG X18 hx 56 (hd.at 45 rfl) ?_
  refine pi X18 hx (hd.at 31 rfl) rfl ?_
  refine pA X18 hx (hd.at 32 rfl) rfl rfl ?_
  refine pF X18 hx hZ hown (wd hw 38 rfl) e18 u3 (hd.at 33 rfl) fun T19 X19 e19 => ?_
  refine pI X19 hx (hd.at 34 rfl) rfl ?_
  refine rI X19 hx hZ e19 u8 2 (.int (-1)) rfl (hd.at 35 rfl) ?_
  refine pcY X19 hx 85 (hd.at 36 rfl) ((teq rfl).1) ?_
  exact own_retV X19 hx hret hlk (hd.at 46 rfl) (by decide) (by decide) ⟨rfl, e19, rfl⟩
def own_cJ (fc : Nat → UInt64) : Nat → UInt64 := fun i => if i = 2 then FP.dadd (fc 2) (fc 1) else fc i
set_option maxRecDepth 65536 in
set_option maxHeartbeats 40000000 in
theorem rmJoA (l : Launch) (Z : State) (a0 : Array Value) (hw : ∀ d ∈ tables_1, d.before a0 Z = true) (ed : Addr) (h0 : Heap) (n0 : Nat) (u ct gd px nx : Addr) (fu fc : Nat → UInt64) (fg : Nat → Int32) (nd : UInt64) (t mm fa fk k1 k2 : Addr) (sz r0 : Int32) (d0 d : UInt64) (B : ORd Z h0 ed u ct gd px nx fu fc fg own_p3 own_n3 nd) (hU : OUp fu) (hN : OCn fc) (hD : Mag64 1088 nd) (BW : OEw Z h0 ed t 3 .null) (B1 : OTP Z h0 t mm fa fk k1 k2 ed 2 sz 1 r0 (1 : Int32) d0 d) (hS : OOrd n0 [ed, u, ct, gd, px, nx, t, mm, fa, fk, k1, k2]) :
    OMet l Z yN28 prog_72_method_10_code 4 none (⟨11, 0, 0, 186⟩ : Room) #[(.ref ed), (.int 1)] h0 (fun v h L => v = none ∧ Fr n0 L ∧ Keep h0 h [ed, ct, nx, px, t, mm, fa, fk] ∧ Fld Z h ed "com/example/rankfold/rankfold/summaries/BucketEditor" "size" "I" (.int (2 : Int32)) ∧ OWr Z h ed u ct gd nx fu (own_cJ fc) fg own_nJ) := by
  refine own_enter own_pn28 ?_
  intro p e s m below meth c T0 X0 hC e0 hnamed
  have hC0 := hC
  obtain ⟨hx, hZH, hby, hml, hown, hret, hlk, hnm⟩ := hC
  have hZ := hZH.wide
  have hown : s.vm.findClass "com/example/rankfold/rankfold/summaries/BucketEditor" = some m.cls := hown
  refine own_at (own_ef28_RI m ed (1 : Int32)) ?_
  have hd := D28.to hby
  have N0 := Fr.nil n0
  have kp0 := Keep.refl h0 [ed, ct, nx, px, t, mm, fa, fk]
  have f1 : ORf Z h0 ed u ct gd px nx nd := ⟨B.1, B.2.1, B.2.2.1, B.2.2.2.1, B.2.2.2.2.1, B.2.2.2.2.2.1, B.2.2.2.2.2.2.1, B.2.2.2.2.2.2.2.1, B.2.2.2.2.2.2.2.2.1, B.2.2.2.2.2.2.2.2.2.1⟩
  have f2 := B.2.2.2.2.2.2.2.2.2.2.1
  have f3 := B.2.2.2.2.2.2.2.2.2.2.2.1
  have f4 := B.2.2.2.2.2.2.2.2.2.2.2.2.1
  have f5 := B.2.2.2.2.2.2.2.2.2.2.2.2.2.1
  have f6 := B.2.2.2.2.2.2.2.2.2.2.2.2.2.2
  refine pA X0 hx (hd.at 0 rfl) rfl rfl ?_
  refine pF X0 hx hZ hown (wd hw 38 rfl) e0 f1.2.2.2.2.2.1 (hd.at 1 rfl) fun T7 X7 e7 => ?_
  refine pI X7 hx (hd.at 2 rfl) rfl ?_
  refine rI X7 hx hZ e7 f6 1 (.int 2) rfl (hd.at 3 rfl) ?_
  refine pS X7 hx #[.val (.ref ed), .val (.int 1), .val (.int 2), .unset] (hd.at 4 rfl) rfl ?_
  refine pA X7 hx (hd.at 5 rfl) rfl rfl ?_
  refine pF X7 hx hZ hown (wd hw 36 rfl) e7 f1.2.2.2.2.1 (hd.at 6 rfl) fun T8 X8 e8 => ?_
  refine pI X8 hx (hd.at 7 rfl) rfl ?_
  refine rI X8 hx hZ e8 f5 1 (.int 0) rfl (hd.at 8 rfl) ?_
  refine pS X8 hx #[.val (.ref ed), .val (.int 1), .val (.int 2), .val (.int 0)] (hd.at 9 rfl) rfl ?_
  refine pA X8 hx (hd.at 10 rfl) rfl rfl ?_
  refine pF X8 hx hZ hown (wd hw 31 rfl) e8 f1.2.2.1 (hd.at 11 rfl) fun T9 X9 e9 => ?_
  refine pI X9 hx (hd.at 12 rfl) rfl ?_
  refine pR (fun _ kS => XT.dup2 X9.here hx rfl (hd.at 13 rfl) rfl rfl rfl kS) ?_
  refine rD X9 hx hZ e9 f3 2 (.double (fc 2)) rfl (hd.at 14 rfl) ?_
  refine pA X9 hx (hd.at 15 rfl) rfl rfl ?_
  refine pF X9 hx hZ hown (wd hw 31 rfl) e9 f1.2.2.1 (hd.at 16 rfl) fun T10 X10 e10 => ?_
  refine pI X10 hx (hd.at 17 rfl) rfl ?_
  refine rD X10 hx hZ e10 f3 1 (.double (fc 1)) rfl (hd.at 18 rfl) ?_
  refine pR (fun _ kS => Jvm.Free.XS.daddS X10.here hx rfl (v := (FP.dadd (fc 2) (fc 1))) (hd.at 19 rfl) rfl (own_mn (Jvm.Free.Fl.dadd_mag (hN 2 (by decide)) (hN 1 (by decide)) (by decide))) rfl kS) ?_
  refine wD X10 hx hZ e10 f3 2 (hd.at 20 rfl) fun T11 h11 X11 e11 W11 V11 => ?_
  have f12 : OArr Z h11 ct .double 4 (fun i => .double ((own_cJ fc) i)) := V11.congr (own_lt4 rfl rfl rfl rfl)
  have n13 := hS.ne 1 2
  replace f2 := f2.other W11 n13
  have n14 := hS.ne 2 3
  have n15 := Ne.symm n14
  replace f4 := f4.other W11 n15
  have n16 := hS.ne 2 4
  have n17 := Ne.symm n16
  replace f5 := f5.other W11 n17
  have n18 := hS.ne 2 5
  have n19 := Ne.symm n18
  replace f6 := f6.other W11 n19
  have n20 := hS.ne 0 2
  replace f1 := f1.keep (Keep.of_wr W11) (ninS n20 nin0)
  have f21 := BW.keep (Keep.of_wr W11) (ninS n20 nin0)
  have n22 := hS.ne 2 6
  have n23 := Ne.symm n22
  have n24 := hS.ne 2 7
  have n25 := Ne.symm n24
  have n26 := hS.ne 2 10
  have n27 := Ne.symm n26
  have n28 := hS.ne 2 11
  have n29 := Ne.symm n28
  have n30 := hS.ne 2 8
  have n31 := Ne.symm n30
  have n32 := hS.ne 2 9
  have n33 := Ne.symm n32
  have f34 := B1.keep (Keep.of_wr W11) (ninS n23 nin0) (ninS n25 nin0) (ninS n27 nin0) (ninS n29 nin0) (ninS n31 nin0) (ninS n33 nin0)
  have fr11 := Fr.snoc X11 N0 (hS.ge 2 rfl)
  have kp11 := kp0.wr W11 (Or.inl (List.mem_of_getElem? (i := 1) rfl))
  refine pA X11 hx (hd.at 21 rfl) rfl rfl ?_
  refine pF X11 hx hZ hown (wd hw 38 rfl) e11 f1.2.2.2.2.2.1 (hd.at 22 rfl) fun T35 X35 e35 => ?_
  refine pI X35 hx (hd.at 23 rfl) rfl ?_
  refine pI X35 hx (hd.at 24 rfl) rfl ?_
  refine wI X35 hx hZ e35 f6 0 (hd.at 25 rfl) fun T36 h36 X36 e36 W36 V36 => ?_
  have f37 : OArr Z h36 nx .int 4 (fun i => .int ((own_q4 (2 : Int32) (2 : Int32) (-1 : Int32) (0 : Int32)) i)) := V36.congr (own_lt4 rfl rfl rfl rfl)
  have n38 := hS.ne 1 5
  replace f2 := f2.other W36 n38
  replace f12 := f12.other W36 n18
  have n39 := hS.ne 3 5
  replace f4 := f4.other W36 n39
  have n40 := hS.ne 4 5
  replace f5 := f5.other W36 n40
  have n41 := hS.ne 0 5
  replace f1 := f1.keep (Keep.of_wr W36) (ninS n41 nin0)
  replace f21 := f21.keep (Keep.of_wr W36) (ninS n41 nin0)
  have n42 := hS.ne 5 6
  have n43 := Ne.symm n42
  have n44 := hS.ne 5 7
  have n45 := Ne.symm n44
  have n46 := hS.ne 5 10
  have n47 := Ne.symm n46
  have n48 := hS.ne 5 11
  have n49 := Ne.symm n48
  have n50 := hS.ne 5 8
  have n51 := Ne.symm n50
  have n52 := hS.ne 5 9
  have n53 := Ne.symm n52
  replace f34 := f34.keep (Keep.of_wr W36) (ninS n43 nin0) (ninS n45 nin0) (ninS n47 nin0) (ninS n49 nin0) (ninS n51 nin0) (ninS n53 nin0)
  have fr36 := Fr.snoc X36 fr11 (hS.ge 5 rfl)
  have kp36 := kp11.wr W36 (Or.inl (List.mem_of_getElem? (i := 2) rfl))
  refine pA X36 hx (hd.at 26 rfl) rfl rfl ?_
  refine pF X36 hx hZ hown (wd hw 36 rfl) e36 f1.2.2.2.2.1 (hd.at 27 rfl) fun T54 X54 e54 => ?_
  refine pI X54 hx (hd.at 28 rfl) rfl ?_
  refine pI X54 hx (hd.at 29 rfl) rfl ?_
  refine wI X54 hx hZ e54 f5 2 (hd.at 30 rfl) fun T55 h55 X55 e55 W55 V55 => ?_
  have f56 : OArr Z h55 px .int 4 (fun i => .int ((own_q4 (-1 : Int32) (0 : Int32) (0 : Int32) (0 : Int32)) i)) := V55.congr (own_lt4 rfl rfl rfl rfl)
  have n57 := hS.ne 1 4
  replace f2 := f2.other W55 n57
  replace f12 := f12.other W55 n16
  have n58 := hS.ne 3 4
  replace f4 := f4.other W55 n58
  have n59 := Ne.symm n40
  replace f37 := f37.other W55 n59
  have n60 := hS.ne 0 4
  replace f1 := f1.keep (Keep.of_wr W55) (ninS n60 nin0)
  replace f21 := f21.keep (Keep.of_wr W55) (ninS n60 nin0)
  have n61 := hS.ne 4 6
  have n62 := Ne.symm n61
  have n63 := hS.ne 4 7
  have n64 := Ne.symm n63
  have n65 := hS.ne 4 10
  have n66 := Ne.symm n65
  have n67 := hS.ne 4 11
  have n68 := Ne.symm n67
  have n69 := hS.ne 4 8
  have n70 := Ne.symm n69
  have n71 := hS.ne 4 9
  have n72 := Ne.symm n71
  replace f34 := f34.keep (Keep.of_wr W55) (ninS n62 nin0) (ninS n64 nin0) (ninS n66 nin0) (ninS n68 nin0) (ninS n70 nin0) (ninS n72 nin0)
  have fr55 := Fr.snoc X55 fr36 (hS.ge 4 rfl)
  have kp55 := kp36.wr W55 (Or.inl (List.mem_of_getElem? (i := 3) rfl))
  refine pA X55 hx (hd.at 31 rfl) rfl rfl ?_
  refine pF X55 hx hZ hown (wd hw 36 rfl) e55 f1.2.2.2.2.1 (hd.at 32 rfl) fun T73 X73 e73 => ?_
  refine pI X73 hx (hd.at 33 rfl) rfl ?_
  refine pB X73 hx (-2) (hd.at 34 rfl) rfl ?_
  refine wI X73 hx hZ e73 f56 1 (hd.at 35 rfl) fun T74 h74 X74 e74 W74 V74 => ?_
  have f75 : OArr Z h74 px .int 4 (fun i => .int (own_pJ i)) := V74.congr (own_lt4 rfl rfl rfl rfl)
  replace f2 := f2.other W74 n57
  replace f12 := f12.other W74 n16
  replace f4 := f4.other W74 n58
  replace f37 := f37.other W74 n59
  replace f1 := f1.keep (Keep.of_wr W74) (ninS n60 nin0)
  replace f21 := f21.keep (Keep.of_wr W74) (ninS n60 nin0)
  replace f34 := f34.keep (Keep.of_wr W74) (ninS n62 nin0) (ninS n64 nin0) (ninS n66 nin0) (ninS n68 nin0) (ninS n70 nin0) (ninS n72 nin0)
  have fr74 := Fr.snoc X74 fr55 (hS.ge 4 rfl)
  have kp74 := kp55.wr W74 (Or.inl (List.mem_of_getElem? (i := 3) rfl))
  refine pA X74 hx (hd.at 36 rfl) rfl rfl ?_
  refine pF X74 hx hZ hown (wd hw 38 rfl) e74 f1.2.2.2.2.2.1 (hd.at 37 rfl) fun T76 X76 e76 => ?_
  refine pI X76 hx (hd.at 38 rfl) rfl ?_
  refine pA X76 hx (hd.at 39 rfl) rfl rfl ?_
  refine pF X76 hx hZ hown (wd hw 15 rfl) e76 f21.1 (hd.at 40 rfl) fun T77 X77 e77 => ?_
  refine wI X77 hx hZ e77 f37 1 (hd.at 41 rfl) fun T78 h78 X78 e78 W78 V78 => ?_
  have f79 : OArr Z h78 nx .int 4 (fun i => .int (own_nJ i)) := V78.congr (own_lt4 rfl rfl rfl rfl)
  replace f2 := f2.other W78 n38
  replace f12 := f12.other W78 n18
  replace f4 := f4.other W78 n39
  replace f75 := f75.other W78 n40
  replace f1 := f1.keep (Keep.of_wr W78) (ninS n41 nin0)
  replace f21 := f21.keep (Keep.of_wr W78) (ninS n41 nin0)
  replace f34 := f34.keep (Keep.of_wr W78) (ninS n43 nin0) (ninS n45 nin0) (ninS n47 nin0) (ninS n49 nin0) (ninS n51 nin0) (ninS n53 nin0)
  have fr78 := Fr.snoc X78 fr74 (hS.ge 5 rfl)
  have kp78 := kp74.wr W78 (Or.inl (List.mem_of_getElem? (i := 2) rfl))
  refine pA X78 hx (hd.at 42 rfl) rfl rfl ?_
  refine pI X78 hx (hd.at 43 rfl) rfl ?_
  obtain ⟨u80, u81, u82, u83, u84, u85, u86, u87, u88, u89⟩ := f1
  obtain ⟨u90, u91, u92, u93, u94⟩ := f21
  refine pg2 (putF X78 hx hZ hown (host := "") (Or.inl (wd hw 15 rfl)) Via.refl e78 u90 u80 (Or.inl (wd hw 16 rfl)) (wd hw 6 rfl) (ty := .int) (by decide) rfl rfl rfl rfl (hd.at 44 rfl)) fun T95 h95 X95 e95 W95 => ?_
  have f96 := u90.same W95
  have n97 := hS.ne 0 1
  have n98 := Ne.symm n97
  replace f2 := f2.other W95 n98
  have n99 := Ne.symm n20
  replace f12 := f12.other W95 n99
  have n100 := hS.ne 0 3
  have n101 := Ne.symm n100
  replace f4 := f4.other W95 n101
  have n102 := Ne.symm n60
  replace f75 := f75.other W95 n102
  have n103 := Ne.symm n41
  replace f79 := f79.other W95 n103
  replace u80 := u80.wr W95
  replace u81 := u81.other W95 (Or.inr (sl (Or.inl (wd hw 30 rfl)) (Or.inl (wd hw 16 rfl))))
  replace u82 := u82.other W95 (Or.inr (sl (Or.inl (wd hw 32 rfl)) (Or.inl (wd hw 16 rfl))))
  replace u83 := u83.other W95 (Or.inr (sl (Or.inl (wd hw 34 rfl)) (Or.inl (wd hw 16 rfl))))
  replace u84 := u84.other W95 (Or.inr (sl (Or.inl (wd hw 37 rfl)) (Or.inl (wd hw 16 rfl))))
  replace u85 := u85.other W95 (Or.inr (sl (Or.inl (wd hw 39 rfl)) (Or.inl (wd hw 16 rfl))))
  replace u86 := u86.other W95 (Or.inr (sl (Or.inr (wd hw 20 rfl)) (Or.inl (wd hw 16 rfl))))
  replace u87 := u87.other W95 (Or.inr (sl (Or.inr (wd hw 22 rfl)) (Or.inl (wd hw 16 rfl))))
  replace u88 := u88.other W95 (Or.inr (sl (Or.inl (wd hw 24 rfl)) (Or.inl (wd hw 16 rfl))))
  replace u89 := u89.other W95 (Or.inr (sl (Or.inr (wd hw 18 rfl)) (Or.inl (wd hw 16 rfl))))
  replace u91 := u91.other W95 (Or.inr (sl (Or.inl (wd hw 26 rfl)) (Or.inl (wd hw 16 rfl))))
  replace u92 := u92.other W95 (Or.inr (sl (Or.inl (wd hw 64 rfl)) (Or.inl (wd hw 16 rfl))))
  replace u93 := u93.other W95 (Or.inr (sl (Or.inl (wd hw 183 rfl)) (Or.inl (wd hw 16 rfl))))
  replace u94 := u94.other W95 (Or.inr (sl (Or.inl (wd hw 191 rfl)) (Or.inl (wd hw 16 rfl))))
  have n104 := hS.ne 0 6
  have n105 := Ne.symm n104
  have n106 := hS.ne 0 7
  have n107 := Ne.symm n106
  have n108 := hS.ne 0 10
  have n109 := Ne.symm n108
  have n110 := hS.ne 0 11
  have n111 := Ne.symm n110
  have n112 := hS.ne 0 8
  have n113 := Ne.symm n112
  have n114 := hS.ne 0 9
  have n115 := Ne.symm n114
  replace f34 := f34.keep (Keep.of_wr W95) (ninS n105 nin0) (ninS n107 nin0) (ninS n109 nin0) (ninS n111 nin0) (ninS n113 nin0) (ninS n115 nin0)
  have fr95 := Fr.snoc X95 fr78 (hS.ge 0 rfl)
  have kp95 := kp78.wr W95 (Or.inl (List.mem_of_getElem? (i := 0) rfl))
  refine pA X95 hx (hd.at 45 rfl) rfl rfl ?_
  refine o_dup X95 hx (hd.at 46 rfl) rfl ?_
  refine pF X95 hx hZ hown (wd hw 25 rfl) e95 u91 (hd.at 47 rfl) fun T116 X116 e116 => ?_
  refine pC X116 hx 1 (hd.at 48 rfl) rfl ?_
  refine o_isub X116 hx (hd.at 49 rfl) ?_
  rw [show (((3 : Int32) - (1 : Int32))) = (2 : Int32) from by decide]
  refine pg2 (putF X116 hx hZ hown (host := "") (Or.inl (wd hw 25 rfl)) Via.refl e116 u91 u80 (Or.inl (wd hw 26 rfl)) (wd hw 6 rfl) (ty := .int) (by decide) rfl rfl rfl rfl (hd.at 50 rfl)) fun T117 h117 X117 e117 W117 => ?_
  have f118 := u91.same W117
  replace f2 := f2.other W117 n98
  replace f12 := f12.other W117 n99
  replace f4 := f4.other W117 n101
  replace f75 := f75.other W117 n102
  replace f79 := f79.other W117 n103
  replace u80 := u80.wr W117
  replace u81 := u81.other W117 (Or.inr (sl (Or.inl (wd hw 30 rfl)) (Or.inl (wd hw 26 rfl))))
  replace u82 := u82.other W117 (Or.inr (sl (Or.inl (wd hw 32 rfl)) (Or.inl (wd hw 26 rfl))))
  replace u83 := u83.other W117 (Or.inr (sl (Or.inl (wd hw 34 rfl)) (Or.inl (wd hw 26 rfl))))
  replace u84 := u84.other W117 (Or.inr (sl (Or.inl (wd hw 37 rfl)) (Or.inl (wd hw 26 rfl))))
  replace u85 := u85.other W117 (Or.inr (sl (Or.inl (wd hw 39 rfl)) (Or.inl (wd hw 26 rfl))))
  replace u86 := u86.other W117 (Or.inr (sl (Or.inr (wd hw 20 rfl)) (Or.inl (wd hw 26 rfl))))
  replace u87 := u87.other W117 (Or.inr (sl (Or.inr (wd hw 22 rfl)) (Or.inl (wd hw 26 rfl))))
  replace u88 := u88.other W117 (Or.inr (sl (Or.inl (wd hw 24 rfl)) (Or.inl (wd hw 26 rfl))))
  replace u89 := u89.other W117 (Or.inr (sl (Or.inr (wd hw 18 rfl)) (Or.inl (wd hw 26 rfl))))
  replace f96 := f96.other W117 (Or.inr (sl (Or.inl (wd hw 16 rfl)) (Or.inl (wd hw 26 rfl))))
  replace u92 := u92.other W117 (Or.inr (sl (Or.inl (wd hw 64 rfl)) (Or.inl (wd hw 26 rfl))))
  replace u93 := u93.other W117 (Or.inr (sl (Or.inl (wd hw 183 rfl)) (Or.inl (wd hw 26 rfl))))
  replace u94 := u94.other W117 (Or.inr (sl (Or.inl (wd hw 191 rfl)) (Or.inl (wd hw 26 rfl))))
  replace f34 := f34.keep (Keep.of_wr W117) (ninS n105 nin0) (ninS n107 nin0) (ninS n109 nin0) (ninS n111 nin0) (ninS n113 nin0) (ninS n115 nin0)
  have fr117 := Fr.snoc X117 fr95 (hS.ge 0 rfl)
  have kp117 := kp95.wr W117 (Or.inl (List.mem_of_getElem? (i := 0) rfl))
  refine pA X117 hx (hd.at 51 rfl) rfl rfl ?_
  refine pF X117 hx hZ hown (wd hw 63 rfl) e117 u92 (hd.at 52 rfl) fun T119 X119 e119 => ?_
  refine pI X119 hx (hd.at 53 rfl) rfl ?_
  have n120 := hS.ne 6 11
  have n121 := hS.ne 6 10
  have n122 := hS.ne 6 9
  have n123 := hS.ne 6 8
  have n124 := hS.ne 6 7
  have n125 := hS.ne 7 11
  have n126 := hS.ne 7 10
  have n127 := hS.ne 7 9
  have n128 := hS.ne 7 8
  have n129 := hS.ne 8 11
  have n130 := hS.ne 8 10
  have n131 := hS.ne 8 9
  have n132 := hS.ne 9 11
  have n133 := hS.ne 9 10
  have n134 := hS.ne 10 11
  refine pgV (own_virtual X119 hx hZ (y := yN5) (z := yN5) (rm := ⟨10, 0, 0, 173⟩) (W := 0) (a := t) (argsL := [(.int 1)]) (rest := []) hown (wd hw 69 rfl) (wd hw 70 rfl) (notFace_of_selects (args := #[]) (mvT hZ (wd hw 72 rfl))) (wd hw 72 rfl) (wd hw 71 rfl) (wd hw 42 rfl) (wd hw 73 rfl) (rmRe1 l Z a0 hw t h117 n0 mm fa fk k1 k2 ed sz r0 d0 d f34 (OOrd.cons (hS.ge 6 rfl) (allS n124 (allS n123 (allS n122 (allS n121 (allS n120 all0))))) (OOrd.cons (hS.ge 7 rfl) (allS n128 (allS n127 (allS n126 (allS n125 all0)))) (OOrd.cons (hS.ge 8 rfl) (allS n131 (allS n130 (allS n129 all0))) (OOrd.cons (hS.ge 9 rfl) (allS n133 (allS n132 all0)) (OOrd.cons (hS.ge 10 rfl) (allS n134 all0) (OOrd.cons (hS.ge 11 rfl) all0 OOrd.nil))))))) e119 f34.1 rfl (by rw [hml]; rfl) (lenOf own_pd10 rfl) rfl (by exact Nat.le_of_eq rfl) (hd.at 54 rfl) (by decide) (by decide) (by decide) (by decide)) fun T135 L135 X135 hQ135 => ?_
  obtain ⟨N135, K135, d', BT1⟩ := hQ135
  have fr135 := Fr.app fr117 N135
  have kp135 := kp117.trans K135 (allS (Or.inl (List.mem_of_getElem? (i := 4) rfl)) (allS (Or.inl (List.mem_of_getElem? (i := 5) rfl)) (allS (Or.inl (List.mem_of_getElem? (i := 6) rfl)) (allS (Or.inl (List.mem_of_getElem? (i := 7) rfl)) all0))))
  have n136 := hS.ne 1 9
  have n137 := hS.ne 1 8
  have n138 := hS.ne 1 7
  have n139 := hS.ne 1 6
  replace f2 := f2.keep K135 (ninS n139 (ninS n138 (ninS n137 (ninS n136 nin0))))
  replace f12 := f12.keep K135 (ninS n22 (ninS n24 (ninS n30 (ninS n32 nin0))))
  have n140 := hS.ne 3 9
  have n141 := hS.ne 3 8
  have n142 := hS.ne 3 7
  have n143 := hS.ne 3 6
  replace f4 := f4.keep K135 (ninS n143 (ninS n142 (ninS n141 (ninS n140 nin0))))
  replace f75 := f75.keep K135 (ninS n61 (ninS n63 (ninS n69 (ninS n71 nin0))))
  replace f79 := f79.keep K135 (ninS n42 (ninS n44 (ninS n50 (ninS n52 nin0))))
  replace u80 := u80.keep K135
  replace u81 := u81.keep K135 (ninS n104 (ninS n106 (ninS n112 (ninS n114 nin0))))
  replace u82 := u82.keep K135 (ninS n104 (ninS n106 (ninS n112 (ninS n114 nin0))))
  replace u83 := u83.keep K135 (ninS n104 (ninS n106 (ninS n112 (ninS n114 nin0))))
  replace u84 := u84.keep K135 (ninS n104 (ninS n106 (ninS n112 (ninS n114 nin0))))
  replace u85 := u85.keep K135 (ninS n104 (ninS n106 (ninS n112 (ninS n114 nin0))))
  replace u86 := u86.keep K135 (ninS n104 (ninS n106 (ninS n112 (ninS n114 nin0))))
  replace u87 := u87.keep K135 (ninS n104 (ninS n106 (ninS n112 (ninS n114 nin0))))
  replace u88 := u88.keep K135 (ninS n104 (ninS n106 (ninS n112 (ninS n114 nin0))))
  replace u89 := u89.keep K135 (ninS n104 (ninS n106 (ninS n112 (ninS n114 nin0))))
  replace f96 := f96.keep K135 (ninS n104 (ninS n106 (ninS n112 (ninS n114 nin0))))
  replace f118 := f118.keep K135 (ninS n104 (ninS n106 (ninS n112 (ninS n114 nin0))))
  replace u92 := u92.keep K135 (ninS n104 (ninS n106 (ninS n112 (ninS n114 nin0))))
  replace u93 := u93.keep K135 (ninS n104 (ninS n106 (ninS n112 (ninS n114 nin0))))
  replace u94 := u94.keep K135 (ninS n104 (ninS n106 (ninS n112 (ninS n114 nin0))))
  have f144 := f34.1.keep K135
  refine pA X135 hx (hd.at 55 rfl) rfl rfl ?_
  refine pF X135 hx hZ hown (wd hw 190 rfl) rfl u94 (hd.at 56 rfl) fun T145 X145 e145 => ?_
  refine pn X145 hx 99 (hd.at 57 rfl) ?_
  refine pA X145 hx (hd.at 58 rfl) rfl rfl ?_
  refine pF X145 hx hZ hown (wd hw 182 rfl) e145 u93 (hd.at 59 rfl) fun T146 X146 e146 => ?_
  refine pn X146 hx 114 (hd.at 60 rfl) ?_
  refine pA X146 hx (hd.at 61 rfl) rfl rfl ?_
  refine pI X146 hx (hd.at 62 rfl) rfl ?_
  obtain ⟨u147, u148, u149, u150, u151, u152, u153, u154, u155, u156, u157, u158, u159, u160, u161, u162⟩ := id BT1
  have BM1 : OTM Z T135.heap t mm 0 := ⟨u147, u152, u158⟩
  have BEO : OEo Z T135.heap ed px nx t .null := ⟨u80, u84, u85, u92, u93, u94, f75, f79⟩
  refine pgN (own_private X146 hx hZ (y := yN30) (rm := ⟨4, 0, 0, 54⟩) (W := 0) (a := ed) (argsL := [(.int 2)]) (rest := []) hown (wd hw 197 rfl) (wd hw 198 rfl) (wd hw 199 rfl) (wd hw 107 rfl) rfl (wd hw 7 rfl) (wd hw 200 rfl) (rmRAA l Z a0 hw ed T135.heap px nx t mm BEO BM1) e146 u80 rfl (by rw [hml]; rfl) (lenOf own_pd10 rfl) rfl (by exact Nat.le_of_eq rfl) (hd.at 63 rfl) (by decide) (by decide) (by decide) (by decide)) fun T163 X163 e163 => ?_
  exact own_retV X163 hx hret hlk (hd.at 64 rfl) (by decide) (by decide) (by show _ ∧ _ ∧ Keep h0 T163.heap _ ∧ _; rw [e163]; exact ⟨rfl, fr135, kp135, f118, u80, u81, u82, u83, u85, f2, f12, f4, f79⟩)
set_option maxRecDepth 65536 in
set_option maxHeartbeats 40000000 in
theorem rmJoB (l : Launch) (Z : State) (a0 : Array Value) (hw : ∀ d ∈ tables_1, d.before a0 Z = true) (ed : Addr) (h0 : Heap) (n0 : Nat) (u ct gd px nx : Addr) (fu fc : Nat → UInt64) (fg : Nat → Int32) (nd : UInt64) (t mm fa fk k1 k2 : Addr) (sz r0 : Int32) (d0 d : UInt64) (t2 mm2 fa2 fk2 k3 k4 : Addr) (sz2 r02 : Int32) (d02 d2 : UInt64) (B : ORd Z h0 ed u ct gd px nx fu fc fg own_p3 own_n3 nd) (hU : OUp fu) (hN : OCn fc) (hD : Mag64 1088 nd) (BW : OEw Z h0 ed t 3 (.ref t2)) (B1 : OTP Z h0 t mm fa fk k1 k2 ed 0 sz 1 r0 (-1 : Int32) d0 d) (B2 : OTP Z h0 t2 mm2 fa2 fk2 k3 k4 ed 2 sz2 1 r02 1 d02 d2) (hS : OOrd n0 [ed, u, ct, gd, px, nx, t, mm, fa, fk, k1, k2, t2, mm2, fa2, fk2, k3, k4]) :
    OMet l Z yN28 prog_72_method_10_code 4 none (⟨11, 0, 0, 186⟩ : Room) #[(.ref ed), (.int 1)] h0 (fun v h L => v = none ∧ Fr n0 L ∧ Keep h0 h [ed, ct, nx, px, t2, mm2, fa2, fk2] ∧ Fld Z h ed "com/example/rankfold/rankfold/summaries/BucketEditor" "size" "I" (.int (2 : Int32)) ∧ OWr Z h ed u ct gd nx fu (own_cJ fc) fg own_nJ) := by
  refine own_enter own_pn28 ?_
  intro p e s m below meth c T0 X0 hC e0 hnamed
  have hC0 := hC
  obtain ⟨hx, hZH, hby, hml, hown, hret, hlk, hnm⟩ := hC
  have hZ := hZH.wide
  have hown : s.vm.findClass "com/example/rankfold/rankfold/summaries/BucketEditor" = some m.cls := hown
  refine own_at (own_ef28_RI m ed (1 : Int32)) ?_
  have hd := D28.to hby
  have N0 := Fr.nil n0
  have kp0 := Keep.refl h0 [ed, ct, nx, px, t2, mm2, fa2, fk2]
  have f1 : ORf Z h0 ed u ct gd px nx nd := ⟨B.1, B.2.1, B.2.2.1, B.2.2.2.1, B.2.2.2.2.1, B.2.2.2.2.2.1, B.2.2.2.2.2.2.1, B.2.2.2.2.2.2.2.1, B.2.2.2.2.2.2.2.2.1, B.2.2.2.2.2.2.2.2.2.1⟩
  have f2 := B.2.2.2.2.2.2.2.2.2.2.1
  have f3 := B.2.2.2.2.2.2.2.2.2.2.2.1
  have f4 := B.2.2.2.2.2.2.2.2.2.2.2.2.1
  have f5 := B.2.2.2.2.2.2.2.2.2.2.2.2.2.1
  have f6 := B.2.2.2.2.2.2.2.2.2.2.2.2.2.2
  refine pA X0 hx (hd.at 0 rfl) rfl rfl ?_
  refine pF X0 hx hZ hown (wd hw 38 rfl) e0 f1.2.2.2.2.2.1 (hd.at 1 rfl) fun T7 X7 e7 => ?_
  refine pI X7 hx (hd.at 2 rfl) rfl ?_
  refine rI X7 hx hZ e7 f6 1 (.int 2) rfl (hd.at 3 rfl) ?_
  refine pS X7 hx #[.val (.ref ed), .val (.int 1), .val (.int 2), .unset] (hd.at 4 rfl) rfl ?_
  refine pA X7 hx (hd.at 5 rfl) rfl rfl ?_
  refine pF X7 hx hZ hown (wd hw 36 rfl) e7 f1.2.2.2.2.1 (hd.at 6 rfl) fun T8 X8 e8 => ?_
  refine pI X8 hx (hd.at 7 rfl) rfl ?_
  refine rI X8 hx hZ e8 f5 1 (.int 0) rfl (hd.at 8 rfl) ?_
  refine pS X8 hx #[.val (.ref ed), .val (.int 1), .val (.int 2), .val (.int 0)] (hd.at 9 rfl) rfl ?_
  refine pA X8 hx (hd.at 10 rfl) rfl rfl ?_
  refine pF X8 hx hZ hown (wd hw 31 rfl) e8 f1.2.2.1 (hd.at 11 rfl) fun T9 X9 e9 => ?_
  refine pI X9 hx (hd.at 12 rfl) rfl ?_
  refine pR (fun _ kS => XT.dup2 X9.here hx rfl (hd.at 13 rfl) rfl rfl rfl kS) ?_
  refine rD X9 hx hZ e9 f3 2 (.double (fc 2)) rfl (hd.at 14 rfl) ?_
  refine pA X9 hx (hd.at 15 rfl) rfl rfl ?_
  refine pF X9 hx hZ hown (wd hw 31 rfl) e9 f1.2.2.1 (hd.at 16 rfl) fun T10 X10 e10 => ?_
  refine pI X10 hx (hd.at 17 rfl) rfl ?_
  refine rD X10 hx hZ e10 f3 1 (.double (fc 1)) rfl (hd.at 18 rfl) ?_
  refine pR (fun _ kS => Jvm.Free.XS.daddS X10.here hx rfl (v := (FP.dadd (fc 2) (fc 1))) (hd.at 19 rfl) rfl (own_mn (Jvm.Free.Fl.dadd_mag (hN 2 (by decide)) (hN 1 (by decide)) (by decide))) rfl kS) ?_
  refine wD X10 hx hZ e10 f3 2 (hd.at 20 rfl) fun T11 h11 X11 e11 W11 V11 => ?_
  have f12 : OArr Z h11 ct .double 4 (fun i => .double ((own_cJ fc) i)) := V11.congr (own_lt4 rfl rfl rfl rfl)
  have n13 := hS.ne 1 2
  replace f2 := f2.other W11 n13
  have n14 := hS.ne 2 3
  have n15 := Ne.symm n14
  replace f4 := f4.other W11 n15
  have n16 := hS.ne 2 4
  have n17 := Ne.symm n16
  replace f5 := f5.other W11 n17
  have n18 := hS.ne 2 5
  have n19 := Ne.symm n18
  replace f6 := f6.other W11 n19
  have n20 := hS.ne 0 2
  replace f1 := f1.keep (Keep.of_wr W11) (ninS n20 nin0)
  have f21 := BW.keep (Keep.of_wr W11) (ninS n20 nin0)
  have n22 := hS.ne 2 6
  have n23 := Ne.symm n22
  have n24 := hS.ne 2 7
  have n25 := Ne.symm n24
  have n26 := hS.ne 2 10
  have n27 := Ne.symm n26
  have n28 := hS.ne 2 11
  have n29 := Ne.symm n28
  have n30 := hS.ne 2 8
  have n31 := Ne.symm n30
  have n32 := hS.ne 2 9
  have n33 := Ne.symm n32
  have f34 := B1.keep (Keep.of_wr W11) (ninS n23 nin0) (ninS n25 nin0) (ninS n27 nin0) (ninS n29 nin0) (ninS n31 nin0) (ninS n33 nin0)
  have n35 := hS.ne 2 12
  have n36 := Ne.symm n35
  have n37 := hS.ne 2 13
  have n38 := Ne.symm n37
  have n39 := hS.ne 2 16
  have n40 := Ne.symm n39
  have n41 := hS.ne 2 17
  have n42 := Ne.symm n41
  have n43 := hS.ne 2 14
  have n44 := Ne.symm n43
  have n45 := hS.ne 2 15
  have n46 := Ne.symm n45
  have f47 := B2.keep (Keep.of_wr W11) (ninS n36 nin0) (ninS n38 nin0) (ninS n40 nin0) (ninS n42 nin0) (ninS n44 nin0) (ninS n46 nin0)
  have fr11 := Fr.snoc X11 N0 (hS.ge 2 rfl)
  have kp11 := kp0.wr W11 (Or.inl (List.mem_of_getElem? (i := 1) rfl))
  refine pA X11 hx (hd.at 21 rfl) rfl rfl ?_
  refine pF X11 hx hZ hown (wd hw 38 rfl) e11 f1.2.2.2.2.2.1 (hd.at 22 rfl) fun T48 X48 e48 => ?_
  refine pI X48 hx (hd.at 23 rfl) rfl ?_
  refine pI X48 hx (hd.at 24 rfl) rfl ?_
  refine wI X48 hx hZ e48 f6 0 (hd.at 25 rfl) fun T49 h49 X49 e49 W49 V49 => ?_
  have f50 : OArr Z h49 nx .int 4 (fun i => .int ((own_q4 (2 : Int32) (2 : Int32) (-1 : Int32) (0 : Int32)) i)) := V49.congr (own_lt4 rfl rfl rfl rfl)
  have n51 := hS.ne 1 5
  replace f2 := f2.other W49 n51
  replace f12 := f12.other W49 n18
  have n52 := hS.ne 3 5
  replace f4 := f4.other W49 n52
  have n53 := hS.ne 4 5
  replace f5 := f5.other W49 n53
  have n54 := hS.ne 0 5
  replace f1 := f1.keep (Keep.of_wr W49) (ninS n54 nin0)
  replace f21 := f21.keep (Keep.of_wr W49) (ninS n54 nin0)
  have n55 := hS.ne 5 6
  have n56 := Ne.symm n55
  have n57 := hS.ne 5 7
  have n58 := Ne.symm n57
  have n59 := hS.ne 5 10
  have n60 := Ne.symm n59
  have n61 := hS.ne 5 11
  have n62 := Ne.symm n61
  have n63 := hS.ne 5 8
  have n64 := Ne.symm n63
  have n65 := hS.ne 5 9
  have n66 := Ne.symm n65
  replace f34 := f34.keep (Keep.of_wr W49) (ninS n56 nin0) (ninS n58 nin0) (ninS n60 nin0) (ninS n62 nin0) (ninS n64 nin0) (ninS n66 nin0)
  have n67 := hS.ne 5 12
  have n68 := Ne.symm n67
  have n69 := hS.ne 5 13
  have n70 := Ne.symm n69
  have n71 := hS.ne 5 16
  have n72 := Ne.symm n71
  have n73 := hS.ne 5 17
  have n74 := Ne.symm n73
  have n75 := hS.ne 5 14
  have n76 := Ne.symm n75
  have n77 := hS.ne 5 15
  have n78 := Ne.symm n77
  replace f47 := f47.keep (Keep.of_wr W49) (ninS n68 nin0) (ninS n70 nin0) (ninS n72 nin0) (ninS n74 nin0) (ninS n76 nin0) (ninS n78 nin0)
  have fr49 := Fr.snoc X49 fr11 (hS.ge 5 rfl)
  have kp49 := kp11.wr W49 (Or.inl (List.mem_of_getElem? (i := 2) rfl))
  refine pA X49 hx (hd.at 26 rfl) rfl rfl ?_
  refine pF X49 hx hZ hown (wd hw 36 rfl) e49 f1.2.2.2.2.1 (hd.at 27 rfl) fun T79 X79 e79 => ?_
  refine pI X79 hx (hd.at 28 rfl) rfl ?_
  refine pI X79 hx (hd.at 29 rfl) rfl ?_
  refine wI X79 hx hZ e79 f5 2 (hd.at 30 rfl) fun T80 h80 X80 e80 W80 V80 => ?_
  have f81 : OArr Z h80 px .int 4 (fun i => .int ((own_q4 (-1 : Int32) (0 : Int32) (0 : Int32) (0 : Int32)) i)) := V80.congr (own_lt4 rfl rfl rfl rfl)
  have n82 := hS.ne 1 4
  replace f2 := f2.other W80 n82
  replace f12 := f12.other W80 n16
  have n83 := hS.ne 3 4
  replace f4 := f4.other W80 n83
  have n84 := Ne.symm n53
  replace f50 := f50.other W80 n84
  have n85 := hS.ne 0 4
  replace f1 := f1.keep (Keep.of_wr W80) (ninS n85 nin0)
  replace f21 := f21.keep (Keep.of_wr W80) (ninS n85 nin0)
  have n86 := hS.ne 4 6
  have n87 := Ne.symm n86
  have n88 := hS.ne 4 7
  have n89 := Ne.symm n88
  have n90 := hS.ne 4 10
  have n91 := Ne.symm n90
  have n92 := hS.ne 4 11
  have n93 := Ne.symm n92
  have n94 := hS.ne 4 8
  have n95 := Ne.symm n94
  have n96 := hS.ne 4 9
  have n97 := Ne.symm n96
  replace f34 := f34.keep (Keep.of_wr W80) (ninS n87 nin0) (ninS n89 nin0) (ninS n91 nin0) (ninS n93 nin0) (ninS n95 nin0) (ninS n97 nin0)
  have n98 := hS.ne 4 12
  have n99 := Ne.symm n98
  have n100 := hS.ne 4 13
  have n101 := Ne.symm n100
  have n102 := hS.ne 4 16
  have n103 := Ne.symm n102
  have n104 := hS.ne 4 17
  have n105 := Ne.symm n104
  have n106 := hS.ne 4 14
  have n107 := Ne.symm n106
  have n108 := hS.ne 4 15
  have n109 := Ne.symm n108
  replace f47 := f47.keep (Keep.of_wr W80) (ninS n99 nin0) (ninS n101 nin0) (ninS n103 nin0) (ninS n105 nin0) (ninS n107 nin0) (ninS n109 nin0)
  have fr80 := Fr.snoc X80 fr49 (hS.ge 4 rfl)
  have kp80 := kp49.wr W80 (Or.inl (List.mem_of_getElem? (i := 3) rfl))
  refine pA X80 hx (hd.at 31 rfl) rfl rfl ?_
  refine pF X80 hx hZ hown (wd hw 36 rfl) e80 f1.2.2.2.2.1 (hd.at 32 rfl) fun T110 X110 e110 => ?_
  refine pI X110 hx (hd.at 33 rfl) rfl ?_
  refine pB X110 hx (-2) (hd.at 34 rfl) rfl ?_
  refine wI X110 hx hZ e110 f81 1 (hd.at 35 rfl) fun T111 h111 X111 e111 W111 V111 => ?_
  have f112 : OArr Z h111 px .int 4 (fun i => .int (own_pJ i)) := V111.congr (own_lt4 rfl rfl rfl rfl)
  replace f2 := f2.other W111 n82
  replace f12 := f12.other W111 n16
  replace f4 := f4.other W111 n83
  replace f50 := f50.other W111 n84
  replace f1 := f1.keep (Keep.of_wr W111) (ninS n85 nin0)
  replace f21 := f21.keep (Keep.of_wr W111) (ninS n85 nin0)
  replace f34 := f34.keep (Keep.of_wr W111) (ninS n87 nin0) (ninS n89 nin0) (ninS n91 nin0) (ninS n93 nin0) (ninS n95 nin0) (ninS n97 nin0)
  replace f47 := f47.keep (Keep.of_wr W111) (ninS n99 nin0) (ninS n101 nin0) (ninS n103 nin0) (ninS n105 nin0) (ninS n107 nin0) (ninS n109 nin0)
  have fr111 := Fr.snoc X111 fr80 (hS.ge 4 rfl)
  have kp111 := kp80.wr W111 (Or.inl (List.mem_of_getElem? (i := 3) rfl))
  refine pA X111 hx (hd.at 36 rfl) rfl rfl ?_
  refine pF X111 hx hZ hown (wd hw 38 rfl) e111 f1.2.2.2.2.2.1 (hd.at 37 rfl) fun T113 X113 e113 => ?_
  refine pI X113 hx (hd.at 38 rfl) rfl ?_
  refine pA X113 hx (hd.at 39 rfl) rfl rfl ?_
  refine pF X113 hx hZ hown (wd hw 15 rfl) e113 f21.1 (hd.at 40 rfl) fun T114 X114 e114 => ?_
  refine wI X114 hx hZ e114 f50 1 (hd.at 41 rfl) fun T115 h115 X115 e115 W115 V115 => ?_
  have f116 : OArr Z h115 nx .int 4 (fun i => .int (own_nJ i)) := V115.congr (own_lt4 rfl rfl rfl rfl)
  replace f2 := f2.other W115 n51
  replace f12 := f12.other W115 n18
  replace f4 := f4.other W115 n52
  replace f112 := f112.other W115 n53
  replace f1 := f1.keep (Keep.of_wr W115) (ninS n54 nin0)
  replace f21 := f21.keep (Keep.of_wr W115) (ninS n54 nin0)
  replace f34 := f34.keep (Keep.of_wr W115) (ninS n56 nin0) (ninS n58 nin0) (ninS n60 nin0) (ninS n62 nin0) (ninS n64 nin0) (ninS n66 nin0)
  replace f47 := f47.keep (Keep.of_wr W115) (ninS n68 nin0) (ninS n70 nin0) (ninS n72 nin0) (ninS n74 nin0) (ninS n76 nin0) (ninS n78 nin0)
  have fr115 := Fr.snoc X115 fr111 (hS.ge 5 rfl)
  have kp115 := kp111.wr W115 (Or.inl (List.mem_of_getElem? (i := 2) rfl))
  refine pA X115 hx (hd.at 42 rfl) rfl rfl ?_
  refine pI X115 hx (hd.at 43 rfl) rfl ?_
  obtain ⟨u117, u118, u119, u120, u121, u122, u123, u124, u125, u126⟩ := f1
  obtain ⟨u127, u128, u129, u130, u131⟩ := f21
  refine pg2 (putF X115 hx hZ hown (host := "") (Or.inl (wd hw 15 rfl)) Via.refl e115 u127 u117 (Or.inl (wd hw 16 rfl)) (wd hw 6 rfl) (ty := .int) (by decide) rfl rfl rfl rfl (hd.at 44 rfl)) fun T132 h132 X132 e132 W132 => ?_
  have f133 := u127.same W132
  have n134 := hS.ne 0 1
  have n135 := Ne.symm n134
  replace f2 := f2.other W132 n135
  have n136 := Ne.symm n20
  replace f12 := f12.other W132 n136
  have n137 := hS.ne 0 3
  have n138 := Ne.symm n137
  replace f4 := f4.other W132 n138
  have n139 := Ne.symm n85
  replace f112 := f112.other W132 n139
  have n140 := Ne.symm n54
  replace f116 := f116.other W132 n140
  replace u117 := u117.wr W132
  replace u118 := u118.other W132 (Or.inr (sl (Or.inl (wd hw 30 rfl)) (Or.inl (wd hw 16 rfl))))
  replace u119 := u119.other W132 (Or.inr (sl (Or.inl (wd hw 32 rfl)) (Or.inl (wd hw 16 rfl))))
  replace u120 := u120.other W132 (Or.inr (sl (Or.inl (wd hw 34 rfl)) (Or.inl (wd hw 16 rfl))))
  replace u121 := u121.other W132 (Or.inr (sl (Or.inl (wd hw 37 rfl)) (Or.inl (wd hw 16 rfl))))
  replace u122 := u122.other W132 (Or.inr (sl (Or.inl (wd hw 39 rfl)) (Or.inl (wd hw 16 rfl))))
  replace u123 := u123.other W132 (Or.inr (sl (Or.inr (wd hw 20 rfl)) (Or.inl (wd hw 16 rfl))))
  replace u124 := u124.other W132 (Or.inr (sl (Or.inr (wd hw 22 rfl)) (Or.inl (wd hw 16 rfl))))
  replace u125 := u125.other W132 (Or.inr (sl (Or.inl (wd hw 24 rfl)) (Or.inl (wd hw 16 rfl))))
  replace u126 := u126.other W132 (Or.inr (sl (Or.inr (wd hw 18 rfl)) (Or.inl (wd hw 16 rfl))))
  replace u128 := u128.other W132 (Or.inr (sl (Or.inl (wd hw 26 rfl)) (Or.inl (wd hw 16 rfl))))
  replace u129 := u129.other W132 (Or.inr (sl (Or.inl (wd hw 64 rfl)) (Or.inl (wd hw 16 rfl))))
  replace u130 := u130.other W132 (Or.inr (sl (Or.inl (wd hw 183 rfl)) (Or.inl (wd hw 16 rfl))))
  replace u131 := u131.other W132 (Or.inr (sl (Or.inl (wd hw 191 rfl)) (Or.inl (wd hw 16 rfl))))
  have n141 := hS.ne 0 6
  have n142 := Ne.symm n141
  have n143 := hS.ne 0 7
  have n144 := Ne.symm n143
  have n145 := hS.ne 0 10
  have n146 := Ne.symm n145
  have n147 := hS.ne 0 11
  have n148 := Ne.symm n147
  have n149 := hS.ne 0 8
  have n150 := Ne.symm n149
  have n151 := hS.ne 0 9
  have n152 := Ne.symm n151
  replace f34 := f34.keep (Keep.of_wr W132) (ninS n142 nin0) (ninS n144 nin0) (ninS n146 nin0) (ninS n148 nin0) (ninS n150 nin0) (ninS n152 nin0)
  have n153 := hS.ne 0 12
  have n154 := Ne.symm n153
  have n155 := hS.ne 0 13
  have n156 := Ne.symm n155
  have n157 := hS.ne 0 16
  have n158 := Ne.symm n157
  have n159 := hS.ne 0 17
  have n160 := Ne.symm n159
  have n161 := hS.ne 0 14
  have n162 := Ne.symm n161
  have n163 := hS.ne 0 15
  have n164 := Ne.symm n163
  replace f47 := f47.keep (Keep.of_wr W132) (ninS n154 nin0) (ninS n156 nin0) (ninS n158 nin0) (ninS n160 nin0) (ninS n162 nin0) (ninS n164 nin0)
  have fr132 := Fr.snoc X132 fr115 (hS.ge 0 rfl)
  have kp132 := kp115.wr W132 (Or.inl (List.mem_of_getElem? (i := 0) rfl))
  refine pA X132 hx (hd.at 45 rfl) rfl rfl ?_
  refine o_dup X132 hx (hd.at 46 rfl) rfl ?_
  refine pF X132 hx hZ hown (wd hw 25 rfl) e132 u128 (hd.at 47 rfl) fun T165 X165 e165 => ?_
  refine pC X165 hx 1 (hd.at 48 rfl) rfl ?_
  refine o_isub X165 hx (hd.at 49 rfl) ?_
  rw [show (((3 : Int32) - (1 : Int32))) = (2 : Int32) from by decide]
  refine pg2 (putF X165 hx hZ hown (host := "") (Or.inl (wd hw 25 rfl)) Via.refl e165 u128 u117 (Or.inl (wd hw 26 rfl)) (wd hw 6 rfl) (ty := .int) (by decide) rfl rfl rfl rfl (hd.at 50 rfl)) fun T166 h166 X166 e166 W166 => ?_
  have f167 := u128.same W166
  replace f2 := f2.other W166 n135
  replace f12 := f12.other W166 n136
  replace f4 := f4.other W166 n138
  replace f112 := f112.other W166 n139
  replace f116 := f116.other W166 n140
  replace u117 := u117.wr W166
  replace u118 := u118.other W166 (Or.inr (sl (Or.inl (wd hw 30 rfl)) (Or.inl (wd hw 26 rfl))))
  replace u119 := u119.other W166 (Or.inr (sl (Or.inl (wd hw 32 rfl)) (Or.inl (wd hw 26 rfl))))
  replace u120 := u120.other W166 (Or.inr (sl (Or.inl (wd hw 34 rfl)) (Or.inl (wd hw 26 rfl))))
  replace u121 := u121.other W166 (Or.inr (sl (Or.inl (wd hw 37 rfl)) (Or.inl (wd hw 26 rfl))))
  replace u122 := u122.other W166 (Or.inr (sl (Or.inl (wd hw 39 rfl)) (Or.inl (wd hw 26 rfl))))
  replace u123 := u123.other W166 (Or.inr (sl (Or.inr (wd hw 20 rfl)) (Or.inl (wd hw 26 rfl))))
  replace u124 := u124.other W166 (Or.inr (sl (Or.inr (wd hw 22 rfl)) (Or.inl (wd hw 26 rfl))))
  replace u125 := u125.other W166 (Or.inr (sl (Or.inl (wd hw 24 rfl)) (Or.inl (wd hw 26 rfl))))
  replace u126 := u126.other W166 (Or.inr (sl (Or.inr (wd hw 18 rfl)) (Or.inl (wd hw 26 rfl))))
  replace f133 := f133.other W166 (Or.inr (sl (Or.inl (wd hw 16 rfl)) (Or.inl (wd hw 26 rfl))))
  replace u129 := u129.other W166 (Or.inr (sl (Or.inl (wd hw 64 rfl)) (Or.inl (wd hw 26 rfl))))
  replace u130 := u130.other W166 (Or.inr (sl (Or.inl (wd hw 183 rfl)) (Or.inl (wd hw 26 rfl))))
  replace u131 := u131.other W166 (Or.inr (sl (Or.inl (wd hw 191 rfl)) (Or.inl (wd hw 26 rfl))))
  replace f34 := f34.keep (Keep.of_wr W166) (ninS n142 nin0) (ninS n144 nin0) (ninS n146 nin0) (ninS n148 nin0) (ninS n150 nin0) (ninS n152 nin0)
  replace f47 := f47.keep (Keep.of_wr W166) (ninS n154 nin0) (ninS n156 nin0) (ninS n158 nin0) (ninS n160 nin0) (ninS n162 nin0) (ninS n164 nin0)
  have fr166 := Fr.snoc X166 fr132 (hS.ge 0 rfl)
  have kp166 := kp132.wr W166 (Or.inl (List.mem_of_getElem? (i := 0) rfl))
  refine pA X166 hx (hd.at 51 rfl) rfl rfl ?_
  refine pF X166 hx hZ hown (wd hw 63 rfl) e166 u129 (hd.at 52 rfl) fun T168 X168 e168 => ?_
  refine pI X168 hx (hd.at 53 rfl) rfl ?_
  obtain ⟨u169, u170, u171, u172, u173, u174, u175, u176, u177, u178, u179, u180, u181, u182, u183, u184⟩ := id f34
  refine pgN (own_virtual X168 hx hZ (y := yN5) (z := yN5) (rm := ⟨1, 0, 0, 13⟩) (W := 0) (a := t) (argsL := [(.int 1)]) (rest := []) hown (wd hw 69 rfl) (wd hw 70 rfl) (notFace_of_selects (args := #[]) (mvT hZ (wd hw 72 rfl))) (wd hw 72 rfl) (wd hw 71 rfl) (wd hw 42 rfl) (wd hw 73 rfl) (rmRe0 l Z a0 hw t (1 : Int32) h166 mm (0 : Int64) u169 u174 u180 (by decide) (by decide)) e168 u169 rfl (by rw [hml]; rfl) (lenOf own_pd10 rfl) rfl (by exact Nat.le_of_eq rfl) (hd.at 54 rfl) (by decide) (by decide) (by decide) (by decide)) fun T185 X185 e185 => ?_
  refine pA X185 hx (hd.at 55 rfl) rfl rfl ?_
  refine pF X185 hx hZ hown (wd hw 190 rfl) e185 u131 (hd.at 56 rfl) fun T186 X186 e186 => ?_
  refine pn X186 hx 99 (hd.at 57 rfl) ?_
  refine pA X186 hx (hd.at 58 rfl) rfl rfl ?_
  refine pF X186 hx hZ hown (wd hw 182 rfl) e186 u130 (hd.at 59 rfl) fun T187 X187 e187 => ?_
  refine own_st (fun _ kS => XS.ifnullNo X187.here hx rfl (hd.at 60 rfl) rfl kS) ?_
  show OFin p e below s _ _ _ (T187.setTop (mkF m 106 #[.val (.ref ed), .val (.int 1), .val (.int 2), .val (.int 0)] []))
  refine pA X187 hx (hd.at 65 rfl) rfl rfl ?_
  refine pF X187 hx hZ hown (wd hw 182 rfl) e187 u130 (hd.at 66 rfl) fun T188 X188 e188 => ?_
  refine pI X188 hx (hd.at 67 rfl) rfl ?_
  have n189 := hS.ne 12 17
  have n190 := hS.ne 12 16
  have n191 := hS.ne 12 15
  have n192 := hS.ne 12 14
  have n193 := hS.ne 12 13
  have n194 := hS.ne 13 17
  have n195 := hS.ne 13 16
  have n196 := hS.ne 13 15
  have n197 := hS.ne 13 14
  have n198 := hS.ne 14 17
  have n199 := hS.ne 14 16
  have n200 := hS.ne 14 15
  have n201 := hS.ne 15 17
  have n202 := hS.ne 15 16
  have n203 := hS.ne 16 17
  refine pgV (own_virtual X188 hx hZ (y := yN5) (z := yN5) (rm := ⟨10, 0, 0, 173⟩) (W := 0) (a := t2) (argsL := [(.int 1)]) (rest := []) hown (wd hw 69 rfl) (wd hw 70 rfl) (notFace_of_selects (args := #[]) (mvT hZ (wd hw 72 rfl))) (wd hw 72 rfl) (wd hw 71 rfl) (wd hw 42 rfl) (wd hw 73 rfl) (rmRe1 l Z a0 hw t2 h166 n0 mm2 fa2 fk2 k3 k4 ed sz2 r02 d02 d2 f47 (OOrd.cons (hS.ge 12 rfl) (allS n193 (allS n192 (allS n191 (allS n190 (allS n189 all0))))) (OOrd.cons (hS.ge 13 rfl) (allS n197 (allS n196 (allS n195 (allS n194 all0)))) (OOrd.cons (hS.ge 14 rfl) (allS n200 (allS n199 (allS n198 all0))) (OOrd.cons (hS.ge 15 rfl) (allS n202 (allS n201 all0)) (OOrd.cons (hS.ge 16 rfl) (allS n203 all0) (OOrd.cons (hS.ge 17 rfl) all0 OOrd.nil))))))) e188 f47.1 rfl (by rw [hml]; rfl) (lenOf own_pd10 rfl) rfl (by exact Nat.le_of_eq rfl) (hd.at 68 rfl) (by decide) (by decide) (by decide) (by decide)) fun T204 L204 X204 hQ204 => ?_
  obtain ⟨N204, K204, d', BT2⟩ := hQ204
  have fr204 := Fr.app fr166 N204
  have kp204 := kp166.trans K204 (allS (Or.inl (List.mem_of_getElem? (i := 4) rfl)) (allS (Or.inl (List.mem_of_getElem? (i := 5) rfl)) (allS (Or.inl (List.mem_of_getElem? (i := 6) rfl)) (allS (Or.inl (List.mem_of_getElem? (i := 7) rfl)) all0))))
  have n205 := hS.ne 1 15
  have n206 := hS.ne 1 14
  have n207 := hS.ne 1 13
  have n208 := hS.ne 1 12
  replace f2 := f2.keep K204 (ninS n208 (ninS n207 (ninS n206 (ninS n205 nin0))))
  replace f12 := f12.keep K204 (ninS n35 (ninS n37 (ninS n43 (ninS n45 nin0))))
  have n209 := hS.ne 3 15
  have n210 := hS.ne 3 14
  have n211 := hS.ne 3 13
  have n212 := hS.ne 3 12
  replace f4 := f4.keep K204 (ninS n212 (ninS n211 (ninS n210 (ninS n209 nin0))))
  replace f112 := f112.keep K204 (ninS n98 (ninS n100 (ninS n106 (ninS n108 nin0))))
  replace f116 := f116.keep K204 (ninS n67 (ninS n69 (ninS n75 (ninS n77 nin0))))
  replace u117 := u117.keep K204
  replace u118 := u118.keep K204 (ninS n153 (ninS n155 (ninS n161 (ninS n163 nin0))))
  replace u119 := u119.keep K204 (ninS n153 (ninS n155 (ninS n161 (ninS n163 nin0))))
  replace u120 := u120.keep K204 (ninS n153 (ninS n155 (ninS n161 (ninS n163 nin0))))
  replace u121 := u121.keep K204 (ninS n153 (ninS n155 (ninS n161 (ninS n163 nin0))))
  replace u122 := u122.keep K204 (ninS n153 (ninS n155 (ninS n161 (ninS n163 nin0))))
  replace u123 := u123.keep K204 (ninS n153 (ninS n155 (ninS n161 (ninS n163 nin0))))
  replace u124 := u124.keep K204 (ninS n153 (ninS n155 (ninS n161 (ninS n163 nin0))))
  replace u125 := u125.keep K204 (ninS n153 (ninS n155 (ninS n161 (ninS n163 nin0))))
  replace u126 := u126.keep K204 (ninS n153 (ninS n155 (ninS n161 (ninS n163 nin0))))
  replace f133 := f133.keep K204 (ninS n153 (ninS n155 (ninS n161 (ninS n163 nin0))))
  replace f167 := f167.keep K204 (ninS n153 (ninS n155 (ninS n161 (ninS n163 nin0))))
  replace u129 := u129.keep K204 (ninS n153 (ninS n155 (ninS n161 (ninS n163 nin0))))
  replace u130 := u130.keep K204 (ninS n153 (ninS n155 (ninS n161 (ninS n163 nin0))))
  replace u131 := u131.keep K204 (ninS n153 (ninS n155 (ninS n161 (ninS n163 nin0))))
  have f213 := f47.1.keep K204
  have n214 := hS.ne 6 15
  have n215 := hS.ne 6 14
  have n216 := hS.ne 6 13
  have n217 := hS.ne 6 12
  have n218 := hS.ne 7 15
  have n219 := hS.ne 7 14
  have n220 := hS.ne 7 13
  have n221 := hS.ne 7 12
  have n222 := hS.ne 10 15
  have n223 := hS.ne 10 14
  have n224 := hS.ne 10 13
  have n225 := hS.ne 10 12
  have n226 := hS.ne 11 15
  have n227 := hS.ne 11 14
  have n228 := hS.ne 11 13
  have n229 := hS.ne 11 12
  have n230 := hS.ne 8 15
  have n231 := hS.ne 8 14
  have n232 := hS.ne 8 13
  have n233 := hS.ne 8 12
  have n234 := hS.ne 9 15
  have n235 := hS.ne 9 14
  have n236 := hS.ne 9 13
  have n237 := hS.ne 9 12
  replace f34 := f34.keep K204 (ninS n217 (ninS n216 (ninS n215 (ninS n214 nin0)))) (ninS n221 (ninS n220 (ninS n219 (ninS n218 nin0)))) (ninS n225 (ninS n224 (ninS n223 (ninS n222 nin0)))) (ninS n229 (ninS n228 (ninS n227 (ninS n226 nin0)))) (ninS n233 (ninS n232 (ninS n231 (ninS n230 nin0)))) (ninS n237 (ninS n236 (ninS n235 (ninS n234 nin0))))
  refine pA X204 hx (hd.at 61 rfl) rfl rfl ?_
  refine pI X204 hx (hd.at 62 rfl) rfl ?_
  obtain ⟨u238, u239, u240, u241, u242, u243, u244, u245, u246, u247, u248, u249, u250, u251, u252, u253⟩ := id f34
  have BM1 : OTM Z T204.heap t mm 0 := ⟨u238, u243, u249⟩
  obtain ⟨u254, u255, u256, u257, u258, u259, u260, u261, u262, u263, u264, u265, u266, u267, u268, u269⟩ := id BT2
  have BM2 : OTM Z T204.heap t2 mm2 0 := ⟨u254, u259, u265⟩
  have BEO : OEo Z T204.heap ed px nx t (.ref t2) := ⟨u117, u121, u122, u129, u130, u131, f112, f116⟩
  refine pgN (own_private X204 hx hZ (y := yN30) (rm := ⟨4, 0, 0, 54⟩) (W := 0) (a := ed) (argsL := [(.int 2)]) (rest := []) hown (wd hw 197 rfl) (wd hw 198 rfl) (wd hw 199 rfl) (wd hw 107 rfl) rfl (wd hw 7 rfl) (wd hw 200 rfl) (rmRAB l Z a0 hw ed T204.heap px nx t mm t2 mm2 BEO BM1 BM2) rfl u117 rfl (by rw [hml]; rfl) (lenOf own_pd10 rfl) rfl (by exact Nat.le_of_eq rfl) (hd.at 63 rfl) (by decide) (by decide) (by decide) (by decide)) fun T270 X270 e270 => ?_
  exact own_retV X270 hx hret hlk (hd.at 64 rfl) (by decide) (by decide) (by show _ ∧ _ ∧ Keep h0 T270.heap _ ∧ _; rw [e270]; exact ⟨rfl, fr204, kp204, f167, u117, u118, u119, u120, u122, f2, f12, f4, f116⟩)
set_option maxRecDepth 65536 in
set_option maxHeartbeats 40000000 in
theorem rmJDA (l : Launch) (Z : State) (a0 : Array Value) (hw : ∀ d ∈ tables_1, d.before a0 Z = true) (ed : Addr) (h0 : Heap) (n0 : Nat) (u ct gd px nx : Addr) (fu fc : Nat → UInt64) (fg : Nat → Int32) (nd : UInt64) (t mm fa fk k1 k2 : Addr) (sz r0 : Int32) (d0 d : UInt64) (Z0 : n0 ≤ h0.size) (B : ORd Z h0 ed u ct gd px nx fu fc fg own_p3 own_n3 nd) (hU : OUp fu) (hN : OCn fc) (hD : Mag64 1088 nd) (BW : OEw Z h0 ed t 3 .null) (B1 : OTP Z h0 t mm fa fk k1 k2 ed 2 sz 1 r0 (1 : Int32) d0 d) (hS : OOrd n0 [ed, u, ct, gd, px, nx, t, mm, fa, fk, k1, k2]) :
    OMet l Z yN26 prog_72_method_5_code 4 none (⟨12, 6, 17, 3100⟩ : Room) #[(.ref ed), (.int 2)] h0 (fun v h L => v = none ∧ Fr n0 L ∧ Keep h0 h [ed, ct, nx, px, t, mm, fa, fk] ∧ OWr Z h ed u ct gd nx fu (own_cJ fc) fg own_nJ) := by
  refine own_enter own_pn26 ?_
  intro p e s m below meth c T0 X0 hC e0 hnamed
  have hC0 := hC
  obtain ⟨hx, hZH, hby, hml, hown, hret, hlk, hnm⟩ := hC
  have hZ := hZH.wide
  have hown : s.vm.findClass "com/example/rankfold/rankfold/summaries/BucketEditor" = some m.cls := hown
  refine own_at (own_ef26_RI m ed (2 : Int32)) ?_
  have hd := D26.to hby
  have N0 := Fr.nil n0
  have kp0 := Keep.refl h0 [ed, ct, nx, px, t, mm, fa, fk]
  refine pA X0 hx (hd.at 0 rfl) rfl rfl ?_
  refine pF X0 hx hZ hown (wd hw 25 rfl) e0 BW.2.1 (hd.at 1 rfl) fun T1 X1 e1 => ?_
  refine pI X1 hx (hd.at 2 rfl) rfl ?_
  refine pcN X1 hx (hd.at 3 rfl) ((tlt (by decide)).2.2.2) ?_
  refine pA X1 hx (hd.at 4 rfl) rfl rfl ?_
  refine pF X1 hx hZ hown (wd hw 63 rfl) e1 BW.2.2.1 (hd.at 5 rfl) fun T2 X2 e2 => ?_
  refine pgP (own_virtual X2 hx hZ (y := yN27) (z := yN27) (rm := ⟨0, 0, 0, 0⟩) (W := 0) (a := t) (argsL := []) (rest := []) hown (wd hw 177 rfl) (wd hw 178 rfl) (notFace_of_selects (args := #[]) (mvT hZ (wd hw 180 rfl))) (wd hw 180 rfl) (wd hw 179 rfl) (wd hw 42 rfl) (wd hw 181 rfl) (rmFi l Z a0 hw t h0 mm fa fk k1 k2 ed 2 sz 1 r0 (1 : Int32) d0 d B1) e2 B1.1 rfl (by rw [hml]; rfl) (lenOf own_pd13 rfl) rfl (by exact Nat.le_of_eq rfl) (hd.at 6 rfl) (by decide) (by decide) (by decide) (by decide)) fun T3 X3 e3 => ?_
  refine pS X3 hx #[.val (.ref ed), .val (.int 2), .val (.int 1), .unset] (hd.at 7 rfl) rfl ?_
  refine pI X3 hx (hd.at 8 rfl) rfl ?_
  refine pC X3 hx (-1) (hd.at 9 rfl) rfl ?_
  refine pcY X3 hx 99 (hd.at 10 rfl) ((feq (by decide)).2) ?_
  refine pA X3 hx (hd.at 11 rfl) rfl rfl ?_
  refine pI X3 hx (hd.at 12 rfl) rfl ?_
  have f4 : ORd Z h0 ed u ct gd px nx fu fc fg own_p3 own_n3 nd := ⟨B.1, B.2.1, B.2.2.1, B.2.2.2.1, B.2.2.2.2.1, B.2.2.2.2.2.1, B.2.2.2.2.2.2.1, B.2.2.2.2.2.2.2.1, B.2.2.2.2.2.2.2.2.1, B.2.2.2.2.2.2.2.2.2.1, B.2.2.2.2.2.2.2.2.2.2.1, B.2.2.2.2.2.2.2.2.2.2.2.1, B.2.2.2.2.2.2.2.2.2.2.2.2.1, B.2.2.2.2.2.2.2.2.2.2.2.2.2.1, B.2.2.2.2.2.2.2.2.2.2.2.2.2.2⟩
  have f5 : OEw Z h0 ed t (3 : Int32) .null := ⟨BW.1, BW.2.1, BW.2.2.1, BW.2.2.2.1, BW.2.2.2.2⟩
  have n6 := hS.ne 0 11
  have n7 := hS.ne 0 10
  have n8 := hS.ne 0 9
  have n9 := hS.ne 0 8
  have n10 := hS.ne 0 7
  have n11 := hS.ne 0 6
  have n12 := hS.ne 0 5
  have n13 := hS.ne 0 4
  have n14 := hS.ne 0 3
  have n15 := hS.ne 0 2
  have n16 := hS.ne 0 1
  have n17 := hS.ne 1 11
  have n18 := hS.ne 1 10
  have n19 := hS.ne 1 9
  have n20 := hS.ne 1 8
  have n21 := hS.ne 1 7
  have n22 := hS.ne 1 6
  have n23 := hS.ne 1 5
  have n24 := hS.ne 1 4
  have n25 := hS.ne 1 3
  have n26 := hS.ne 1 2
  have n27 := hS.ne 2 11
  have n28 := hS.ne 2 10
  have n29 := hS.ne 2 9
  have n30 := hS.ne 2 8
  have n31 := hS.ne 2 7
  have n32 := hS.ne 2 6
  have n33 := hS.ne 2 5
  have n34 := hS.ne 2 4
  have n35 := hS.ne 2 3
  have n36 := hS.ne 3 11
  have n37 := hS.ne 3 10
  have n38 := hS.ne 3 9
  have n39 := hS.ne 3 8
  have n40 := hS.ne 3 7
  have n41 := hS.ne 3 6
  have n42 := hS.ne 3 5
  have n43 := hS.ne 3 4
  have n44 := hS.ne 4 11
  have n45 := hS.ne 4 10
  have n46 := hS.ne 4 9
  have n47 := hS.ne 4 8
  have n48 := hS.ne 4 7
  have n49 := hS.ne 4 6
  have n50 := hS.ne 4 5
  have n51 := hS.ne 5 11
  have n52 := hS.ne 5 10
  have n53 := hS.ne 5 9
  have n54 := hS.ne 5 8
  have n55 := hS.ne 5 7
  have n56 := hS.ne 5 6
  have n57 := hS.ne 6 11
  have n58 := hS.ne 6 10
  have n59 := hS.ne 6 9
  have n60 := hS.ne 6 8
  have n61 := hS.ne 6 7
  have n62 := hS.ne 7 11
  have n63 := hS.ne 7 10
  have n64 := hS.ne 7 9
  have n65 := hS.ne 7 8
  have n66 := hS.ne 8 11
  have n67 := hS.ne 8 10
  have n68 := hS.ne 8 9
  have n69 := hS.ne 9 11
  have n70 := hS.ne 9 10
  have n71 := hS.ne 10 11
  have hSj := (OOrd.cons (hS.ge 0 rfl) (allS n16 (allS n15 (allS n14 (allS n13 (allS n12 (allS n11 (allS n10 (allS n9 (allS n8 (allS n7 (allS n6 all0))))))))))) (OOrd.cons (hS.ge 1 rfl) (allS n26 (allS n25 (allS n24 (allS n23 (allS n22 (allS n21 (allS n20 (allS n19 (allS n18 (allS n17 all0)))))))))) (OOrd.cons (hS.ge 2 rfl) (allS n35 (allS n34 (allS n33 (allS n32 (allS n31 (allS n30 (allS n29 (allS n28 (allS n27 all0))))))))) (OOrd.cons (hS.ge 3 rfl) (allS n43 (allS n42 (allS n41 (allS n40 (allS n39 (allS n38 (allS n37 (allS n36 all0)))))))) (OOrd.cons (hS.ge 4 rfl) (allS n50 (allS n49 (allS n48 (allS n47 (allS n46 (allS n45 (allS n44 all0))))))) (OOrd.cons (hS.ge 5 rfl) (allS n56 (allS n55 (allS n54 (allS n53 (allS n52 (allS n51 all0)))))) (OOrd.cons (hS.ge 6 rfl) (allS n61 (allS n60 (allS n59 (allS n58 (allS n57 all0))))) (OOrd.cons (hS.ge 7 rfl) (allS n65 (allS n64 (allS n63 (allS n62 all0)))) (OOrd.cons (hS.ge 8 rfl) (allS n68 (allS n67 (allS n66 all0))) (OOrd.cons (hS.ge 9 rfl) (allS n70 (allS n69 all0)) (OOrd.cons (hS.ge 10 rfl) (allS n71 all0) (OOrd.cons (hS.ge 11 rfl) all0 OOrd.nil))))))))))))
  refine pgV (own_private X3 hx hZ (y := yN28) (rm := ⟨11, 0, 0, 186⟩) (W := 0) (a := ed) (argsL := [(.int 1)]) (rest := []) hown (wd hw 186 rfl) (wd hw 187 rfl) (wd hw 188 rfl) (wd hw 107 rfl) rfl (wd hw 7 rfl) (wd hw 189 rfl) (rmJoA l Z a0 hw ed h0 n0 u ct gd px nx fu fc fg nd t mm fa fk k1 k2 sz r0 d0 d f4 hU hN hD f5 B1 hSj) e3 B.1 rfl (by rw [hml]; rfl) (lenOf own_pd10 rfl) rfl (by exact Nat.le_of_eq rfl) (hd.at 13 rfl) (by decide) (by decide) (by decide) (by decide)) fun T72 L72 X72 hQ72 => ?_
  obtain ⟨N72, K72, FSz, BWr⟩ := hQ72
  have fr72 := Fr.app N0 N72
  have kp72 := kp0.trans K72 (allS (Or.inl (List.mem_of_getElem? (i := 0) rfl)) (allS (Or.inl (List.mem_of_getElem? (i := 1) rfl)) (allS (Or.inl (List.mem_of_getElem? (i := 2) rfl)) (allS (Or.inl (List.mem_of_getElem? (i := 3) rfl)) (allS (Or.inl (List.mem_of_getElem? (i := 4) rfl)) (allS (Or.inl (List.mem_of_getElem? (i := 5) rfl)) (allS (Or.inl (List.mem_of_getElem? (i := 6) rfl)) (allS (Or.inl (List.mem_of_getElem? (i := 7) rfl)) all0))))))))
  have sz72 : n0 ≤ T72.heap.size := Nat.le_trans Z0 K72.1
  refine pG X72 hx 0 (hd.at 14 rfl) ?_
  refine pA X72 hx (hd.at 0 rfl) rfl rfl ?_
  refine pF X72 hx hZ hown (wd hw 25 rfl) rfl FSz (hd.at 1 rfl) fun T73 X73 e73 => ?_
  refine pI X73 hx (hd.at 2 rfl) rfl ?_
  refine pcY X73 hx 107 (hd.at 3 rfl) ((flt (by decide)).2.2.2) ?_
  exact own_retV X73 hx hret hlk (hd.at 15 rfl) (by decide) (by decide) (by show _ ∧ _ ∧ Keep h0 T73.heap _ ∧ _; rw [e73]; exact ⟨rfl, fr72, kp72, BWr⟩)
set_option maxRecDepth 65536 in
set_option maxHeartbeats 40000000 in
theorem rmJDB (l : Launch) (Z : State) (a0 : Array Value) (hw : ∀ d ∈ tables_1, d.before a0 Z = true) (ed : Addr) (h0 : Heap) (n0 : Nat) (u ct gd px nx : Addr) (fu fc : Nat → UInt64) (fg : Nat → Int32) (nd : UInt64) (t mm fa fk k1 k2 : Addr) (sz r0 : Int32) (d0 d : UInt64) (Z0 : n0 ≤ h0.size) (B : ORd Z h0 ed u ct gd px nx fu fc fg own_p3 own_n3 nd) (hU : OUp fu) (hN : OCn fc) (hD : Mag64 1088 nd) (BW : OEw Z h0 ed t 3 .null) (B1 : OTP Z h0 t mm fa fk k1 k2 ed 0 sz 1 r0 (-1 : Int32) d0 d) (hS : OOrd n0 [ed, u, ct, gd, px, nx, t, mm, fa, fk, k1, k2]) :
    OMet l Z yN26 prog_72_method_5_code 4 none (⟨12, 6, 17, 3100⟩ : Room) #[(.ref ed), (.int 2)] h0 (fun v h L => v = none ∧ Fr n0 L ∧ Keep h0 h [ed, ct, nx, px] ∧ OWr Z h ed u ct gd nx fu (own_cJ fc) fg own_nJ) := by
  refine own_enter own_pn26 ?_
  intro p e s m below meth c T0 X0 hC e0 hnamed
  have hC0 := hC
  obtain ⟨hx, hZH, hby, hml, hown, hret, hlk, hnm⟩ := hC
  have hZ := hZH.wide
  have hown : s.vm.findClass "com/example/rankfold/rankfold/summaries/BucketEditor" = some m.cls := hown
  refine own_at (own_ef26_RI m ed (2 : Int32)) ?_
  have hd := D26.to hby
  have N0 := Fr.nil n0
  have kp0 := Keep.refl h0 [ed, ct, nx, px]
  refine pA X0 hx (hd.at 0 rfl) rfl rfl ?_
  refine pF X0 hx hZ hown (wd hw 25 rfl) e0 BW.2.1 (hd.at 1 rfl) fun T1 X1 e1 => ?_
  refine pI X1 hx (hd.at 2 rfl) rfl ?_
  refine pcN X1 hx (hd.at 3 rfl) ((tlt (by decide)).2.2.2) ?_
  refine pA X1 hx (hd.at 4 rfl) rfl rfl ?_
  refine pF X1 hx hZ hown (wd hw 63 rfl) e1 BW.2.2.1 (hd.at 5 rfl) fun T2 X2 e2 => ?_
  refine pgP (own_virtual X2 hx hZ (y := yN27) (z := yN27) (rm := ⟨0, 0, 0, 0⟩) (W := 0) (a := t) (argsL := []) (rest := []) hown (wd hw 177 rfl) (wd hw 178 rfl) (notFace_of_selects (args := #[]) (mvT hZ (wd hw 180 rfl))) (wd hw 180 rfl) (wd hw 179 rfl) (wd hw 42 rfl) (wd hw 181 rfl) (rmFi l Z a0 hw t h0 mm fa fk k1 k2 ed 0 sz 1 r0 (-1 : Int32) d0 d B1) e2 B1.1 rfl (by rw [hml]; rfl) (lenOf own_pd13 rfl) rfl (by exact Nat.le_of_eq rfl) (hd.at 6 rfl) (by decide) (by decide) (by decide) (by decide)) fun T3 X3 e3 => ?_
  refine pS X3 hx #[.val (.ref ed), .val (.int 2), .val (.int (-1)), .unset] (hd.at 7 rfl) rfl ?_
  refine pI X3 hx (hd.at 8 rfl) rfl ?_
  refine pC X3 hx (-1) (hd.at 9 rfl) rfl ?_
  refine pcN X3 hx (hd.at 10 rfl) ((teq rfl).2) ?_
  refine pA X3 hx (hd.at 16 rfl) rfl rfl ?_
  refine pF X3 hx hZ hown (wd hw 182 rfl) e3 BW.2.2.2.1 (hd.at 17 rfl) fun T4 X4 e4 => ?_
  refine own_st (fun _ kS => XS.ifnonnullNo X4.here hx rfl (hd.at 18 rfl) rfl kS) ?_
  show OFin p e below s _ _ _ (T4.setTop (mkF m 28 #[.val (.ref ed), .val (.int 2), .val (.int (-1)), .unset] []))
  refine pA X4 hx (hd.at 19 rfl) rfl rfl ?_
  refine pg5 (newO X4 hx hZ hown (wd hw 40 rfl) (wd hw 41 rfl) (wd hw 42 rfl) e4 rfl (hd.at 20 rfl) (by decide) (by decide)) fun T5 h5 X5 e5 E5 A5 D5 _ => ?_
  obtain ⟨t2, g5⟩ : ∃ z, z = h0.size := ⟨_, rfl⟩
  rw [← g5] at A5 D5 ⊢
  have ne_ct_t2 : ct ≠ t2 := Nat.ne_of_lt (Nat.lt_of_lt_of_le B.2.2.2.2.2.2.2.2.2.2.2.1.lt (Nat.le_of_eq g5.symm))
  have ne_ed_t2 : ed ≠ t2 := Nat.ne_of_lt (Nat.lt_of_lt_of_le B.1.lt (Nat.le_of_eq g5.symm))
  have ne_fa_t2 : fa ≠ t2 := Nat.ne_of_lt (Nat.lt_of_lt_of_le B1.2.2.2.2.2.2.2.2.2.2.2.2.2.2.1.lt (Nat.le_of_eq g5.symm))
  have ne_fk_t2 : fk ≠ t2 := Nat.ne_of_lt (Nat.lt_of_lt_of_le B1.2.2.2.2.2.2.2.2.2.2.2.2.2.2.2.lt (Nat.le_of_eq g5.symm))
  have ne_gd_t2 : gd ≠ t2 := Nat.ne_of_lt (Nat.lt_of_lt_of_le B.2.2.2.2.2.2.2.2.2.2.2.2.1.lt (Nat.le_of_eq g5.symm))
  have ne_k1_t2 : k1 ≠ t2 := Nat.ne_of_lt (Nat.lt_of_lt_of_le B1.2.2.2.2.2.2.2.2.2.2.2.2.1.lt (Nat.le_of_eq g5.symm))
  have ne_k2_t2 : k2 ≠ t2 := Nat.ne_of_lt (Nat.lt_of_lt_of_le B1.2.2.2.2.2.2.2.2.2.2.2.2.2.1.lt (Nat.le_of_eq g5.symm))
  have ne_mm_t2 : mm ≠ t2 := Nat.ne_of_lt (Nat.lt_of_lt_of_le B1.2.2.2.2.2.2.2.2.2.2.2.1.lt (Nat.le_of_eq g5.symm))
  have ne_nx_t2 : nx ≠ t2 := Nat.ne_of_lt (Nat.lt_of_lt_of_le B.2.2.2.2.2.2.2.2.2.2.2.2.2.2.lt (Nat.le_of_eq g5.symm))
  have ne_px_t2 : px ≠ t2 := Nat.ne_of_lt (Nat.lt_of_lt_of_le B.2.2.2.2.2.2.2.2.2.2.2.2.2.1.lt (Nat.le_of_eq g5.symm))
  have ne_t_t2 : t ≠ t2 := Nat.ne_of_lt (Nat.lt_of_lt_of_le B1.1.lt (Nat.le_of_eq g5.symm))
  have ne_u_t2 : u ≠ t2 := Nat.ne_of_lt (Nat.lt_of_lt_of_le B.2.2.2.2.2.2.2.2.2.2.1.lt (Nat.le_of_eq g5.symm))
  have g_t2 : n0 ≤ t2 := Nat.le_trans Z0 (Nat.le_of_eq g5.symm)
  have f6 := B.keep ((Keep.refl h0 []).ext E5) nin0 nin0 nin0 nin0 nin0 nin0
  have f7 := BW.keep ((Keep.refl h0 []).ext E5) nin0
  have f8 := B1.keep ((Keep.refl h0 []).ext E5) nin0 nin0 nin0 nin0 nin0 nin0
  have f9 : Fld Z h5 t2 "com/example/rankfold/rankfold/summaries/Tournament" "largestFirst" "Z" (.int 0) := D5 (Or.inr (wd hw 53 rfl)) (ty := .boolean) (by decide)
  have f10 : Fld Z h5 t2 "com/example/rankfold/rankfold/summaries/Tournament" "keyOf" "Ljava/util/function/IntToDoubleFunction;" .null := D5 (Or.inr (wd hw 55 rfl)) (ty := (.object "java/util/function/IntToDoubleFunction")) (by decide)
  have f11 : Fld Z h5 t2 "com/example/rankfold/rankfold/summaries/Tournament" "order" "Ljava/util/function/IntToDoubleFunction;" .null := D5 (Or.inr (wd hw 57 rfl)) (ty := (.object "java/util/function/IntToDoubleFunction")) (by decide)
  have f12 : Fld Z h5 t2 "com/example/rankfold/rankfold/summaries/Tournament" "capacity" "I" (.int 0) := D5 (Or.inl (wd hw 59 rfl)) (ty := .int) (by decide)
  have f13 : Fld Z h5 t2 "com/example/rankfold/rankfold/summaries/Tournament" "members" "[J" .null := D5 (Or.inl (wd hw 62 rfl)) (ty := (.array .long)) (by decide)
  have f14 : Fld Z h5 t2 "com/example/rankfold/rankfold/summaries/Tournament" "blocks" "I" (.int 0) := D5 (Or.inl (wd hw 89 rfl)) (ty := .int) (by decide)
  have f15 : Fld Z h5 t2 "com/example/rankfold/rankfold/summaries/Tournament" "firsts" "[I" .null := D5 (Or.inl (wd hw 91 rfl)) (ty := (.array .int)) (by decide)
  have f16 : Fld Z h5 t2 "com/example/rankfold/rankfold/summaries/Tournament" "firstKeys" "[D" .null := D5 (Or.inl (wd hw 93 rfl)) (ty := (.array .double)) (by decide)
  have f17 : Fld Z h5 t2 "com/example/rankfold/rankfold/summaries/Tournament" "planted" "Z" (.int 0) := D5 (Or.inl (wd hw 103 rfl)) (ty := .boolean) (by decide)
  have f18 : Fld Z h5 t2 "com/example/rankfold/rankfold/summaries/Tournament" "size" "I" (.int 0) := D5 (Or.inl (wd hw 128 rfl)) (ty := .int) (by decide)
  have sz5 : n0 ≤ h5.size := Nat.le_trans Z0 E5.1
  have kp5 := kp0.ext E5
  have kz_t2 := Nat.le_trans kp0.1 (Nat.le_of_eq g5.symm)
  have f19 : OT9 Z h5 t2 := ⟨A5, f9, f10, f11, f12, f13, f18, f17, f14, f15, f16⟩
  refine o_dup X5 hx (hd.at 21 rfl) rfl ?_
  refine pC X5 hx 0 (hd.at 22 rfl) rfl ?_
  refine pA X5 hx (hd.at 23 rfl) rfl rfl ?_
  refine pF X5 hx hZ hown (wd hw 29 rfl) e5 f6.2.1 (hd.at 24 rfl) fun T20 X20 e20 => ?_
  obtain ⟨cl21, Ar21, S21, B21, H21⟩ := id f6.2.2.2.2.2.2.2.2.2.2.1
  have hl21 := own_len S21 (rfl : _ = (4 : Int32))
  refine own_st (X20.arraylength hx (by rw [e20]; exact Ar21.1) (State.isArrayOf_alike hZ.alike Ar21.2.1) rfl rfl (hd.at 25 rfl)) ?_
  rw [hl21]
  show OFin p e below s _ _ _ (T20.setTop (mkF m 39 #[.val (.ref ed), .val (.int 2), .val (.int (-1)), .unset] [(.int 4), (.int 0), (.ref t2), (.ref t2), (.ref ed)]))
  refine pA X20 hx (hd.at 26 rfl) rfl rfl ?_
  refine pg6 (own_mkJ X20 hx hZH (y := yN26) (pc := 40) (index := 52) hnamed rfl (wd hw 184 rfl) (wd hw 46 rfl) (wd hw 131 rfl) e20 rfl (by rw [hml]; rfl) rfl rfl (hd.at 27 rfl) (Nat.le_of_ble_eq_true rfl) (by decide) (by decide)) fun T22 h22 X22 e22 E22 A22 => ?_
  obtain ⟨k3, g22⟩ : ∃ z, z = h5.size := ⟨_, rfl⟩
  rw [← g22] at A22 ⊢
  have ne_ct_k3 : ct ≠ k3 := Nat.ne_of_lt (Nat.lt_of_lt_of_le f6.2.2.2.2.2.2.2.2.2.2.2.1.lt (Nat.le_of_eq g22.symm))
  have ne_ed_k3 : ed ≠ k3 := Nat.ne_of_lt (Nat.lt_of_lt_of_le f6.1.lt (Nat.le_of_eq g22.symm))
  have ne_fa_k3 : fa ≠ k3 := Nat.ne_of_lt (Nat.lt_of_lt_of_le f8.2.2.2.2.2.2.2.2.2.2.2.2.2.2.1.lt (Nat.le_of_eq g22.symm))
  have ne_fk_k3 : fk ≠ k3 := Nat.ne_of_lt (Nat.lt_of_lt_of_le f8.2.2.2.2.2.2.2.2.2.2.2.2.2.2.2.lt (Nat.le_of_eq g22.symm))
  have ne_gd_k3 : gd ≠ k3 := Nat.ne_of_lt (Nat.lt_of_lt_of_le f6.2.2.2.2.2.2.2.2.2.2.2.2.1.lt (Nat.le_of_eq g22.symm))
  have ne_k1_k3 : k1 ≠ k3 := Nat.ne_of_lt (Nat.lt_of_lt_of_le f8.2.2.2.2.2.2.2.2.2.2.2.2.1.lt (Nat.le_of_eq g22.symm))
  have ne_k2_k3 : k2 ≠ k3 := Nat.ne_of_lt (Nat.lt_of_lt_of_le f8.2.2.2.2.2.2.2.2.2.2.2.2.2.1.lt (Nat.le_of_eq g22.symm))
  have ne_mm_k3 : mm ≠ k3 := Nat.ne_of_lt (Nat.lt_of_lt_of_le f8.2.2.2.2.2.2.2.2.2.2.2.1.lt (Nat.le_of_eq g22.symm))
  have ne_nx_k3 : nx ≠ k3 := Nat.ne_of_lt (Nat.lt_of_lt_of_le f6.2.2.2.2.2.2.2.2.2.2.2.2.2.2.lt (Nat.le_of_eq g22.symm))
  have ne_px_k3 : px ≠ k3 := Nat.ne_of_lt (Nat.lt_of_lt_of_le f6.2.2.2.2.2.2.2.2.2.2.2.2.2.1.lt (Nat.le_of_eq g22.symm))
  have ne_t_k3 : t ≠ k3 := Nat.ne_of_lt (Nat.lt_of_lt_of_le f8.1.lt (Nat.le_of_eq g22.symm))
  have ne_t2_k3 : t2 ≠ k3 := Nat.ne_of_lt (Nat.lt_of_lt_of_le f19.1.lt (Nat.le_of_eq g22.symm))
  have ne_u_k3 : u ≠ k3 := Nat.ne_of_lt (Nat.lt_of_lt_of_le f6.2.2.2.2.2.2.2.2.2.2.1.lt (Nat.le_of_eq g22.symm))
  have g_k3 : n0 ≤ k3 := Nat.le_trans sz5 (Nat.le_of_eq g22.symm)
  replace f6 := f6.keep ((Keep.refl h5 []).ext E22) nin0 nin0 nin0 nin0 nin0 nin0
  replace f7 := f7.keep ((Keep.refl h5 []).ext E22) nin0
  replace f8 := f8.keep ((Keep.refl h5 []).ext E22) nin0 nin0 nin0 nin0 nin0 nin0
  replace f19 := f19.keep ((Keep.refl h5 []).ext E22) nin0
  have sz22 : n0 ≤ h22.size := Nat.le_trans sz5 E22.1
  have kp22 := kp5.ext E22
  have kz_k3 := Nat.le_trans kp5.1 (Nat.le_of_eq g22.symm)
  refine pA X22 hx (hd.at 28 rfl) rfl rfl ?_
  refine pg6 (own_mkT X22 hx hZH (y := yN26) (pc := 46) (index := 56) hnamed rfl (wd hw 185 rfl) (wd hw 46 rfl) (wd hw 131 rfl) e22 rfl (by rw [hml]; rfl) rfl rfl (hd.at 29 rfl) (Nat.le_of_ble_eq_true rfl) (by decide) (by decide)) fun T23 h23 X23 e23 E23 A23 => ?_
  obtain ⟨k4, g23⟩ : ∃ z, z = h22.size := ⟨_, rfl⟩
  rw [← g23] at A23 ⊢
  have ne_ct_k4 : ct ≠ k4 := Nat.ne_of_lt (Nat.lt_of_lt_of_le f6.2.2.2.2.2.2.2.2.2.2.2.1.lt (Nat.le_of_eq g23.symm))
  have ne_ed_k4 : ed ≠ k4 := Nat.ne_of_lt (Nat.lt_of_lt_of_le f6.1.lt (Nat.le_of_eq g23.symm))
  have ne_fa_k4 : fa ≠ k4 := Nat.ne_of_lt (Nat.lt_of_lt_of_le f8.2.2.2.2.2.2.2.2.2.2.2.2.2.2.1.lt (Nat.le_of_eq g23.symm))
  have ne_fk_k4 : fk ≠ k4 := Nat.ne_of_lt (Nat.lt_of_lt_of_le f8.2.2.2.2.2.2.2.2.2.2.2.2.2.2.2.lt (Nat.le_of_eq g23.symm))
  have ne_gd_k4 : gd ≠ k4 := Nat.ne_of_lt (Nat.lt_of_lt_of_le f6.2.2.2.2.2.2.2.2.2.2.2.2.1.lt (Nat.le_of_eq g23.symm))
  have ne_k1_k4 : k1 ≠ k4 := Nat.ne_of_lt (Nat.lt_of_lt_of_le f8.2.2.2.2.2.2.2.2.2.2.2.2.1.lt (Nat.le_of_eq g23.symm))
  have ne_k2_k4 : k2 ≠ k4 := Nat.ne_of_lt (Nat.lt_of_lt_of_le f8.2.2.2.2.2.2.2.2.2.2.2.2.2.1.lt (Nat.le_of_eq g23.symm))
  have ne_k3_k4 : k3 ≠ k4 := Nat.ne_of_lt (Nat.lt_of_lt_of_le A22.lt (Nat.le_of_eq g23.symm))
  have ne_mm_k4 : mm ≠ k4 := Nat.ne_of_lt (Nat.lt_of_lt_of_le f8.2.2.2.2.2.2.2.2.2.2.2.1.lt (Nat.le_of_eq g23.symm))
  have ne_nx_k4 : nx ≠ k4 := Nat.ne_of_lt (Nat.lt_of_lt_of_le f6.2.2.2.2.2.2.2.2.2.2.2.2.2.2.lt (Nat.le_of_eq g23.symm))
  have ne_px_k4 : px ≠ k4 := Nat.ne_of_lt (Nat.lt_of_lt_of_le f6.2.2.2.2.2.2.2.2.2.2.2.2.2.1.lt (Nat.le_of_eq g23.symm))
  have ne_t_k4 : t ≠ k4 := Nat.ne_of_lt (Nat.lt_of_lt_of_le f8.1.lt (Nat.le_of_eq g23.symm))
  have ne_t2_k4 : t2 ≠ k4 := Nat.ne_of_lt (Nat.lt_of_lt_of_le f19.1.lt (Nat.le_of_eq g23.symm))
  have ne_u_k4 : u ≠ k4 := Nat.ne_of_lt (Nat.lt_of_lt_of_le f6.2.2.2.2.2.2.2.2.2.2.1.lt (Nat.le_of_eq g23.symm))
  have g_k4 : n0 ≤ k4 := Nat.le_trans sz22 (Nat.le_of_eq g23.symm)
  replace A22 := A22.ext E23
  replace f6 := f6.keep ((Keep.refl h22 []).ext E23) nin0 nin0 nin0 nin0 nin0 nin0
  replace f7 := f7.keep ((Keep.refl h22 []).ext E23) nin0
  replace f8 := f8.keep ((Keep.refl h22 []).ext E23) nin0 nin0 nin0 nin0 nin0 nin0
  replace f19 := f19.keep ((Keep.refl h22 []).ext E23) nin0
  have sz23 : n0 ≤ h23.size := Nat.le_trans sz22 E23.1
  have kp23 := kp22.ext E23
  have kz_k4 := Nat.le_trans kp22.1 (Nat.le_of_eq g23.symm)
  have hS_t2 := (OOrd.cons g_t2 (allS ne_t2_k3 (allS ne_t2_k4 all0)) (OOrd.cons g_k3 (allS ne_k3_k4 all0) (OOrd.cons g_k4 all0 OOrd.nil)))
  refine pgV (own_init X23 hx hZ (y := yN3) (rm := ⟨1, 1, 1, 12⟩) (W := 2) (a := t2) (argsL := [(.int 0), (.int 4), (.ref k3), (.ref k4)]) (rest := [(.ref t2), (.ref ed)]) rfl hown (wd hw 48 rfl) (wd hw 49 rfl) (wd hw 42 rfl) (wd hw 50 rfl) (rmTI l Z a0 hw t2 k3 k4 h23 n0 ed sz23 f19 hS_t2 A22 A23) e23 rfl (by rw [hml]; rfl) (lenOf own_pd14 rfl) rfl (by exact Nat.le_of_eq rfl) (hd.at 30 rfl) (by decide) (by decide) (by decide) (by decide)) fun T24 L24 X24 hQ24 => ?_
  obtain ⟨N24, K24, mm2, ge_mm2, BB24_0⟩ := hQ24
  have ne_ct_mm2 : ct ≠ mm2 := Nat.ne_of_lt (Nat.lt_of_lt_of_le f6.2.2.2.2.2.2.2.2.2.2.2.1.lt ge_mm2)
  have ne_ed_mm2 : ed ≠ mm2 := Nat.ne_of_lt (Nat.lt_of_lt_of_le f6.1.lt ge_mm2)
  have ne_fa_mm2 : fa ≠ mm2 := Nat.ne_of_lt (Nat.lt_of_lt_of_le f8.2.2.2.2.2.2.2.2.2.2.2.2.2.2.1.lt ge_mm2)
  have ne_fk_mm2 : fk ≠ mm2 := Nat.ne_of_lt (Nat.lt_of_lt_of_le f8.2.2.2.2.2.2.2.2.2.2.2.2.2.2.2.lt ge_mm2)
  have ne_gd_mm2 : gd ≠ mm2 := Nat.ne_of_lt (Nat.lt_of_lt_of_le f6.2.2.2.2.2.2.2.2.2.2.2.2.1.lt ge_mm2)
  have ne_k1_mm2 : k1 ≠ mm2 := Nat.ne_of_lt (Nat.lt_of_lt_of_le f8.2.2.2.2.2.2.2.2.2.2.2.2.1.lt ge_mm2)
  have ne_k2_mm2 : k2 ≠ mm2 := Nat.ne_of_lt (Nat.lt_of_lt_of_le f8.2.2.2.2.2.2.2.2.2.2.2.2.2.1.lt ge_mm2)
  have ne_k3_mm2 : k3 ≠ mm2 := Nat.ne_of_lt (Nat.lt_of_lt_of_le A22.lt ge_mm2)
  have ne_k4_mm2 : k4 ≠ mm2 := Nat.ne_of_lt (Nat.lt_of_lt_of_le A23.lt ge_mm2)
  have ne_mm_mm2 : mm ≠ mm2 := Nat.ne_of_lt (Nat.lt_of_lt_of_le f8.2.2.2.2.2.2.2.2.2.2.2.1.lt ge_mm2)
  have ne_nx_mm2 : nx ≠ mm2 := Nat.ne_of_lt (Nat.lt_of_lt_of_le f6.2.2.2.2.2.2.2.2.2.2.2.2.2.2.lt ge_mm2)
  have ne_px_mm2 : px ≠ mm2 := Nat.ne_of_lt (Nat.lt_of_lt_of_le f6.2.2.2.2.2.2.2.2.2.2.2.2.2.1.lt ge_mm2)
  have ne_t_mm2 : t ≠ mm2 := Nat.ne_of_lt (Nat.lt_of_lt_of_le f8.1.lt ge_mm2)
  have ne_t2_mm2 : t2 ≠ mm2 := Nat.ne_of_lt (Nat.lt_of_lt_of_le f19.1.lt ge_mm2)
  have ne_u_mm2 : u ≠ mm2 := Nat.ne_of_lt (Nat.lt_of_lt_of_le f6.2.2.2.2.2.2.2.2.2.2.1.lt ge_mm2)
  have g_mm2 : n0 ≤ mm2 := Nat.le_trans sz23 ge_mm2
  have kz_mm2 := Nat.le_trans kp23.1 ge_mm2
  have fr24 := Fr.app N0 N24
  have kp24 := kp23.trans K24 (allS (Or.inr kz_t2) all0)
  have n25 := Ne.symm ne_t2_k3
  replace A22 := A22.keep K24 (ninS n25 nin0)
  have n26 := Ne.symm ne_t2_k4
  replace A23 := A23.keep K24 (ninS n26 nin0)
  replace f6 := f6.keep K24 (ninS ne_ed_t2 nin0) (ninS ne_u_t2 nin0) (ninS ne_ct_t2 nin0) (ninS ne_gd_t2 nin0) (ninS ne_px_t2 nin0) (ninS ne_nx_t2 nin0)
  replace f7 := f7.keep K24 (ninS ne_ed_t2 nin0)
  replace f8 := f8.keep K24 (ninS ne_t_t2 nin0) (ninS ne_mm_t2 nin0) (ninS ne_k1_t2 nin0) (ninS ne_k2_t2 nin0) (ninS ne_fa_t2 nin0) (ninS ne_fk_t2 nin0)
  have sz24 : n0 ≤ T24.heap.size := Nat.le_trans sz23 K24.1
  obtain ⟨u27, u28, u29, u30, u31, u32, u33, u34, u35, u36, u37, u38, u39, u40, u41⟩ := id f6
  obtain ⟨u42, u43, u44, u45, u46⟩ := id f7
  refine pg2 (putF X24 hx hZ hown (host := "") (Or.inl (wd hw 182 rfl)) Via.refl rfl u45 u27 (Or.inl (wd hw 183 rfl)) (wd hw 6 rfl) (ty := (.object "com/example/rankfold/rankfold/summaries/Tournament")) (by decide) rfl rfl rfl rfl (hd.at 31 rfl)) fun T47 h47 X47 e47 W47 => ?_
  have f48 := u45.same W47
  replace u27 := u27.wr W47
  replace u28 := u28.other W47 (Or.inr (sl (Or.inl (wd hw 30 rfl)) (Or.inl (wd hw 183 rfl))))
  replace u29 := u29.other W47 (Or.inr (sl (Or.inl (wd hw 32 rfl)) (Or.inl (wd hw 183 rfl))))
  replace u30 := u30.other W47 (Or.inr (sl (Or.inl (wd hw 34 rfl)) (Or.inl (wd hw 183 rfl))))
  replace u31 := u31.other W47 (Or.inr (sl (Or.inl (wd hw 37 rfl)) (Or.inl (wd hw 183 rfl))))
  replace u32 := u32.other W47 (Or.inr (sl (Or.inl (wd hw 39 rfl)) (Or.inl (wd hw 183 rfl))))
  replace u33 := u33.other W47 (Or.inr (sl (Or.inr (wd hw 20 rfl)) (Or.inl (wd hw 183 rfl))))
  replace u34 := u34.other W47 (Or.inr (sl (Or.inr (wd hw 22 rfl)) (Or.inl (wd hw 183 rfl))))
  replace u35 := u35.other W47 (Or.inr (sl (Or.inl (wd hw 24 rfl)) (Or.inl (wd hw 183 rfl))))
  replace u36 := u36.other W47 (Or.inr (sl (Or.inr (wd hw 18 rfl)) (Or.inl (wd hw 183 rfl))))
  have n49 := hS.ne 0 1
  have n50 := Ne.symm n49
  replace u37 := u37.other W47 n50
  have n51 := hS.ne 0 2
  have n52 := Ne.symm n51
  replace u38 := u38.other W47 n52
  have n53 := hS.ne 0 3
  have n54 := Ne.symm n53
  replace u39 := u39.other W47 n54
  have n55 := hS.ne 0 4
  have n56 := Ne.symm n55
  replace u40 := u40.other W47 n56
  have n57 := hS.ne 0 5
  have n58 := Ne.symm n57
  replace u41 := u41.other W47 n58
  replace u42 := u42.other W47 (Or.inr (sl (Or.inl (wd hw 16 rfl)) (Or.inl (wd hw 183 rfl))))
  replace u43 := u43.other W47 (Or.inr (sl (Or.inl (wd hw 26 rfl)) (Or.inl (wd hw 183 rfl))))
  replace u44 := u44.other W47 (Or.inr (sl (Or.inl (wd hw 64 rfl)) (Or.inl (wd hw 183 rfl))))
  replace u46 := u46.other W47 (Or.inr (sl (Or.inl (wd hw 191 rfl)) (Or.inl (wd hw 183 rfl))))
  have n59 := hS.ne 0 6
  have n60 := Ne.symm n59
  have n61 := hS.ne 0 7
  have n62 := Ne.symm n61
  have n63 := hS.ne 0 10
  have n64 := Ne.symm n63
  have n65 := hS.ne 0 11
  have n66 := Ne.symm n65
  have n67 := hS.ne 0 8
  have n68 := Ne.symm n67
  have n69 := hS.ne 0 9
  have n70 := Ne.symm n69
  replace f8 := f8.keep (Keep.of_wr W47) (ninS n60 nin0) (ninS n62 nin0) (ninS n64 nin0) (ninS n66 nin0) (ninS n68 nin0) (ninS n70 nin0)
  have n71 := Ne.symm ne_ed_t2
  have n72 := Ne.symm ne_ed_mm2
  have n73 := Ne.symm ne_ed_k3
  have n74 := Ne.symm ne_ed_k4
  replace BB24_0 := BB24_0.keep (Keep.of_wr W47) (ninS n71 nin0) (ninS n72 nin0) (ninS n73 nin0) (ninS n74 nin0)
  have sz47 : n0 ≤ h47.size := by rw [W47.size]; exact sz24
  have fr47 := Fr.snoc X47 fr24 (hS.ge 0 rfl)
  have kp47 := kp24.wr W47 (Or.inl (List.mem_of_getElem? (i := 0) rfl))
  have f75 : ORd Z h47 ed u ct gd px nx fu fc fg own_p3 own_n3 nd := ⟨u27, u28, u29, u30, u31, u32, u33, u34, u35, u36, u37, u38, u39, u40, u41⟩
  have f76 : OEw Z h47 ed t (3 : Int32) (.ref t2) := ⟨u42, u43, u44, f48, u46⟩
  refine pC X47 hx 0 (hd.at 32 rfl) rfl ?_
  refine pS X47 hx #[.val (.ref ed), .val (.int 2), .val (.int (-1)), .val (.int 0)] (hd.at 33 rfl) rfl ?_
  refine pI X47 hx (hd.at 34 rfl) rfl ?_
  refine pC X47 hx (-1) (hd.at 35 rfl) rfl ?_
  refine pcN X47 hx (hd.at 36 rfl) ((feq (by decide)).1) ?_
  refine pA X47 hx (hd.at 37 rfl) rfl rfl ?_
  refine pI X47 hx (hd.at 38 rfl) rfl ?_
  refine pA X47 hx (hd.at 39 rfl) rfl rfl ?_
  refine pF X47 hx hZ hown (wd hw 182 rfl) e47 f76.2.2.2.1 (hd.at 40 rfl) fun T77 X77 e77 => ?_
  refine pC X77 hx 0 (hd.at 41 rfl) rfl ?_
  obtain ⟨u78, u79, u80, u81, u82, u83, u84, u85, u86, u87, u88, u89, u90, u91⟩ := id BB24_0
  have f92 : OTM Z h47 t2 mm2 (0 : Int64) := ⟨u78, u83, u89⟩
  clear u79 u80 u81 u82 u84 u85 u86 u87 u88 u90 u91
  refine pgN (own_private X77 hx hZ (y := yN4) (rm := ⟨2, 0, 0, 26⟩) (W := 0) (a := ed) (argsL := [(.int 0), (.ref t2), (.int 0)]) (rest := []) hown (wd hw 65 rfl) (wd hw 66 rfl) (wd hw 67 rfl) (wd hw 107 rfl) rfl (wd hw 7 rfl) (wd hw 68 rfl) (rmOz0 l Z a0 hw ed t2 (0 : Int32) h47 mm2 (0 : Int64) f92 (by decide)) e77 f75.1 rfl (by rw [hml]; rfl) (lenOf own_pd12 rfl) rfl (by exact Nat.le_of_eq rfl) (hd.at 42 rfl) (by decide) (by decide) (by decide) (by decide)) fun T93 X93 e93 => ?_
  refine pA X93 hx (hd.at 43 rfl) rfl rfl ?_
  refine pF X93 hx hZ hown (wd hw 38 rfl) e93 f75.2.2.2.2.2.1 (hd.at 44 rfl) fun T94 X94 e94 => ?_
  refine pI X94 hx (hd.at 45 rfl) rfl ?_
  refine rI X94 hx hZ e94 f75.2.2.2.2.2.2.2.2.2.2.2.2.2.2 0 (.int 1) rfl (hd.at 46 rfl) ?_
  refine pS X94 hx #[.val (.ref ed), .val (.int 2), .val (.int (-1)), .val (.int 1)] (hd.at 47 rfl) rfl ?_
  refine pG X94 hx 59 (hd.at 48 rfl) ?_
  refine pI X94 hx (hd.at 34 rfl) rfl ?_
  refine pC X94 hx (-1) (hd.at 35 rfl) rfl ?_
  refine pcN X94 hx (hd.at 36 rfl) ((feq (by decide)).1) ?_
  refine pA X94 hx (hd.at 37 rfl) rfl rfl ?_
  refine pI X94 hx (hd.at 38 rfl) rfl ?_
  refine pA X94 hx (hd.at 39 rfl) rfl rfl ?_
  refine pF X94 hx hZ hown (wd hw 182 rfl) e94 f76.2.2.2.1 (hd.at 40 rfl) fun T95 X95 e95 => ?_
  refine pC X95 hx 0 (hd.at 41 rfl) rfl ?_
  have f96 : ORd Z h47 ed u ct gd px nx fu fc fg own_p3 own_n3 nd := ⟨f75.1, f75.2.1, f75.2.2.1, f75.2.2.2.1, f75.2.2.2.2.1, f75.2.2.2.2.2.1, f75.2.2.2.2.2.2.1, f75.2.2.2.2.2.2.2.1, f75.2.2.2.2.2.2.2.2.1, f75.2.2.2.2.2.2.2.2.2.1, f75.2.2.2.2.2.2.2.2.2.2.1, f75.2.2.2.2.2.2.2.2.2.2.2.1, f75.2.2.2.2.2.2.2.2.2.2.2.2.1, f75.2.2.2.2.2.2.2.2.2.2.2.2.2.1, f75.2.2.2.2.2.2.2.2.2.2.2.2.2.2⟩
  have n98 := Ne.symm ne_k4_mm2
  have n99 := Ne.symm ne_k3_mm2
  have hS_97 := (OOrd.cons g_t2 (allS ne_t2_mm2 (allS ne_t2_k3 (allS ne_t2_k4 all0))) (OOrd.cons g_mm2 (allS n99 (allS n98 all0)) (OOrd.cons g_k3 (allS ne_k3_k4 all0) (OOrd.cons g_k4 all0 OOrd.nil))))
  refine pgV (own_private X95 hx hZ (y := yN4) (rm := ⟨2, 0, 0, 33⟩) (W := 0) (a := ed) (argsL := [(.int 1), (.ref t2), (.int 0)]) (rest := []) hown (wd hw 65 rfl) (wd hw 66 rfl) (wd hw 67 rfl) (wd hw 107 rfl) rfl (wd hw 7 rfl) (wd hw 68 rfl) (rmOj310_0 l Z a0 hw ed t2 h47 n0 mm2 k3 k4 (0 : Int32) u ct gd px nx fu fc fg nd f96 hU hN hD BB24_0 hS_97) e95 f75.1 rfl (by rw [hml]; rfl) (lenOf own_pd12 rfl) rfl (by exact Nat.le_of_eq rfl) (hd.at 42 rfl) (by decide) (by decide) (by decide) (by decide)) fun T100 L100 X100 hQ100 => ?_
  obtain ⟨N100, K100, M_97, sz_97, hM_97, BB100_0⟩ := hQ100
  have fr100 := Fr.app fr47 N100
  have kp100 := kp47.trans K100 (allS (Or.inr kz_t2) (allS (Or.inr kz_mm2) all0))
  replace f8 := f8.keep K100 (ninS ne_t_t2 (ninS ne_t_mm2 nin0)) (ninS ne_mm_t2 (ninS ne_mm_mm2 nin0)) (ninS ne_k1_t2 (ninS ne_k1_mm2 nin0)) (ninS ne_k2_t2 (ninS ne_k2_mm2 nin0)) (ninS ne_fa_t2 (ninS ne_fa_mm2 nin0)) (ninS ne_fk_t2 (ninS ne_fk_mm2 nin0))
  replace f75 := f75.keep K100 (ninS ne_ed_t2 (ninS ne_ed_mm2 nin0)) (ninS ne_u_t2 (ninS ne_u_mm2 nin0)) (ninS ne_ct_t2 (ninS ne_ct_mm2 nin0)) (ninS ne_gd_t2 (ninS ne_gd_mm2 nin0)) (ninS ne_px_t2 (ninS ne_px_mm2 nin0)) (ninS ne_nx_t2 (ninS ne_nx_mm2 nin0))
  replace f76 := f76.keep K100 (ninS ne_ed_t2 (ninS ne_ed_mm2 nin0))
  have sz100 : n0 ≤ T100.heap.size := Nat.le_trans sz47 K100.1
  subst hM_97
  refine pA X100 hx (hd.at 43 rfl) rfl rfl ?_
  refine pF X100 hx hZ hown (wd hw 38 rfl) rfl f75.2.2.2.2.2.1 (hd.at 44 rfl) fun T101 X101 e101 => ?_
  refine pI X101 hx (hd.at 45 rfl) rfl ?_
  refine rI X101 hx hZ e101 f75.2.2.2.2.2.2.2.2.2.2.2.2.2.2 1 (.int 2) rfl (hd.at 46 rfl) ?_
  refine pS X101 hx #[.val (.ref ed), .val (.int 2), .val (.int (-1)), .val (.int 2)] (hd.at 47 rfl) rfl ?_
  refine pG X101 hx 59 (hd.at 48 rfl) ?_
  refine pI X101 hx (hd.at 34 rfl) rfl ?_
  refine pC X101 hx (-1) (hd.at 35 rfl) rfl ?_
  refine pcN X101 hx (hd.at 36 rfl) ((feq (by decide)).1) ?_
  refine pA X101 hx (hd.at 37 rfl) rfl rfl ?_
  refine pI X101 hx (hd.at 38 rfl) rfl ?_
  refine pA X101 hx (hd.at 39 rfl) rfl rfl ?_
  refine pF X101 hx hZ hown (wd hw 182 rfl) e101 f76.2.2.2.1 (hd.at 40 rfl) fun T102 X102 e102 => ?_
  refine pC X102 hx 0 (hd.at 41 rfl) rfl ?_
  obtain ⟨u103, u104, u105, u106, u107, u108, u109, u110, u111, u112, u113, u114, u115, u116⟩ := id BB100_0
  have f117 : OTM Z T100.heap t2 mm2 (2 : Int64) := ⟨u103, u108, u114⟩
  clear u104 u105 u106 u107 u109 u110 u111 u112 u113 u115 u116
  refine pgN (own_private X102 hx hZ (y := yN4) (rm := ⟨2, 0, 0, 26⟩) (W := 0) (a := ed) (argsL := [(.int 2), (.ref t2), (.int 0)]) (rest := []) hown (wd hw 65 rfl) (wd hw 66 rfl) (wd hw 67 rfl) (wd hw 107 rfl) rfl (wd hw 7 rfl) (wd hw 68 rfl) (rmOz2 l Z a0 hw ed t2 (0 : Int32) T100.heap mm2 (2 : Int64) nx own_n3 f117 (by decide) rfl f75.2.2.2.2.2.1 f75.2.2.2.2.2.2.2.2.2.2.2.2.2.2) e102 f75.1 rfl (by rw [hml]; rfl) (lenOf own_pd12 rfl) rfl (by exact Nat.le_of_eq rfl) (hd.at 42 rfl) (by decide) (by decide) (by decide) (by decide)) fun T118 X118 e118 => ?_
  refine pA X118 hx (hd.at 43 rfl) rfl rfl ?_
  refine pF X118 hx hZ hown (wd hw 38 rfl) e118 f75.2.2.2.2.2.1 (hd.at 44 rfl) fun T119 X119 e119 => ?_
  refine pI X119 hx (hd.at 45 rfl) rfl ?_
  refine rI X119 hx hZ e119 f75.2.2.2.2.2.2.2.2.2.2.2.2.2.2 2 (.int (-1)) rfl (hd.at 46 rfl) ?_
  refine pS X119 hx #[.val (.ref ed), .val (.int 2), .val (.int (-1)), .val (.int (-1))] (hd.at 47 rfl) rfl ?_
  refine pG X119 hx 59 (hd.at 48 rfl) ?_
  refine pI X119 hx (hd.at 34 rfl) rfl ?_
  refine pC X119 hx (-1) (hd.at 35 rfl) rfl ?_
  refine pcY X119 hx 84 (hd.at 36 rfl) ((teq rfl).1) ?_
  refine pA X119 hx (hd.at 49 rfl) rfl rfl ?_
  refine pF X119 hx hZ hown (wd hw 182 rfl) e119 f76.2.2.2.1 (hd.at 50 rfl) fun T120 X120 e120 => ?_
  have hS_121 := (OOrd.cons g_t2 (allS ne_t2_mm2 (allS ne_t2_k3 (allS ne_t2_k4 all0))) (OOrd.cons g_mm2 (allS n99 (allS n98 all0)) (OOrd.cons g_k3 (allS ne_k3_k4 all0) (OOrd.cons g_k4 all0 OOrd.nil))))
  have f122 : ORd Z T100.heap ed u ct gd px nx fu fc fg own_p3 own_n3 nd := ⟨f75.1, f75.2.1, f75.2.2.1, f75.2.2.2.1, f75.2.2.2.2.1, f75.2.2.2.2.2.1, f75.2.2.2.2.2.2.1, f75.2.2.2.2.2.2.2.1, f75.2.2.2.2.2.2.2.2.1, f75.2.2.2.2.2.2.2.2.2.1, f75.2.2.2.2.2.2.2.2.2.2.1, f75.2.2.2.2.2.2.2.2.2.2.2.1, f75.2.2.2.2.2.2.2.2.2.2.2.2.1, f75.2.2.2.2.2.2.2.2.2.2.2.2.2.1, f75.2.2.2.2.2.2.2.2.2.2.2.2.2.2⟩
  refine pgV (own_virtual X120 hx hZ (y := yN7) (z := yN7) (rm := ⟨9, 2, 4, 156⟩) (W := 0) (a := t2) (argsL := []) (rest := []) hown (wd hw 79 rfl) (wd hw 80 rfl) (notFace_of_selects (args := #[]) (mvT hZ (wd hw 82 rfl))) (wd hw 82 rfl) (wd hw 81 rfl) (wd hw 42 rfl) (wd hw 83 rfl) (rmPl l Z a0 hw t2 T100.heap n0 mm2 k3 k4 ed sz_97 (2 : Int64) (fun r => r = (1 : Int32)) sz100 BB100_0 hS_121 (fun h1 fa fk K B' hS' => rmSc32 l Z a0 hw t2 h1 n0 mm2 fa fk k3 k4 ed sz_97 0 0 0 0 0 B' hS' (f122.keep K (ninS ne_ed_t2 nin0) (ninS ne_u_t2 nin0) (ninS ne_ct_t2 nin0) (ninS ne_gd_t2 nin0) (ninS ne_px_t2 nin0) (ninS ne_nx_t2 nin0)).1 (rmJE31 l Z a0 hw ed h1 u ct gd px nx fu fc fg nd (f122.keep K (ninS ne_ed_t2 nin0) (ninS ne_u_t2 nin0) (ninS ne_ct_t2 nin0) (ninS ne_gd_t2 nin0) (ninS ne_px_t2 nin0) (ninS ne_nx_t2 nin0)) hU hN hD))) e120 BB100_0.1 rfl (by rw [hml]; rfl) (lenOf own_pd15 rfl) rfl (by exact Nat.le_of_eq rfl) (hd.at 51 rfl) (by decide) (by decide) (by decide) (by decide)) fun T123 L123 X123 hQ123 => ?_
  obtain ⟨N123, K123, fa2, fk2, rx, d0x, d1x, ge_fa2, ge_fk2, ne_fa2_fk2, hrx, BB123_0⟩ := hQ123
  have ne_ct_fa2 : ct ≠ fa2 := Nat.ne_of_lt (Nat.lt_of_lt_of_le f75.2.2.2.2.2.2.2.2.2.2.2.1.lt ge_fa2)
  have ne_ed_fa2 : ed ≠ fa2 := Nat.ne_of_lt (Nat.lt_of_lt_of_le f75.1.lt ge_fa2)
  have ne_fa_fa2 : fa ≠ fa2 := Nat.ne_of_lt (Nat.lt_of_lt_of_le f8.2.2.2.2.2.2.2.2.2.2.2.2.2.2.1.lt ge_fa2)
  have ne_fk_fa2 : fk ≠ fa2 := Nat.ne_of_lt (Nat.lt_of_lt_of_le f8.2.2.2.2.2.2.2.2.2.2.2.2.2.2.2.lt ge_fa2)
  have ne_gd_fa2 : gd ≠ fa2 := Nat.ne_of_lt (Nat.lt_of_lt_of_le f75.2.2.2.2.2.2.2.2.2.2.2.2.1.lt ge_fa2)
  have ne_k1_fa2 : k1 ≠ fa2 := Nat.ne_of_lt (Nat.lt_of_lt_of_le f8.2.2.2.2.2.2.2.2.2.2.2.2.1.lt ge_fa2)
  have ne_k2_fa2 : k2 ≠ fa2 := Nat.ne_of_lt (Nat.lt_of_lt_of_le f8.2.2.2.2.2.2.2.2.2.2.2.2.2.1.lt ge_fa2)
  have ne_k3_fa2 : k3 ≠ fa2 := Nat.ne_of_lt (Nat.lt_of_lt_of_le BB100_0.2.2.2.2.2.2.2.2.2.2.2.2.1.lt ge_fa2)
  have ne_k4_fa2 : k4 ≠ fa2 := Nat.ne_of_lt (Nat.lt_of_lt_of_le BB100_0.2.2.2.2.2.2.2.2.2.2.2.2.2.lt ge_fa2)
  have ne_mm_fa2 : mm ≠ fa2 := Nat.ne_of_lt (Nat.lt_of_lt_of_le f8.2.2.2.2.2.2.2.2.2.2.2.1.lt ge_fa2)
  have ne_mm2_fa2 : mm2 ≠ fa2 := Nat.ne_of_lt (Nat.lt_of_lt_of_le BB100_0.2.2.2.2.2.2.2.2.2.2.2.1.lt ge_fa2)
  have ne_nx_fa2 : nx ≠ fa2 := Nat.ne_of_lt (Nat.lt_of_lt_of_le f75.2.2.2.2.2.2.2.2.2.2.2.2.2.2.lt ge_fa2)
  have ne_px_fa2 : px ≠ fa2 := Nat.ne_of_lt (Nat.lt_of_lt_of_le f75.2.2.2.2.2.2.2.2.2.2.2.2.2.1.lt ge_fa2)
  have ne_t_fa2 : t ≠ fa2 := Nat.ne_of_lt (Nat.lt_of_lt_of_le f8.1.lt ge_fa2)
  have ne_t2_fa2 : t2 ≠ fa2 := Nat.ne_of_lt (Nat.lt_of_lt_of_le BB100_0.1.lt ge_fa2)
  have ne_u_fa2 : u ≠ fa2 := Nat.ne_of_lt (Nat.lt_of_lt_of_le f75.2.2.2.2.2.2.2.2.2.2.1.lt ge_fa2)
  have g_fa2 : n0 ≤ fa2 := Nat.le_trans sz100 ge_fa2
  have kz_fa2 := Nat.le_trans kp100.1 ge_fa2
  have ne_ct_fk2 : ct ≠ fk2 := Nat.ne_of_lt (Nat.lt_of_lt_of_le f75.2.2.2.2.2.2.2.2.2.2.2.1.lt ge_fk2)
  have ne_ed_fk2 : ed ≠ fk2 := Nat.ne_of_lt (Nat.lt_of_lt_of_le f75.1.lt ge_fk2)
  have ne_fa_fk2 : fa ≠ fk2 := Nat.ne_of_lt (Nat.lt_of_lt_of_le f8.2.2.2.2.2.2.2.2.2.2.2.2.2.2.1.lt ge_fk2)
  have ne_fk_fk2 : fk ≠ fk2 := Nat.ne_of_lt (Nat.lt_of_lt_of_le f8.2.2.2.2.2.2.2.2.2.2.2.2.2.2.2.lt ge_fk2)
  have ne_gd_fk2 : gd ≠ fk2 := Nat.ne_of_lt (Nat.lt_of_lt_of_le f75.2.2.2.2.2.2.2.2.2.2.2.2.1.lt ge_fk2)
  have ne_k1_fk2 : k1 ≠ fk2 := Nat.ne_of_lt (Nat.lt_of_lt_of_le f8.2.2.2.2.2.2.2.2.2.2.2.2.1.lt ge_fk2)
  have ne_k2_fk2 : k2 ≠ fk2 := Nat.ne_of_lt (Nat.lt_of_lt_of_le f8.2.2.2.2.2.2.2.2.2.2.2.2.2.1.lt ge_fk2)
  have ne_k3_fk2 : k3 ≠ fk2 := Nat.ne_of_lt (Nat.lt_of_lt_of_le BB100_0.2.2.2.2.2.2.2.2.2.2.2.2.1.lt ge_fk2)
  have ne_k4_fk2 : k4 ≠ fk2 := Nat.ne_of_lt (Nat.lt_of_lt_of_le BB100_0.2.2.2.2.2.2.2.2.2.2.2.2.2.lt ge_fk2)
  have ne_mm_fk2 : mm ≠ fk2 := Nat.ne_of_lt (Nat.lt_of_lt_of_le f8.2.2.2.2.2.2.2.2.2.2.2.1.lt ge_fk2)
  have ne_mm2_fk2 : mm2 ≠ fk2 := Nat.ne_of_lt (Nat.lt_of_lt_of_le BB100_0.2.2.2.2.2.2.2.2.2.2.2.1.lt ge_fk2)
  have ne_nx_fk2 : nx ≠ fk2 := Nat.ne_of_lt (Nat.lt_of_lt_of_le f75.2.2.2.2.2.2.2.2.2.2.2.2.2.2.lt ge_fk2)
  have ne_px_fk2 : px ≠ fk2 := Nat.ne_of_lt (Nat.lt_of_lt_of_le f75.2.2.2.2.2.2.2.2.2.2.2.2.2.1.lt ge_fk2)
  have ne_t_fk2 : t ≠ fk2 := Nat.ne_of_lt (Nat.lt_of_lt_of_le f8.1.lt ge_fk2)
  have ne_t2_fk2 : t2 ≠ fk2 := Nat.ne_of_lt (Nat.lt_of_lt_of_le BB100_0.1.lt ge_fk2)
  have ne_u_fk2 : u ≠ fk2 := Nat.ne_of_lt (Nat.lt_of_lt_of_le f75.2.2.2.2.2.2.2.2.2.2.1.lt ge_fk2)
  have g_fk2 : n0 ≤ fk2 := Nat.le_trans sz100 ge_fk2
  have kz_fk2 := Nat.le_trans kp100.1 ge_fk2
  have fr123 := Fr.app fr100 N123
  have kp123 := kp100.trans K123 (allS (Or.inr kz_t2) all0)
  replace f8 := f8.keep K123 (ninS ne_t_t2 nin0) (ninS ne_mm_t2 nin0) (ninS ne_k1_t2 nin0) (ninS ne_k2_t2 nin0) (ninS ne_fa_t2 nin0) (ninS ne_fk_t2 nin0)
  replace f75 := f75.keep K123 (ninS ne_ed_t2 nin0) (ninS ne_u_t2 nin0) (ninS ne_ct_t2 nin0) (ninS ne_gd_t2 nin0) (ninS ne_px_t2 nin0) (ninS ne_nx_t2 nin0)
  replace f76 := f76.keep K123 (ninS ne_ed_t2 nin0)
  have sz123 : n0 ≤ T123.heap.size := Nat.le_trans sz100 K123.1
  subst hrx
  refine pA X123 hx (hd.at 52 rfl) rfl rfl ?_
  refine pF X123 hx hZ hown (wd hw 182 rfl) rfl f76.2.2.2.1 (hd.at 53 rfl) fun T124 X124 e124 => ?_
  refine pgP (own_virtual X124 hx hZ (y := yN27) (z := yN27) (rm := ⟨0, 0, 0, 0⟩) (W := 0) (a := t2) (argsL := []) (rest := []) hown (wd hw 177 rfl) (wd hw 178 rfl) (notFace_of_selects (args := #[]) (mvT hZ (wd hw 180 rfl))) (wd hw 180 rfl) (wd hw 179 rfl) (wd hw 42 rfl) (wd hw 181 rfl) (rmFi l Z a0 hw t2 T123.heap mm2 fa2 fk2 k3 k4 ed 2 sz_97 1 0 1 d0x d1x BB123_0) e124 BB123_0.1 rfl (by rw [hml]; rfl) (lenOf own_pd13 rfl) rfl (by exact Nat.le_of_eq rfl) (hd.at 54 rfl) (by decide) (by decide) (by decide) (by decide)) fun T125 X125 e125 => ?_
  refine pS X125 hx #[.val (.ref ed), .val (.int 2), .val (.int 1), .val (.int (-1))] (hd.at 55 rfl) rfl ?_
  refine pA X125 hx (hd.at 11 rfl) rfl rfl ?_
  refine pI X125 hx (hd.at 12 rfl) rfl ?_
  have f126 : ORd Z T123.heap ed u ct gd px nx fu fc fg own_p3 own_n3 nd := ⟨f75.1, f75.2.1, f75.2.2.1, f75.2.2.2.1, f75.2.2.2.2.1, f75.2.2.2.2.2.1, f75.2.2.2.2.2.2.1, f75.2.2.2.2.2.2.2.1, f75.2.2.2.2.2.2.2.2.1, f75.2.2.2.2.2.2.2.2.2.1, f75.2.2.2.2.2.2.2.2.2.2.1, f75.2.2.2.2.2.2.2.2.2.2.2.1, f75.2.2.2.2.2.2.2.2.2.2.2.2.1, f75.2.2.2.2.2.2.2.2.2.2.2.2.2.1, f75.2.2.2.2.2.2.2.2.2.2.2.2.2.2⟩
  have f127 : OEw Z T123.heap ed t (3 : Int32) (.ref t2) := ⟨f76.1, f76.2.1, f76.2.2.1, f76.2.2.2.1, f76.2.2.2.2⟩
  have n128 := hS.ne 1 11
  have n129 := hS.ne 1 10
  have n130 := hS.ne 1 9
  have n131 := hS.ne 1 8
  have n132 := hS.ne 1 7
  have n133 := hS.ne 1 6
  have n134 := hS.ne 1 5
  have n135 := hS.ne 1 4
  have n136 := hS.ne 1 3
  have n137 := hS.ne 1 2
  have n138 := hS.ne 2 11
  have n139 := hS.ne 2 10
  have n140 := hS.ne 2 9
  have n141 := hS.ne 2 8
  have n142 := hS.ne 2 7
  have n143 := hS.ne 2 6
  have n144 := hS.ne 2 5
  have n145 := hS.ne 2 4
  have n146 := hS.ne 2 3
  have n147 := hS.ne 3 11
  have n148 := hS.ne 3 10
  have n149 := hS.ne 3 9
  have n150 := hS.ne 3 8
  have n151 := hS.ne 3 7
  have n152 := hS.ne 3 6
  have n153 := hS.ne 3 5
  have n154 := hS.ne 3 4
  have n155 := hS.ne 4 11
  have n156 := hS.ne 4 10
  have n157 := hS.ne 4 9
  have n158 := hS.ne 4 8
  have n159 := hS.ne 4 7
  have n160 := hS.ne 4 6
  have n161 := hS.ne 4 5
  have n162 := hS.ne 5 11
  have n163 := hS.ne 5 10
  have n164 := hS.ne 5 9
  have n165 := hS.ne 5 8
  have n166 := hS.ne 5 7
  have n167 := hS.ne 5 6
  have n168 := hS.ne 6 11
  have n169 := hS.ne 6 10
  have n170 := hS.ne 6 9
  have n171 := hS.ne 6 8
  have n172 := hS.ne 6 7
  have n173 := hS.ne 7 11
  have n174 := hS.ne 7 10
  have n175 := hS.ne 7 9
  have n176 := hS.ne 7 8
  have n177 := hS.ne 8 11
  have n178 := hS.ne 8 10
  have n179 := hS.ne 8 9
  have n180 := hS.ne 9 11
  have n181 := hS.ne 9 10
  have n182 := hS.ne 10 11
  have n183 := Ne.symm ne_k4_fa2
  have n184 := Ne.symm ne_k3_fa2
  have n185 := Ne.symm ne_k4_fk2
  have n186 := Ne.symm ne_k3_fk2
  have hSj := (OOrd.cons (hS.ge 0 rfl) (allS n49 (allS n51 (allS n53 (allS n55 (allS n57 (allS n59 (allS n61 (allS n67 (allS n69 (allS n63 (allS n65 (allS ne_ed_t2 (allS ne_ed_mm2 (allS ne_ed_fa2 (allS ne_ed_fk2 (allS ne_ed_k3 (allS ne_ed_k4 all0))))))))))))))))) (OOrd.cons (hS.ge 1 rfl) (allS n137 (allS n136 (allS n135 (allS n134 (allS n133 (allS n132 (allS n131 (allS n130 (allS n129 (allS n128 (allS ne_u_t2 (allS ne_u_mm2 (allS ne_u_fa2 (allS ne_u_fk2 (allS ne_u_k3 (allS ne_u_k4 all0)))))))))))))))) (OOrd.cons (hS.ge 2 rfl) (allS n146 (allS n145 (allS n144 (allS n143 (allS n142 (allS n141 (allS n140 (allS n139 (allS n138 (allS ne_ct_t2 (allS ne_ct_mm2 (allS ne_ct_fa2 (allS ne_ct_fk2 (allS ne_ct_k3 (allS ne_ct_k4 all0))))))))))))))) (OOrd.cons (hS.ge 3 rfl) (allS n154 (allS n153 (allS n152 (allS n151 (allS n150 (allS n149 (allS n148 (allS n147 (allS ne_gd_t2 (allS ne_gd_mm2 (allS ne_gd_fa2 (allS ne_gd_fk2 (allS ne_gd_k3 (allS ne_gd_k4 all0)))))))))))))) (OOrd.cons (hS.ge 4 rfl) (allS n161 (allS n160 (allS n159 (allS n158 (allS n157 (allS n156 (allS n155 (allS ne_px_t2 (allS ne_px_mm2 (allS ne_px_fa2 (allS ne_px_fk2 (allS ne_px_k3 (allS ne_px_k4 all0))))))))))))) (OOrd.cons (hS.ge 5 rfl) (allS n167 (allS n166 (allS n165 (allS n164 (allS n163 (allS n162 (allS ne_nx_t2 (allS ne_nx_mm2 (allS ne_nx_fa2 (allS ne_nx_fk2 (allS ne_nx_k3 (allS ne_nx_k4 all0)))))))))))) (OOrd.cons (hS.ge 6 rfl) (allS n172 (allS n171 (allS n170 (allS n169 (allS n168 (allS ne_t_t2 (allS ne_t_mm2 (allS ne_t_fa2 (allS ne_t_fk2 (allS ne_t_k3 (allS ne_t_k4 all0))))))))))) (OOrd.cons (hS.ge 7 rfl) (allS n176 (allS n175 (allS n174 (allS n173 (allS ne_mm_t2 (allS ne_mm_mm2 (allS ne_mm_fa2 (allS ne_mm_fk2 (allS ne_mm_k3 (allS ne_mm_k4 all0)))))))))) (OOrd.cons (hS.ge 8 rfl) (allS n179 (allS n178 (allS n177 (allS ne_fa_t2 (allS ne_fa_mm2 (allS ne_fa_fa2 (allS ne_fa_fk2 (allS ne_fa_k3 (allS ne_fa_k4 all0))))))))) (OOrd.cons (hS.ge 9 rfl) (allS n181 (allS n180 (allS ne_fk_t2 (allS ne_fk_mm2 (allS ne_fk_fa2 (allS ne_fk_fk2 (allS ne_fk_k3 (allS ne_fk_k4 all0)))))))) (OOrd.cons (hS.ge 10 rfl) (allS n182 (allS ne_k1_t2 (allS ne_k1_mm2 (allS ne_k1_fa2 (allS ne_k1_fk2 (allS ne_k1_k3 (allS ne_k1_k4 all0))))))) (OOrd.cons (hS.ge 11 rfl) (allS ne_k2_t2 (allS ne_k2_mm2 (allS ne_k2_fa2 (allS ne_k2_fk2 (allS ne_k2_k3 (allS ne_k2_k4 all0)))))) (OOrd.cons g_t2 (allS ne_t2_mm2 (allS ne_t2_fa2 (allS ne_t2_fk2 (allS ne_t2_k3 (allS ne_t2_k4 all0))))) (OOrd.cons g_mm2 (allS ne_mm2_fa2 (allS ne_mm2_fk2 (allS n99 (allS n98 all0)))) (OOrd.cons g_fa2 (allS ne_fa2_fk2 (allS n184 (allS n183 all0))) (OOrd.cons g_fk2 (allS n186 (allS n185 all0)) (OOrd.cons g_k3 (allS ne_k3_k4 all0) (OOrd.cons g_k4 all0 OOrd.nil))))))))))))))))))
  refine pgV (own_private X125 hx hZ (y := yN28) (rm := ⟨11, 0, 0, 186⟩) (W := 0) (a := ed) (argsL := [(.int 1)]) (rest := []) hown (wd hw 186 rfl) (wd hw 187 rfl) (wd hw 188 rfl) (wd hw 107 rfl) rfl (wd hw 7 rfl) (wd hw 189 rfl) (rmJoB l Z a0 hw ed T123.heap n0 u ct gd px nx fu fc fg nd t mm fa fk k1 k2 sz r0 d0 d t2 mm2 fa2 fk2 k3 k4 sz_97 0 d0x d1x f126 hU hN hD f127 f8 BB123_0 hSj) e125 f75.1 rfl (by rw [hml]; rfl) (lenOf own_pd10 rfl) rfl (by exact Nat.le_of_eq rfl) (hd.at 13 rfl) (by decide) (by decide) (by decide) (by decide)) fun T187 L187 X187 hQ187 => ?_
  obtain ⟨N187, K187, FSz, BWr⟩ := hQ187
  have fr187 := Fr.app fr123 N187
  have kp187 := kp123.trans K187 (allS (Or.inl (List.mem_of_getElem? (i := 0) rfl)) (allS (Or.inl (List.mem_of_getElem? (i := 1) rfl)) (allS (Or.inl (List.mem_of_getElem? (i := 2) rfl)) (allS (Or.inl (List.mem_of_getElem? (i := 3) rfl)) (allS (Or.inr kz_t2) (allS (Or.inr kz_mm2) (allS (Or.inr kz_fa2) (allS (Or.inr kz_fk2) all0))))))))
  have n188 := Ne.symm n160
  have n189 := Ne.symm n167
  have n190 := Ne.symm n143
  have n191 := Ne.symm n159
  have n192 := Ne.symm n166
  have n193 := Ne.symm n142
  have n194 := Ne.symm n156
  have n195 := Ne.symm n163
  have n196 := Ne.symm n139
  have n197 := Ne.symm n155
  have n198 := Ne.symm n162
  have n199 := Ne.symm n138
  have n200 := Ne.symm n158
  have n201 := Ne.symm n165
  have n202 := Ne.symm n141
  have n203 := Ne.symm n157
  have n204 := Ne.symm n164
  have n205 := Ne.symm n140
  replace f8 := f8.keep K187 (ninS n60 (ninS n190 (ninS n189 (ninS n188 (ninS ne_t_t2 (ninS ne_t_mm2 (ninS ne_t_fa2 (ninS ne_t_fk2 nin0)))))))) (ninS n62 (ninS n193 (ninS n192 (ninS n191 (ninS ne_mm_t2 (ninS ne_mm_mm2 (ninS ne_mm_fa2 (ninS ne_mm_fk2 nin0)))))))) (ninS n64 (ninS n196 (ninS n195 (ninS n194 (ninS ne_k1_t2 (ninS ne_k1_mm2 (ninS ne_k1_fa2 (ninS ne_k1_fk2 nin0)))))))) (ninS n66 (ninS n199 (ninS n198 (ninS n197 (ninS ne_k2_t2 (ninS ne_k2_mm2 (ninS ne_k2_fa2 (ninS ne_k2_fk2 nin0)))))))) (ninS n68 (ninS n202 (ninS n201 (ninS n200 (ninS ne_fa_t2 (ninS ne_fa_mm2 (ninS ne_fa_fa2 (ninS ne_fa_fk2 nin0)))))))) (ninS n70 (ninS n205 (ninS n204 (ninS n203 (ninS ne_fk_t2 (ninS ne_fk_mm2 (ninS ne_fk_fa2 (ninS ne_fk_fk2 nin0))))))))
  have sz187 : n0 ≤ T187.heap.size := Nat.le_trans sz123 K187.1
  refine pG X187 hx 0 (hd.at 14 rfl) ?_
  refine pA X187 hx (hd.at 0 rfl) rfl rfl ?_
  refine pF X187 hx hZ hown (wd hw 25 rfl) rfl FSz (hd.at 1 rfl) fun T206 X206 e206 => ?_
  refine pI X206 hx (hd.at 2 rfl) rfl ?_
  refine pcY X206 hx 107 (hd.at 3 rfl) ((flt (by decide)).2.2.2) ?_
  exact own_retV X206 hx hret hlk (hd.at 15 rfl) (by decide) (by decide) (by show _ ∧ _ ∧ Keep h0 T206.heap _ ∧ _; rw [e206]; exact ⟨rfl, fr187, kp187, BWr⟩)
set_option maxRecDepth 65536 in
set_option maxHeartbeats 40000000 in
theorem lpInP {l : Launch} {Z : State} {a0 : Array Value} (hw : ∀ d ∈ tables_1, d.before a0 Z = true) {p : Program} {e : Env} {s : State} {m : MethodId} {args : Array Value} {below : List Frame} {meth : Method} {c : Code} (hC : OCtx Z p s m meth c "com/example/rankfold/rankfold/summaries/BucketEditor" "<init>" prog_72_method_1_code 14 none) {Q : Option Value → Heap → List Loc → Prop} {T0 : State} (X0 : Stand p l e (⟨12, 8, 25, 3100⟩ : Room) s m args below meth c T0 [] 0 0) {h0 : Heap} (e0 : T0.heap = h0) (n0 : Nat) (ed u ct gd : Addr) (zz : Int32) (nn : Int64) (fu fc : Nat → UInt64) (fg : Nat → Int32) (Z0 : n0 ≤ h0.size) (B : OE0 Z h0 ed) (A_u : OArr Z h0 u .double 4 (fun i => .double (fu i))) (A_c : OArr Z h0 ct .double 4 (fun i => .double (fc i))) (A_g : OArr Z h0 gd .boolean 4 (fun i => .int (fg i))) (hS : OOrd n0 [ed, u, ct, gd]) (hk : ∀ (T1 : State) (L1 : List Loc) (h1 : Heap) (px nx : Addr), Stand p l e (⟨12, 8, 25, 3100⟩ : Room) s m args below meth c T1 L1 2 8 → T1.heap = h1 → Fr n0 L1 → Keep h0 h1 [ed] → n0 ≤ h1.size → h0.size ≤ px → h0.size ≤ nx → OOrd n0 [ed, u, ct, gd, px, nx] → ORe Z h1 ed u ct gd px nx fu fc fg (FP.l2d nn) → OArr Z h1 px .int 4 (fun i => .int ((own_q4 (0 : Int32) (0 : Int32) (0 : Int32) (0 : Int32)) i)) → OArr Z h1 nx .int 4 (fun i => .int ((own_q4 (0 : Int32) (0 : Int32) (0 : Int32) (0 : Int32)) i)) → OEj Z h1 ed zz → OFin p e below s 8 25 Q (T1.setTop (mkF m 84 #[.val (.ref ed), .val (.ref u), .val (.ref ct), .val (.ref gd), .val (.int zz), .val (.int 4), .val (.long nn), .second, .val (.double 4613937818241073152), .second, .val (.double FP.dconst1), .second, .val (.int 4), .val (.int 0)] []))) :
    OFin p e below s 8 25 Q (T0.setTop (mkF m 0 #[.val (.ref ed), .val (.ref u), .val (.ref ct), .val (.ref gd), .val (.int zz), .val (.int 4), .val (.long nn), .second, .val (.double 4613937818241073152), .second, .val (.double FP.dconst1), .second, .unset, .unset] [])) := by
  have hC0 := hC
  obtain ⟨hx, hZH, hby, hml, hown, hret, hlk, hnm⟩ := hC
  have hZ := hZH.wide
  have hd := D1.to hby
  have N0 := Fr.nil n0
  have kp0 := Keep.refl h0 [ed]
  obtain ⟨u1, u2, u3, u4, u5, u6, u7, u8, u9, u10, u11, u12, u13, u14, u15, u16⟩ := id B
  refine pA X0 hx (hd.at 0 rfl) rfl rfl ?_
  refine pg1 (initO X0 hx hZ hown (wd hw 12 rfl) (wd hw 13 rfl) (wd hw 14 rfl) e0 rfl (by rw [hml]; rfl) rfl (hd.at 1 rfl) (by decide) (W := 0) (by exact Nat.le_of_eq rfl) (by decide)) fun T17 X17 e17 => ?_
  refine pA X17 hx (hd.at 2 rfl) rfl rfl ?_
  refine pC X17 hx (-1) (hd.at 3 rfl) rfl ?_
  refine pg2 (putF X17 hx hZ hown (host := "") (Or.inl (wd hw 15 rfl)) Via.refl e17 u2 u1 (Or.inl (wd hw 16 rfl)) (wd hw 6 rfl) (ty := .int) (by decide) rfl rfl rfl rfl (hd.at 4 rfl)) fun T18 h18 X18 e18 W18 => ?_
  have f19 := u2.same W18
  replace u1 := u1.wr W18
  replace u3 := u3.other W18 (Or.inr (sl (Or.inr (wd hw 18 rfl)) (Or.inl (wd hw 16 rfl))))
  replace u4 := u4.other W18 (Or.inr (sl (Or.inr (wd hw 20 rfl)) (Or.inl (wd hw 16 rfl))))
  replace u5 := u5.other W18 (Or.inr (sl (Or.inr (wd hw 22 rfl)) (Or.inl (wd hw 16 rfl))))
  replace u6 := u6.other W18 (Or.inr (sl (Or.inl (wd hw 24 rfl)) (Or.inl (wd hw 16 rfl))))
  replace u7 := u7.other W18 (Or.inr (sl (Or.inl (wd hw 26 rfl)) (Or.inl (wd hw 16 rfl))))
  replace u8 := u8.other W18 (Or.inr (sl (Or.inl (wd hw 28 rfl)) (Or.inl (wd hw 16 rfl))))
  replace u9 := u9.other W18 (Or.inr (sl (Or.inl (wd hw 30 rfl)) (Or.inl (wd hw 16 rfl))))
  replace u10 := u10.other W18 (Or.inr (sl (Or.inl (wd hw 32 rfl)) (Or.inl (wd hw 16 rfl))))
  replace u11 := u11.other W18 (Or.inr (sl (Or.inl (wd hw 34 rfl)) (Or.inl (wd hw 16 rfl))))
  replace u12 := u12.other W18 (Or.inr (sl (Or.inl (wd hw 37 rfl)) (Or.inl (wd hw 16 rfl))))
  replace u13 := u13.other W18 (Or.inr (sl (Or.inl (wd hw 39 rfl)) (Or.inl (wd hw 16 rfl))))
  replace u14 := u14.other W18 (Or.inr (sl (Or.inl (wd hw 64 rfl)) (Or.inl (wd hw 16 rfl))))
  replace u15 := u15.other W18 (Or.inr (sl (Or.inl (wd hw 183 rfl)) (Or.inl (wd hw 16 rfl))))
  replace u16 := u16.other W18 (Or.inr (sl (Or.inl (wd hw 191 rfl)) (Or.inl (wd hw 16 rfl))))
  have n20 := hS.ne 0 1
  have n21 := Ne.symm n20
  have f22 := A_u.other W18 n21
  have n23 := hS.ne 0 2
  have n24 := Ne.symm n23
  have f25 := A_c.other W18 n24
  have n26 := hS.ne 0 3
  have n27 := Ne.symm n26
  have f28 := A_g.other W18 n27
  have sz18 : n0 ≤ h18.size := by rw [W18.size]; exact Z0
  have fr18 := Fr.snoc X18 N0 (hS.ge 0 rfl)
  have kp18 := kp0.wr W18 (Or.inl (List.mem_of_getElem? (i := 0) rfl))
  refine pA X18 hx (hd.at 5 rfl) rfl rfl ?_
  refine pi X18 hx (hd.at 6 rfl) rfl ?_
  refine pg2 (putF X18 hx hZ hown (host := "") (Or.inl (wd hw 17 rfl)) Via.refl e18 u3 u1 (Or.inr ⟨(wd hw 18 rfl), rfl, hnm⟩) (wd hw 6 rfl) (ty := .int) (by decide) rfl rfl rfl rfl (hd.at 7 rfl)) fun T29 h29 X29 e29 W29 => ?_
  have f30 := u3.same W29
  replace u1 := u1.wr W29
  replace f19 := f19.other W29 (Or.inr (sl (Or.inl (wd hw 16 rfl)) (Or.inr (wd hw 18 rfl))))
  replace u4 := u4.other W29 (Or.inr (sl (Or.inr (wd hw 20 rfl)) (Or.inr (wd hw 18 rfl))))
  replace u5 := u5.other W29 (Or.inr (sl (Or.inr (wd hw 22 rfl)) (Or.inr (wd hw 18 rfl))))
  replace u6 := u6.other W29 (Or.inr (sl (Or.inl (wd hw 24 rfl)) (Or.inr (wd hw 18 rfl))))
  replace u7 := u7.other W29 (Or.inr (sl (Or.inl (wd hw 26 rfl)) (Or.inr (wd hw 18 rfl))))
  replace u8 := u8.other W29 (Or.inr (sl (Or.inl (wd hw 28 rfl)) (Or.inr (wd hw 18 rfl))))
  replace u9 := u9.other W29 (Or.inr (sl (Or.inl (wd hw 30 rfl)) (Or.inr (wd hw 18 rfl))))
  replace u10 := u10.other W29 (Or.inr (sl (Or.inl (wd hw 32 rfl)) (Or.inr (wd hw 18 rfl))))
  replace u11 := u11.other W29 (Or.inr (sl (Or.inl (wd hw 34 rfl)) (Or.inr (wd hw 18 rfl))))
  replace u12 := u12.other W29 (Or.inr (sl (Or.inl (wd hw 37 rfl)) (Or.inr (wd hw 18 rfl))))
  replace u13 := u13.other W29 (Or.inr (sl (Or.inl (wd hw 39 rfl)) (Or.inr (wd hw 18 rfl))))
  replace u14 := u14.other W29 (Or.inr (sl (Or.inl (wd hw 64 rfl)) (Or.inr (wd hw 18 rfl))))
  replace u15 := u15.other W29 (Or.inr (sl (Or.inl (wd hw 183 rfl)) (Or.inr (wd hw 18 rfl))))
  replace u16 := u16.other W29 (Or.inr (sl (Or.inl (wd hw 191 rfl)) (Or.inr (wd hw 18 rfl))))
  replace f22 := f22.other W29 n21
  replace f25 := f25.other W29 n24
  replace f28 := f28.other W29 n27
  have sz29 : n0 ≤ h29.size := by rw [W29.size]; exact sz18
  have fr29 := Fr.snoc X29 fr18 (hS.ge 0 rfl)
  have kp29 := kp18.wr W29 (Or.inl (List.mem_of_getElem? (i := 0) rfl))
  refine pA X29 hx (hd.at 8 rfl) rfl rfl ?_
  refine pL (fun _ kS => XS.lload X29.here hx rfl (hd.at 9 rfl) rfl kS) ?_
  refine pR (fun _ kS => Jvm.Free.XS.l2dS X29.here hx rfl (hd.at 10 rfl) rfl rfl kS) ?_
  refine pg2 (putF X29 hx hZ hown (host := "") (Or.inl (wd hw 19 rfl)) Via.refl e29 u4 u1 (Or.inr ⟨(wd hw 20 rfl), rfl, hnm⟩) (wd hw 6 rfl) (ty := .double) (by decide) rfl rfl rfl rfl (hd.at 11 rfl)) fun T31 h31 X31 e31 W31 => ?_
  have f32 := u4.same W31
  replace u1 := u1.wr W31
  replace f19 := f19.other W31 (Or.inr (sl (Or.inl (wd hw 16 rfl)) (Or.inr (wd hw 20 rfl))))
  replace f30 := f30.other W31 (Or.inr (sl (Or.inr (wd hw 18 rfl)) (Or.inr (wd hw 20 rfl))))
  replace u5 := u5.other W31 (Or.inr (sl (Or.inr (wd hw 22 rfl)) (Or.inr (wd hw 20 rfl))))
  replace u6 := u6.other W31 (Or.inr (sl (Or.inl (wd hw 24 rfl)) (Or.inr (wd hw 20 rfl))))
  replace u7 := u7.other W31 (Or.inr (sl (Or.inl (wd hw 26 rfl)) (Or.inr (wd hw 20 rfl))))
  replace u8 := u8.other W31 (Or.inr (sl (Or.inl (wd hw 28 rfl)) (Or.inr (wd hw 20 rfl))))
  replace u9 := u9.other W31 (Or.inr (sl (Or.inl (wd hw 30 rfl)) (Or.inr (wd hw 20 rfl))))
  replace u10 := u10.other W31 (Or.inr (sl (Or.inl (wd hw 32 rfl)) (Or.inr (wd hw 20 rfl))))
  replace u11 := u11.other W31 (Or.inr (sl (Or.inl (wd hw 34 rfl)) (Or.inr (wd hw 20 rfl))))
  replace u12 := u12.other W31 (Or.inr (sl (Or.inl (wd hw 37 rfl)) (Or.inr (wd hw 20 rfl))))
  replace u13 := u13.other W31 (Or.inr (sl (Or.inl (wd hw 39 rfl)) (Or.inr (wd hw 20 rfl))))
  replace u14 := u14.other W31 (Or.inr (sl (Or.inl (wd hw 64 rfl)) (Or.inr (wd hw 20 rfl))))
  replace u15 := u15.other W31 (Or.inr (sl (Or.inl (wd hw 183 rfl)) (Or.inr (wd hw 20 rfl))))
  replace u16 := u16.other W31 (Or.inr (sl (Or.inl (wd hw 191 rfl)) (Or.inr (wd hw 20 rfl))))
  replace f22 := f22.other W31 n21
  replace f25 := f25.other W31 n24
  replace f28 := f28.other W31 n27
  have sz31 : n0 ≤ h31.size := by rw [W31.size]; exact sz29
  have fr31 := Fr.snoc X31 fr29 (hS.ge 0 rfl)
  have kp31 := kp29.wr W31 (Or.inl (List.mem_of_getElem? (i := 0) rfl))
  refine pA X31 hx (hd.at 12 rfl) rfl rfl ?_
  refine pd X31 hx (hd.at 13 rfl) rfl ?_
  refine pg2 (putF X31 hx hZ hown (host := "") (Or.inl (wd hw 21 rfl)) Via.refl e31 u5 u1 (Or.inr ⟨(wd hw 22 rfl), rfl, hnm⟩) (wd hw 6 rfl) (ty := .double) (by decide) rfl rfl rfl rfl (hd.at 14 rfl)) fun T33 h33 X33 e33 W33 => ?_
  have f34 := u5.same W33
  replace u1 := u1.wr W33
  replace f19 := f19.other W33 (Or.inr (sl (Or.inl (wd hw 16 rfl)) (Or.inr (wd hw 22 rfl))))
  replace f30 := f30.other W33 (Or.inr (sl (Or.inr (wd hw 18 rfl)) (Or.inr (wd hw 22 rfl))))
  replace f32 := f32.other W33 (Or.inr (sl (Or.inr (wd hw 20 rfl)) (Or.inr (wd hw 22 rfl))))
  replace u6 := u6.other W33 (Or.inr (sl (Or.inl (wd hw 24 rfl)) (Or.inr (wd hw 22 rfl))))
  replace u7 := u7.other W33 (Or.inr (sl (Or.inl (wd hw 26 rfl)) (Or.inr (wd hw 22 rfl))))
  replace u8 := u8.other W33 (Or.inr (sl (Or.inl (wd hw 28 rfl)) (Or.inr (wd hw 22 rfl))))
  replace u9 := u9.other W33 (Or.inr (sl (Or.inl (wd hw 30 rfl)) (Or.inr (wd hw 22 rfl))))
  replace u10 := u10.other W33 (Or.inr (sl (Or.inl (wd hw 32 rfl)) (Or.inr (wd hw 22 rfl))))
  replace u11 := u11.other W33 (Or.inr (sl (Or.inl (wd hw 34 rfl)) (Or.inr (wd hw 22 rfl))))
  replace u12 := u12.other W33 (Or.inr (sl (Or.inl (wd hw 37 rfl)) (Or.inr (wd hw 22 rfl))))
  replace u13 := u13.other W33 (Or.inr (sl (Or.inl (wd hw 39 rfl)) (Or.inr (wd hw 22 rfl))))
  replace u14 := u14.other W33 (Or.inr (sl (Or.inl (wd hw 64 rfl)) (Or.inr (wd hw 22 rfl))))
  replace u15 := u15.other W33 (Or.inr (sl (Or.inl (wd hw 183 rfl)) (Or.inr (wd hw 22 rfl))))
  replace u16 := u16.other W33 (Or.inr (sl (Or.inl (wd hw 191 rfl)) (Or.inr (wd hw 22 rfl))))
  replace f22 := f22.other W33 n21
  replace f25 := f25.other W33 n24
  replace f28 := f28.other W33 n27
  have sz33 : n0 ≤ h33.size := by rw [W33.size]; exact sz31
  have fr33 := Fr.snoc X33 fr31 (hS.ge 0 rfl)
  have kp33 := kp31.wr W33 (Or.inl (List.mem_of_getElem? (i := 0) rfl))
  refine pA X33 hx (hd.at 15 rfl) rfl rfl ?_
  refine pd X33 hx (hd.at 16 rfl) rfl ?_
  refine pg2 (putF X33 hx hZ hown (host := "") (Or.inl (wd hw 23 rfl)) Via.refl e33 u6 u1 (Or.inl (wd hw 24 rfl)) (wd hw 6 rfl) (ty := .double) (by decide) rfl rfl rfl rfl (hd.at 17 rfl)) fun T35 h35 X35 e35 W35 => ?_
  have f36 := u6.same W35
  replace u1 := u1.wr W35
  replace f19 := f19.other W35 (Or.inr (sl (Or.inl (wd hw 16 rfl)) (Or.inl (wd hw 24 rfl))))
  replace f30 := f30.other W35 (Or.inr (sl (Or.inr (wd hw 18 rfl)) (Or.inl (wd hw 24 rfl))))
  replace f32 := f32.other W35 (Or.inr (sl (Or.inr (wd hw 20 rfl)) (Or.inl (wd hw 24 rfl))))
  replace f34 := f34.other W35 (Or.inr (sl (Or.inr (wd hw 22 rfl)) (Or.inl (wd hw 24 rfl))))
  replace u7 := u7.other W35 (Or.inr (sl (Or.inl (wd hw 26 rfl)) (Or.inl (wd hw 24 rfl))))
  replace u8 := u8.other W35 (Or.inr (sl (Or.inl (wd hw 28 rfl)) (Or.inl (wd hw 24 rfl))))
  replace u9 := u9.other W35 (Or.inr (sl (Or.inl (wd hw 30 rfl)) (Or.inl (wd hw 24 rfl))))
  replace u10 := u10.other W35 (Or.inr (sl (Or.inl (wd hw 32 rfl)) (Or.inl (wd hw 24 rfl))))
  replace u11 := u11.other W35 (Or.inr (sl (Or.inl (wd hw 34 rfl)) (Or.inl (wd hw 24 rfl))))
  replace u12 := u12.other W35 (Or.inr (sl (Or.inl (wd hw 37 rfl)) (Or.inl (wd hw 24 rfl))))
  replace u13 := u13.other W35 (Or.inr (sl (Or.inl (wd hw 39 rfl)) (Or.inl (wd hw 24 rfl))))
  replace u14 := u14.other W35 (Or.inr (sl (Or.inl (wd hw 64 rfl)) (Or.inl (wd hw 24 rfl))))
  replace u15 := u15.other W35 (Or.inr (sl (Or.inl (wd hw 183 rfl)) (Or.inl (wd hw 24 rfl))))
  replace u16 := u16.other W35 (Or.inr (sl (Or.inl (wd hw 191 rfl)) (Or.inl (wd hw 24 rfl))))
  replace f22 := f22.other W35 n21
  replace f25 := f25.other W35 n24
  replace f28 := f28.other W35 n27
  have sz35 : n0 ≤ h35.size := by rw [W35.size]; exact sz33
  have fr35 := Fr.snoc X35 fr33 (hS.ge 0 rfl)
  have kp35 := kp33.wr W35 (Or.inl (List.mem_of_getElem? (i := 0) rfl))
  refine pA X35 hx (hd.at 18 rfl) rfl rfl ?_
  refine pi X35 hx (hd.at 19 rfl) rfl ?_
  refine pg2 (putF X35 hx hZ hown (host := "") (Or.inl (wd hw 25 rfl)) Via.refl e35 u7 u1 (Or.inl (wd hw 26 rfl)) (wd hw 6 rfl) (ty := .int) (by decide) rfl rfl rfl rfl (hd.at 20 rfl)) fun T37 h37 X37 e37 W37 => ?_
  have f38 := u7.same W37
  replace u1 := u1.wr W37
  replace f19 := f19.other W37 (Or.inr (sl (Or.inl (wd hw 16 rfl)) (Or.inl (wd hw 26 rfl))))
  replace f30 := f30.other W37 (Or.inr (sl (Or.inr (wd hw 18 rfl)) (Or.inl (wd hw 26 rfl))))
  replace f32 := f32.other W37 (Or.inr (sl (Or.inr (wd hw 20 rfl)) (Or.inl (wd hw 26 rfl))))
  replace f34 := f34.other W37 (Or.inr (sl (Or.inr (wd hw 22 rfl)) (Or.inl (wd hw 26 rfl))))
  replace f36 := f36.other W37 (Or.inr (sl (Or.inl (wd hw 24 rfl)) (Or.inl (wd hw 26 rfl))))
  replace u8 := u8.other W37 (Or.inr (sl (Or.inl (wd hw 28 rfl)) (Or.inl (wd hw 26 rfl))))
  replace u9 := u9.other W37 (Or.inr (sl (Or.inl (wd hw 30 rfl)) (Or.inl (wd hw 26 rfl))))
  replace u10 := u10.other W37 (Or.inr (sl (Or.inl (wd hw 32 rfl)) (Or.inl (wd hw 26 rfl))))
  replace u11 := u11.other W37 (Or.inr (sl (Or.inl (wd hw 34 rfl)) (Or.inl (wd hw 26 rfl))))
  replace u12 := u12.other W37 (Or.inr (sl (Or.inl (wd hw 37 rfl)) (Or.inl (wd hw 26 rfl))))
  replace u13 := u13.other W37 (Or.inr (sl (Or.inl (wd hw 39 rfl)) (Or.inl (wd hw 26 rfl))))
  replace u14 := u14.other W37 (Or.inr (sl (Or.inl (wd hw 64 rfl)) (Or.inl (wd hw 26 rfl))))
  replace u15 := u15.other W37 (Or.inr (sl (Or.inl (wd hw 183 rfl)) (Or.inl (wd hw 26 rfl))))
  replace u16 := u16.other W37 (Or.inr (sl (Or.inl (wd hw 191 rfl)) (Or.inl (wd hw 26 rfl))))
  replace f22 := f22.other W37 n21
  replace f25 := f25.other W37 n24
  replace f28 := f28.other W37 n27
  have sz37 : n0 ≤ h37.size := by rw [W37.size]; exact sz35
  have fr37 := Fr.snoc X37 fr35 (hS.ge 0 rfl)
  have kp37 := kp35.wr W37 (Or.inl (List.mem_of_getElem? (i := 0) rfl))
  refine pA X37 hx (hd.at 21 rfl) rfl rfl ?_
  refine pi X37 hx (hd.at 22 rfl) rfl ?_
  refine pg2 (putF X37 hx hZ hown (host := "") (Or.inl (wd hw 27 rfl)) Via.refl e37 u8 u1 (Or.inl (wd hw 28 rfl)) (wd hw 6 rfl) (ty := .int) (by decide) rfl rfl rfl rfl (hd.at 23 rfl)) fun T39 h39 X39 e39 W39 => ?_
  have f40 := u8.same W39
  replace u1 := u1.wr W39
  replace f19 := f19.other W39 (Or.inr (sl (Or.inl (wd hw 16 rfl)) (Or.inl (wd hw 28 rfl))))
  replace f30 := f30.other W39 (Or.inr (sl (Or.inr (wd hw 18 rfl)) (Or.inl (wd hw 28 rfl))))
  replace f32 := f32.other W39 (Or.inr (sl (Or.inr (wd hw 20 rfl)) (Or.inl (wd hw 28 rfl))))
  replace f34 := f34.other W39 (Or.inr (sl (Or.inr (wd hw 22 rfl)) (Or.inl (wd hw 28 rfl))))
  replace f36 := f36.other W39 (Or.inr (sl (Or.inl (wd hw 24 rfl)) (Or.inl (wd hw 28 rfl))))
  replace f38 := f38.other W39 (Or.inr (sl (Or.inl (wd hw 26 rfl)) (Or.inl (wd hw 28 rfl))))
  replace u9 := u9.other W39 (Or.inr (sl (Or.inl (wd hw 30 rfl)) (Or.inl (wd hw 28 rfl))))
  replace u10 := u10.other W39 (Or.inr (sl (Or.inl (wd hw 32 rfl)) (Or.inl (wd hw 28 rfl))))
  replace u11 := u11.other W39 (Or.inr (sl (Or.inl (wd hw 34 rfl)) (Or.inl (wd hw 28 rfl))))
  replace u12 := u12.other W39 (Or.inr (sl (Or.inl (wd hw 37 rfl)) (Or.inl (wd hw 28 rfl))))
  replace u13 := u13.other W39 (Or.inr (sl (Or.inl (wd hw 39 rfl)) (Or.inl (wd hw 28 rfl))))
  replace u14 := u14.other W39 (Or.inr (sl (Or.inl (wd hw 64 rfl)) (Or.inl (wd hw 28 rfl))))
  replace u15 := u15.other W39 (Or.inr (sl (Or.inl (wd hw 183 rfl)) (Or.inl (wd hw 28 rfl))))
  replace u16 := u16.other W39 (Or.inr (sl (Or.inl (wd hw 191 rfl)) (Or.inl (wd hw 28 rfl))))
  replace f22 := f22.other W39 n21
  replace f25 := f25.other W39 n24
  replace f28 := f28.other W39 n27
  have sz39 : n0 ≤ h39.size := by rw [W39.size]; exact sz37
  have fr39 := Fr.snoc X39 fr37 (hS.ge 0 rfl)
  have kp39 := kp37.wr W39 (Or.inl (List.mem_of_getElem? (i := 0) rfl))
  refine pA X39 hx (hd.at 24 rfl) rfl rfl ?_
  obtain ⟨cl41, Ar41, S41, B41, H41⟩ := id f22
  have hl41 := own_len S41 (rfl : _ = (4 : Int32))
  refine own_st (X39.arraylength hx (by rw [e39]; exact Ar41.1) (State.isArrayOf_alike hZ.alike Ar41.2.1) rfl rfl (hd.at 25 rfl)) ?_
  rw [hl41]
  show OFin p e below s _ _ _ (T39.setTop (mkF m 48 #[.val (.ref ed), .val (.ref u), .val (.ref ct), .val (.ref gd), .val (.int zz), .val (.int 4), .val (.long nn), .second, .val (.double 4613937818241073152), .second, .val (.double FP.dconst1), .second, .unset, .unset] [(.int 4)]))
  refine ps X39 hx #[.val (.ref ed), .val (.ref u), .val (.ref ct), .val (.ref gd), .val (.int zz), .val (.int 4), .val (.long nn), .second, .val (.double 4613937818241073152), .second, .val (.double FP.dconst1), .second, .val (.int 4), .unset] (hd.at 26 rfl) rfl ?_
  refine pA X39 hx (hd.at 27 rfl) rfl rfl ?_
  refine pA X39 hx (hd.at 28 rfl) rfl rfl ?_
  refine pg2 (putF X39 hx hZ hown (host := "") (Or.inl (wd hw 29 rfl)) Via.refl e39 u9 u1 (Or.inl (wd hw 30 rfl)) (wd hw 6 rfl) (ty := (.array .double)) (by decide) rfl rfl rfl rfl (hd.at 29 rfl)) fun T42 h42 X42 e42 W42 => ?_
  have f43 := u9.same W42
  replace u1 := u1.wr W42
  replace f19 := f19.other W42 (Or.inr (sl (Or.inl (wd hw 16 rfl)) (Or.inl (wd hw 30 rfl))))
  replace f30 := f30.other W42 (Or.inr (sl (Or.inr (wd hw 18 rfl)) (Or.inl (wd hw 30 rfl))))
  replace f32 := f32.other W42 (Or.inr (sl (Or.inr (wd hw 20 rfl)) (Or.inl (wd hw 30 rfl))))
  replace f34 := f34.other W42 (Or.inr (sl (Or.inr (wd hw 22 rfl)) (Or.inl (wd hw 30 rfl))))
  replace f36 := f36.other W42 (Or.inr (sl (Or.inl (wd hw 24 rfl)) (Or.inl (wd hw 30 rfl))))
  replace f38 := f38.other W42 (Or.inr (sl (Or.inl (wd hw 26 rfl)) (Or.inl (wd hw 30 rfl))))
  replace u10 := u10.other W42 (Or.inr (sl (Or.inl (wd hw 32 rfl)) (Or.inl (wd hw 30 rfl))))
  replace u11 := u11.other W42 (Or.inr (sl (Or.inl (wd hw 34 rfl)) (Or.inl (wd hw 30 rfl))))
  replace u12 := u12.other W42 (Or.inr (sl (Or.inl (wd hw 37 rfl)) (Or.inl (wd hw 30 rfl))))
  replace u13 := u13.other W42 (Or.inr (sl (Or.inl (wd hw 39 rfl)) (Or.inl (wd hw 30 rfl))))
  replace u14 := u14.other W42 (Or.inr (sl (Or.inl (wd hw 64 rfl)) (Or.inl (wd hw 30 rfl))))
  replace u15 := u15.other W42 (Or.inr (sl (Or.inl (wd hw 183 rfl)) (Or.inl (wd hw 30 rfl))))
  replace u16 := u16.other W42 (Or.inr (sl (Or.inl (wd hw 191 rfl)) (Or.inl (wd hw 30 rfl))))
  replace f22 := f22.other W42 n21
  replace f25 := f25.other W42 n24
  replace f28 := f28.other W42 n27
  have sz42 : n0 ≤ h42.size := by rw [W42.size]; exact sz39
  have fr42 := Fr.snoc X42 fr39 (hS.ge 0 rfl)
  have kp42 := kp39.wr W42 (Or.inl (List.mem_of_getElem? (i := 0) rfl))
  refine pA X42 hx (hd.at 30 rfl) rfl rfl ?_
  refine pA X42 hx (hd.at 31 rfl) rfl rfl ?_
  refine pg2 (putF X42 hx hZ hown (host := "") (Or.inl (wd hw 31 rfl)) Via.refl e42 u10 u1 (Or.inl (wd hw 32 rfl)) (wd hw 6 rfl) (ty := (.array .double)) (by decide) rfl rfl rfl rfl (hd.at 32 rfl)) fun T44 h44 X44 e44 W44 => ?_
  have f45 := u10.same W44
  replace u1 := u1.wr W44
  replace f19 := f19.other W44 (Or.inr (sl (Or.inl (wd hw 16 rfl)) (Or.inl (wd hw 32 rfl))))
  replace f30 := f30.other W44 (Or.inr (sl (Or.inr (wd hw 18 rfl)) (Or.inl (wd hw 32 rfl))))
  replace f32 := f32.other W44 (Or.inr (sl (Or.inr (wd hw 20 rfl)) (Or.inl (wd hw 32 rfl))))
  replace f34 := f34.other W44 (Or.inr (sl (Or.inr (wd hw 22 rfl)) (Or.inl (wd hw 32 rfl))))
  replace f36 := f36.other W44 (Or.inr (sl (Or.inl (wd hw 24 rfl)) (Or.inl (wd hw 32 rfl))))
  replace f38 := f38.other W44 (Or.inr (sl (Or.inl (wd hw 26 rfl)) (Or.inl (wd hw 32 rfl))))
  replace f43 := f43.other W44 (Or.inr (sl (Or.inl (wd hw 30 rfl)) (Or.inl (wd hw 32 rfl))))
  replace u11 := u11.other W44 (Or.inr (sl (Or.inl (wd hw 34 rfl)) (Or.inl (wd hw 32 rfl))))
  replace u12 := u12.other W44 (Or.inr (sl (Or.inl (wd hw 37 rfl)) (Or.inl (wd hw 32 rfl))))
  replace u13 := u13.other W44 (Or.inr (sl (Or.inl (wd hw 39 rfl)) (Or.inl (wd hw 32 rfl))))
  replace u14 := u14.other W44 (Or.inr (sl (Or.inl (wd hw 64 rfl)) (Or.inl (wd hw 32 rfl))))
  replace u15 := u15.other W44 (Or.inr (sl (Or.inl (wd hw 183 rfl)) (Or.inl (wd hw 32 rfl))))
  replace u16 := u16.other W44 (Or.inr (sl (Or.inl (wd hw 191 rfl)) (Or.inl (wd hw 32 rfl))))
  replace f22 := f22.other W44 n21
  replace f25 := f25.other W44 n24
  replace f28 := f28.other W44 n27
  have sz44 : n0 ≤ h44.size := by rw [W44.size]; exact sz42
  have fr44 := Fr.snoc X44 fr42 (hS.ge 0 rfl)
  have kp44 := kp42.wr W44 (Or.inl (List.mem_of_getElem? (i := 0) rfl))
  refine pA X44 hx (hd.at 33 rfl) rfl rfl ?_
  refine pA X44 hx (hd.at 34 rfl) rfl rfl ?_
  refine pg2 (putF X44 hx hZ hown (host := "") (Or.inl (wd hw 33 rfl)) Via.refl e44 u11 u1 (Or.inl (wd hw 34 rfl)) (wd hw 6 rfl) (ty := (.array .boolean)) (by decide) rfl rfl rfl rfl (hd.at 35 rfl)) fun T46 h46 X46 e46 W46 => ?_
  have f47 := u11.same W46
  replace u1 := u1.wr W46
  replace f19 := f19.other W46 (Or.inr (sl (Or.inl (wd hw 16 rfl)) (Or.inl (wd hw 34 rfl))))
  replace f30 := f30.other W46 (Or.inr (sl (Or.inr (wd hw 18 rfl)) (Or.inl (wd hw 34 rfl))))
  replace f32 := f32.other W46 (Or.inr (sl (Or.inr (wd hw 20 rfl)) (Or.inl (wd hw 34 rfl))))
  replace f34 := f34.other W46 (Or.inr (sl (Or.inr (wd hw 22 rfl)) (Or.inl (wd hw 34 rfl))))
  replace f36 := f36.other W46 (Or.inr (sl (Or.inl (wd hw 24 rfl)) (Or.inl (wd hw 34 rfl))))
  replace f38 := f38.other W46 (Or.inr (sl (Or.inl (wd hw 26 rfl)) (Or.inl (wd hw 34 rfl))))
  replace f43 := f43.other W46 (Or.inr (sl (Or.inl (wd hw 30 rfl)) (Or.inl (wd hw 34 rfl))))
  replace f45 := f45.other W46 (Or.inr (sl (Or.inl (wd hw 32 rfl)) (Or.inl (wd hw 34 rfl))))
  replace u12 := u12.other W46 (Or.inr (sl (Or.inl (wd hw 37 rfl)) (Or.inl (wd hw 34 rfl))))
  replace u13 := u13.other W46 (Or.inr (sl (Or.inl (wd hw 39 rfl)) (Or.inl (wd hw 34 rfl))))
  replace u14 := u14.other W46 (Or.inr (sl (Or.inl (wd hw 64 rfl)) (Or.inl (wd hw 34 rfl))))
  replace u15 := u15.other W46 (Or.inr (sl (Or.inl (wd hw 183 rfl)) (Or.inl (wd hw 34 rfl))))
  replace u16 := u16.other W46 (Or.inr (sl (Or.inl (wd hw 191 rfl)) (Or.inl (wd hw 34 rfl))))
  replace f22 := f22.other W46 n21
  replace f25 := f25.other W46 n24
  replace f28 := f28.other W46 n27
  have sz46 : n0 ≤ h46.size := by rw [W46.size]; exact sz44
  have fr46 := Fr.snoc X46 fr44 (hS.ge 0 rfl)
  have kp46 := kp44.wr W46 (Or.inl (List.mem_of_getElem? (i := 0) rfl))
  refine pA X46 hx (hd.at 36 rfl) rfl rfl ?_
  refine pi X46 hx (hd.at 37 rfl) rfl ?_
  refine pg4 (newP X46 hx hZ (wd hw 35 rfl) e46 rfl (hd.at 38 rfl) rfl (by decide) (cap := 4) (by decide) (by decide) (by decide) (by decide)) fun T48 h48 k48 X48 e48 E48 A48 => ?_
  obtain ⟨px, g48⟩ : ∃ z, z = h46.size := ⟨_, rfl⟩
  rw [← g48] at A48 ⊢
  have ne_ct_px : ct ≠ px := Nat.ne_of_lt (Nat.lt_of_lt_of_le f25.lt (Nat.le_of_eq g48.symm))
  have ne_ed_px : ed ≠ px := Nat.ne_of_lt (Nat.lt_of_lt_of_le u1.lt (Nat.le_of_eq g48.symm))
  have ne_gd_px : gd ≠ px := Nat.ne_of_lt (Nat.lt_of_lt_of_le f28.lt (Nat.le_of_eq g48.symm))
  have ne_u_px : u ≠ px := Nat.ne_of_lt (Nat.lt_of_lt_of_le f22.lt (Nat.le_of_eq g48.symm))
  have g_px : n0 ≤ px := Nat.le_trans sz46 (Nat.le_of_eq g48.symm)
  replace u1 := u1.ext E48
  replace f19 := f19.ext E48
  replace f30 := f30.ext E48
  replace f32 := f32.ext E48
  replace f34 := f34.ext E48
  replace f36 := f36.ext E48
  replace f38 := f38.ext E48
  replace f43 := f43.ext E48
  replace f45 := f45.ext E48
  replace f47 := f47.ext E48
  replace u12 := u12.ext E48
  replace u13 := u13.ext E48
  replace u14 := u14.ext E48
  replace u15 := u15.ext E48
  replace u16 := u16.ext E48
  replace f22 := f22.ext E48
  replace f25 := f25.ext E48
  replace f28 := f28.ext E48
  have f49 : Arv Z h48 px k48 .int (4 : Int32) [(.int (0 : Int32)), (.int (0 : Int32)), (.int (0 : Int32)), (.int (0 : Int32))] (.int (0 : Int32)) := (Arv.new A48 (by decide)).pad (pad_rep [] (.int (0 : Int32)) 4)
  have sz48 : n0 ≤ h48.size := Nat.le_trans sz46 E48.1
  have kp48 := kp46.ext E48
  have kz_px := Nat.le_trans kp46.1 (Nat.le_of_eq g48.symm)
  have f50 : OArr Z h48 px .int 4 (fun i => .int ((own_q4 (0 : Int32) (0 : Int32) (0 : Int32) (0 : Int32)) i)) := OArr.of f49 rfl (own_lt4 rfl rfl rfl rfl)
  refine pg2 (putF X48 hx hZ hown (host := "") (Or.inl (wd hw 36 rfl)) Via.refl e48 u12 u1 (Or.inl (wd hw 37 rfl)) (wd hw 6 rfl) (ty := (.array .int)) (by decide) rfl rfl rfl rfl (hd.at 39 rfl)) fun T51 h51 X51 e51 W51 => ?_
  have f52 := u12.same W51
  replace u1 := u1.wr W51
  replace f19 := f19.other W51 (Or.inr (sl (Or.inl (wd hw 16 rfl)) (Or.inl (wd hw 37 rfl))))
  replace f30 := f30.other W51 (Or.inr (sl (Or.inr (wd hw 18 rfl)) (Or.inl (wd hw 37 rfl))))
  replace f32 := f32.other W51 (Or.inr (sl (Or.inr (wd hw 20 rfl)) (Or.inl (wd hw 37 rfl))))
  replace f34 := f34.other W51 (Or.inr (sl (Or.inr (wd hw 22 rfl)) (Or.inl (wd hw 37 rfl))))
  replace f36 := f36.other W51 (Or.inr (sl (Or.inl (wd hw 24 rfl)) (Or.inl (wd hw 37 rfl))))
  replace f38 := f38.other W51 (Or.inr (sl (Or.inl (wd hw 26 rfl)) (Or.inl (wd hw 37 rfl))))
  replace f43 := f43.other W51 (Or.inr (sl (Or.inl (wd hw 30 rfl)) (Or.inl (wd hw 37 rfl))))
  replace f45 := f45.other W51 (Or.inr (sl (Or.inl (wd hw 32 rfl)) (Or.inl (wd hw 37 rfl))))
  replace f47 := f47.other W51 (Or.inr (sl (Or.inl (wd hw 34 rfl)) (Or.inl (wd hw 37 rfl))))
  replace u13 := u13.other W51 (Or.inr (sl (Or.inl (wd hw 39 rfl)) (Or.inl (wd hw 37 rfl))))
  replace u14 := u14.other W51 (Or.inr (sl (Or.inl (wd hw 64 rfl)) (Or.inl (wd hw 37 rfl))))
  replace u15 := u15.other W51 (Or.inr (sl (Or.inl (wd hw 183 rfl)) (Or.inl (wd hw 37 rfl))))
  replace u16 := u16.other W51 (Or.inr (sl (Or.inl (wd hw 191 rfl)) (Or.inl (wd hw 37 rfl))))
  replace f22 := f22.other W51 n21
  replace f25 := f25.other W51 n24
  replace f28 := f28.other W51 n27
  have n53 := Ne.symm ne_ed_px
  replace f50 := f50.other W51 n53
  have sz51 : n0 ≤ h51.size := by rw [W51.size]; exact sz48
  have fr51 := Fr.snoc X51 fr46 (hS.ge 0 rfl)
  have kp51 := kp48.wr W51 (Or.inl (List.mem_of_getElem? (i := 0) rfl))
  refine pA X51 hx (hd.at 40 rfl) rfl rfl ?_
  refine pi X51 hx (hd.at 41 rfl) rfl ?_
  refine pg4 (newP X51 hx hZ (wd hw 35 rfl) e51 rfl (hd.at 42 rfl) rfl (by decide) (cap := 4) (by decide) (by decide) (by decide) (by decide)) fun T54 h54 k54 X54 e54 E54 A54 => ?_
  obtain ⟨nx, g54⟩ : ∃ z, z = h51.size := ⟨_, rfl⟩
  rw [← g54] at A54 ⊢
  have ne_ct_nx : ct ≠ nx := Nat.ne_of_lt (Nat.lt_of_lt_of_le f25.lt (Nat.le_of_eq g54.symm))
  have ne_ed_nx : ed ≠ nx := Nat.ne_of_lt (Nat.lt_of_lt_of_le u1.lt (Nat.le_of_eq g54.symm))
  have ne_gd_nx : gd ≠ nx := Nat.ne_of_lt (Nat.lt_of_lt_of_le f28.lt (Nat.le_of_eq g54.symm))
  have ne_px_nx : px ≠ nx := Nat.ne_of_lt (Nat.lt_of_lt_of_le f50.lt (Nat.le_of_eq g54.symm))
  have ne_u_nx : u ≠ nx := Nat.ne_of_lt (Nat.lt_of_lt_of_le f22.lt (Nat.le_of_eq g54.symm))
  have g_nx : n0 ≤ nx := Nat.le_trans sz51 (Nat.le_of_eq g54.symm)
  replace u1 := u1.ext E54
  replace f19 := f19.ext E54
  replace f30 := f30.ext E54
  replace f32 := f32.ext E54
  replace f34 := f34.ext E54
  replace f36 := f36.ext E54
  replace f38 := f38.ext E54
  replace f43 := f43.ext E54
  replace f45 := f45.ext E54
  replace f47 := f47.ext E54
  replace f52 := f52.ext E54
  replace u13 := u13.ext E54
  replace u14 := u14.ext E54
  replace u15 := u15.ext E54
  replace u16 := u16.ext E54
  replace f22 := f22.ext E54
  replace f25 := f25.ext E54
  replace f28 := f28.ext E54
  replace f50 := f50.ext E54
  have f55 : Arv Z h54 nx k54 .int (4 : Int32) [(.int (0 : Int32)), (.int (0 : Int32)), (.int (0 : Int32)), (.int (0 : Int32))] (.int (0 : Int32)) := (Arv.new A54 (by decide)).pad (pad_rep [] (.int (0 : Int32)) 4)
  have sz54 : n0 ≤ h54.size := Nat.le_trans sz51 E54.1
  have kp54 := kp51.ext E54
  have kz_nx := Nat.le_trans kp51.1 (Nat.le_of_eq g54.symm)
  have f56 : OArr Z h54 nx .int 4 (fun i => .int ((own_q4 (0 : Int32) (0 : Int32) (0 : Int32) (0 : Int32)) i)) := OArr.of f55 rfl (own_lt4 rfl rfl rfl rfl)
  refine pg2 (putF X54 hx hZ hown (host := "") (Or.inl (wd hw 38 rfl)) Via.refl e54 u13 u1 (Or.inl (wd hw 39 rfl)) (wd hw 6 rfl) (ty := (.array .int)) (by decide) rfl rfl rfl rfl (hd.at 43 rfl)) fun T57 h57 X57 e57 W57 => ?_
  have f58 := u13.same W57
  replace u1 := u1.wr W57
  replace f19 := f19.other W57 (Or.inr (sl (Or.inl (wd hw 16 rfl)) (Or.inl (wd hw 39 rfl))))
  replace f30 := f30.other W57 (Or.inr (sl (Or.inr (wd hw 18 rfl)) (Or.inl (wd hw 39 rfl))))
  replace f32 := f32.other W57 (Or.inr (sl (Or.inr (wd hw 20 rfl)) (Or.inl (wd hw 39 rfl))))
  replace f34 := f34.other W57 (Or.inr (sl (Or.inr (wd hw 22 rfl)) (Or.inl (wd hw 39 rfl))))
  replace f36 := f36.other W57 (Or.inr (sl (Or.inl (wd hw 24 rfl)) (Or.inl (wd hw 39 rfl))))
  replace f38 := f38.other W57 (Or.inr (sl (Or.inl (wd hw 26 rfl)) (Or.inl (wd hw 39 rfl))))
  replace f43 := f43.other W57 (Or.inr (sl (Or.inl (wd hw 30 rfl)) (Or.inl (wd hw 39 rfl))))
  replace f45 := f45.other W57 (Or.inr (sl (Or.inl (wd hw 32 rfl)) (Or.inl (wd hw 39 rfl))))
  replace f47 := f47.other W57 (Or.inr (sl (Or.inl (wd hw 34 rfl)) (Or.inl (wd hw 39 rfl))))
  replace f52 := f52.other W57 (Or.inr (sl (Or.inl (wd hw 37 rfl)) (Or.inl (wd hw 39 rfl))))
  replace u14 := u14.other W57 (Or.inr (sl (Or.inl (wd hw 64 rfl)) (Or.inl (wd hw 39 rfl))))
  replace u15 := u15.other W57 (Or.inr (sl (Or.inl (wd hw 183 rfl)) (Or.inl (wd hw 39 rfl))))
  replace u16 := u16.other W57 (Or.inr (sl (Or.inl (wd hw 191 rfl)) (Or.inl (wd hw 39 rfl))))
  replace f22 := f22.other W57 n21
  replace f25 := f25.other W57 n24
  replace f28 := f28.other W57 n27
  replace f50 := f50.other W57 n53
  have n59 := Ne.symm ne_ed_nx
  replace f56 := f56.other W57 n59
  have sz57 : n0 ≤ h57.size := by rw [W57.size]; exact sz54
  have fr57 := Fr.snoc X57 fr51 (hS.ge 0 rfl)
  have kp57 := kp54.wr W57 (Or.inl (List.mem_of_getElem? (i := 0) rfl))
  refine pC X57 hx 0 (hd.at 44 rfl) rfl ?_
  refine ps X57 hx #[.val (.ref ed), .val (.ref u), .val (.ref ct), .val (.ref gd), .val (.int zz), .val (.int 4), .val (.long nn), .second, .val (.double 4613937818241073152), .second, .val (.double FP.dconst1), .second, .val (.int 4), .val (.int 0)] (hd.at 45 rfl) rfl ?_
  have f60 : ORe Z h57 ed u ct gd px nx fu fc fg (FP.l2d nn) := ⟨u1, f43, f45, f47, f52, f58, f32, f34, f36, f30, f22, f25, f28⟩
  have f61 : OEj Z h57 ed zz := ⟨f19, f38, u14, u15, u16⟩
  have n62 := hS.ne 1 3
  have n63 := hS.ne 1 2
  have n64 := hS.ne 2 3
  exact hk _ _ _ px nx X57 e57 fr57 kp57 sz57 kz_px kz_nx (OOrd.cons (hS.ge 0 rfl) (allS n20 (allS n23 (allS n26 (allS ne_ed_px (allS ne_ed_nx all0))))) (OOrd.cons (hS.ge 1 rfl) (allS n63 (allS n62 (allS ne_u_px (allS ne_u_nx all0)))) (OOrd.cons (hS.ge 2 rfl) (allS n64 (allS ne_ct_px (allS ne_ct_nx all0))) (OOrd.cons (hS.ge 3 rfl) (allS ne_gd_px (allS ne_gd_nx all0)) (OOrd.cons g_px (allS ne_px_nx all0) (OOrd.cons g_nx all0 OOrd.nil)))))) f60 f50 f56 f61
set_option maxRecDepth 65536 in
set_option maxHeartbeats 40000000 in
theorem rmIn1 (l : Launch) (Z : State) (a0 : Array Value) (hw : ∀ d ∈ tables_1, d.before a0 Z = true) (ed : Addr) (u : Addr) (ct : Addr) (gd : Addr) (nn : Int64) (h0 : Heap) (n0 : Nat) (fu fc : Nat → UInt64) (fg : Nat → Int32) (Z0 : n0 ≤ h0.size) (B : OE0 Z h0 ed) (A_u : OArr Z h0 u .double 4 (fun i => .double (fu i))) (A_c : OArr Z h0 ct .double 4 (fun i => .double (fc i))) (A_g : OArr Z h0 gd .boolean 4 (fun i => .int (fg i))) (hU : OUp fu) (hN : OCn fc) (hS : OOrd n0 [ed, u, ct, gd]) :
    OMet l Z yN1 prog_72_method_1_code 14 none (⟨12, 8, 25, 3100⟩ : Room) #[(.ref ed), (.ref u), (.ref ct), (.ref gd), (.int 1), (.int 4), (.long nn), (.double 4613937818241073152), (.double FP.dconst1)] h0 (fun v h L => v = none ∧ Fr n0 L ∧ Keep h0 h [ed] ∧ ∃ nx, h0.size ≤ nx ∧ OWr Z h ed u ct gd nx fu fc fg own_n1) := by
  refine own_enter own_pn1 ?_
  intro p e s m below meth c T0 X0 hC e0 hnamed
  have hC0 := hC
  obtain ⟨hx, hZH, hby, hml, hown, hret, hlk, hnm⟩ := hC
  have hZ := hZH.wide
  have hown : s.vm.findClass "com/example/rankfold/rankfold/summaries/BucketEditor" = some m.cls := hown
  refine own_at (own_ef1_RRRRIIJDD m ed u ct gd (1 : Int32) (4 : Int32) nn (4613937818241073152 : UInt64) FP.dconst1) ?_
  have hd := D1.to hby
  have hD := Jvm.Free.Fl.l2d_mag nn
  refine lpInP hw hC0 X0 e0 n0 ed u ct gd (1 : Int32) nn fu fc fg Z0 B A_u A_c A_g hS fun T1 L1 h1 px nx X1 e1 fr1 kp1 sz1 kz_px kz_nx hS1 B1 f1 f2 B2 => ?_
  refine pi X1 hx (hd.at 46 rfl) rfl ?_
  refine pi X1 hx (hd.at 47 rfl) rfl ?_
  refine pcN X1 hx (hd.at 48 rfl) ((tlt (by decide)).2.1) ?_
  refine pA X1 hx (hd.at 49 rfl) rfl rfl ?_
  refine pF X1 hx hZ hown (wd hw 36 rfl) e1 B1.2.2.2.2.1 (hd.at 50 rfl) fun T6 X6 e6 => ?_
  refine pi X6 hx (hd.at 51 rfl) rfl ?_
  refine pi X6 hx (hd.at 52 rfl) rfl ?_
  refine pC X6 hx 1 (hd.at 53 rfl) rfl ?_
  refine o_isub X6 hx (hd.at 54 rfl) ?_
  rw [show (((0 : Int32) - (1 : Int32))) = (-1 : Int32) from by decide]
  refine wI X6 hx hZ e6 f1 0 (hd.at 55 rfl) fun T7 h7 X7 e7 W7 V7 => ?_
  have f8 : OArr Z h7 px .int 4 (fun i => .int ((own_q4 (-1 : Int32) (0 : Int32) (0 : Int32) (0 : Int32)) i)) := V7.congr (own_lt4 rfl rfl rfl rfl)
  have n9 := hS1.ne 4 5
  have n10 := Ne.symm n9
  replace f2 := f2.other W7 n10
  have n11 := hS1.ne 0 4
  have n12 := hS1.ne 1 4
  have n13 := hS1.ne 2 4
  have n14 := hS1.ne 3 4
  have f15 := B1.keep (Keep.of_wr W7) (ninS n11 nin0) (ninS n12 nin0) (ninS n13 nin0) (ninS n14 nin0)
  have f16 := B2.keep (Keep.of_wr W7) (ninS n11 nin0)
  have sz7 : n0 ≤ h7.size := by rw [W7.size]; exact sz1
  have fr7 := Fr.snoc X7 fr1 (hS1.ge 4 rfl)
  have kp7 := kp1.wr W7 (Or.inr kz_px)
  refine pA X7 hx (hd.at 56 rfl) rfl rfl ?_
  refine pF X7 hx hZ hown (wd hw 38 rfl) e7 f15.2.2.2.2.2.1 (hd.at 57 rfl) fun T17 X17 e17 => ?_
  refine pi X17 hx (hd.at 58 rfl) rfl ?_
  refine pi X17 hx (hd.at 59 rfl) rfl ?_
  refine pC X17 hx 1 (hd.at 60 rfl) rfl ?_
  refine o_iadd X17 hx (hd.at 61 rfl) ?_
  refine pi X17 hx (hd.at 62 rfl) rfl ?_
  refine pcY X17 hx 124 (hd.at 63 rfl) ((flt (by decide)).2.1) ?_
  refine pC X17 hx (-1) (hd.at 64 rfl) rfl ?_
  refine wI X17 hx hZ e17 f2 0 (hd.at 65 rfl) fun T18 h18 X18 e18 W18 V18 => ?_
  have f19 : OArr Z h18 nx .int 4 (fun i => .int ((own_q4 (-1 : Int32) (0 : Int32) (0 : Int32) (0 : Int32)) i)) := V18.congr (own_lt4 rfl rfl rfl rfl)
  replace f8 := f8.other W18 n9
  have n20 := hS1.ne 0 5
  have n21 := hS1.ne 1 5
  have n22 := hS1.ne 2 5
  have n23 := hS1.ne 3 5
  replace f15 := f15.keep (Keep.of_wr W18) (ninS n20 nin0) (ninS n21 nin0) (ninS n22 nin0) (ninS n23 nin0)
  replace f16 := f16.keep (Keep.of_wr W18) (ninS n20 nin0)
  have sz18 : n0 ≤ h18.size := by rw [W18.size]; exact sz7
  have fr18 := Fr.snoc X18 fr7 (hS1.ge 5 rfl)
  have kp18 := kp7.wr W18 (Or.inr kz_nx)
  refine pN X18 hx (1 : Int32) #[.val (.ref ed), .val (.ref u), .val (.ref ct), .val (.ref gd), .val (.int 1), .val (.int 4), .val (.long nn), .second, .val (.double 4613937818241073152), .second, .val (.double FP.dconst1), .second, .val (.int 4), .val (.int 1)] (hd.at 66 rfl) rfl (by decide) rfl ?_
  refine pG X18 hx 84 (hd.at 67 rfl) ?_
  refine pi X18 hx (hd.at 46 rfl) rfl ?_
  refine pi X18 hx (hd.at 47 rfl) rfl ?_
  refine pcY X18 hx 132 (hd.at 48 rfl) ((flt (by decide)).2.1) ?_
  refine pA X18 hx (hd.at 68 rfl) rfl rfl ?_
  refine pg5 (newO X18 hx hZ hown (wd hw 40 rfl) (wd hw 41 rfl) (wd hw 42 rfl) e18 rfl (hd.at 69 rfl) (by decide) (by decide)) fun T24 h24 X24 e24 E24 A24 D24 _ => ?_
  obtain ⟨t, g24⟩ : ∃ z, z = h18.size := ⟨_, rfl⟩
  rw [← g24] at A24 D24 ⊢
  have ne_ct_t : ct ≠ t := Nat.ne_of_lt (Nat.lt_of_lt_of_le f15.2.2.2.2.2.2.2.2.2.2.2.1.lt (Nat.le_of_eq g24.symm))
  have ne_ed_t : ed ≠ t := Nat.ne_of_lt (Nat.lt_of_lt_of_le f15.1.lt (Nat.le_of_eq g24.symm))
  have ne_gd_t : gd ≠ t := Nat.ne_of_lt (Nat.lt_of_lt_of_le f15.2.2.2.2.2.2.2.2.2.2.2.2.lt (Nat.le_of_eq g24.symm))
  have ne_nx_t : nx ≠ t := Nat.ne_of_lt (Nat.lt_of_lt_of_le f19.lt (Nat.le_of_eq g24.symm))
  have ne_px_t : px ≠ t := Nat.ne_of_lt (Nat.lt_of_lt_of_le f8.lt (Nat.le_of_eq g24.symm))
  have ne_u_t : u ≠ t := Nat.ne_of_lt (Nat.lt_of_lt_of_le f15.2.2.2.2.2.2.2.2.2.2.1.lt (Nat.le_of_eq g24.symm))
  have g_t : n0 ≤ t := Nat.le_trans sz18 (Nat.le_of_eq g24.symm)
  replace f8 := f8.ext E24
  replace f19 := f19.ext E24
  replace f15 := f15.keep ((Keep.refl h18 []).ext E24) nin0 nin0 nin0 nin0
  replace f16 := f16.keep ((Keep.refl h18 []).ext E24) nin0
  have f25 : Fld Z h24 t "com/example/rankfold/rankfold/summaries/Tournament" "largestFirst" "Z" (.int 0) := D24 (Or.inr (wd hw 53 rfl)) (ty := .boolean) (by decide)
  have f26 : Fld Z h24 t "com/example/rankfold/rankfold/summaries/Tournament" "keyOf" "Ljava/util/function/IntToDoubleFunction;" .null := D24 (Or.inr (wd hw 55 rfl)) (ty := (.object "java/util/function/IntToDoubleFunction")) (by decide)
  have f27 : Fld Z h24 t "com/example/rankfold/rankfold/summaries/Tournament" "order" "Ljava/util/function/IntToDoubleFunction;" .null := D24 (Or.inr (wd hw 57 rfl)) (ty := (.object "java/util/function/IntToDoubleFunction")) (by decide)
  have f28 : Fld Z h24 t "com/example/rankfold/rankfold/summaries/Tournament" "capacity" "I" (.int 0) := D24 (Or.inl (wd hw 59 rfl)) (ty := .int) (by decide)
  have f29 : Fld Z h24 t "com/example/rankfold/rankfold/summaries/Tournament" "members" "[J" .null := D24 (Or.inl (wd hw 62 rfl)) (ty := (.array .long)) (by decide)
  have f30 : Fld Z h24 t "com/example/rankfold/rankfold/summaries/Tournament" "blocks" "I" (.int 0) := D24 (Or.inl (wd hw 89 rfl)) (ty := .int) (by decide)
  have f31 : Fld Z h24 t "com/example/rankfold/rankfold/summaries/Tournament" "firsts" "[I" .null := D24 (Or.inl (wd hw 91 rfl)) (ty := (.array .int)) (by decide)
  have f32 : Fld Z h24 t "com/example/rankfold/rankfold/summaries/Tournament" "firstKeys" "[D" .null := D24 (Or.inl (wd hw 93 rfl)) (ty := (.array .double)) (by decide)
  have f33 : Fld Z h24 t "com/example/rankfold/rankfold/summaries/Tournament" "planted" "Z" (.int 0) := D24 (Or.inl (wd hw 103 rfl)) (ty := .boolean) (by decide)
  have f34 : Fld Z h24 t "com/example/rankfold/rankfold/summaries/Tournament" "size" "I" (.int 0) := D24 (Or.inl (wd hw 128 rfl)) (ty := .int) (by decide)
  have sz24 : n0 ≤ h24.size := Nat.le_trans sz18 E24.1
  have kp24 := kp18.ext E24
  have kz_t := Nat.le_trans kp18.1 (Nat.le_of_eq g24.symm)
  have f35 : OT9 Z h24 t := ⟨A24, f25, f26, f27, f28, f29, f34, f33, f30, f31, f32⟩
  refine o_dup X24 hx (hd.at 70 rfl) rfl ?_
  refine pC X24 hx 0 (hd.at 71 rfl) rfl ?_
  refine pi X24 hx (hd.at 72 rfl) rfl ?_
  refine pA X24 hx (hd.at 73 rfl) rfl rfl ?_
  refine pg6 (own_mkJ X24 hx hZH (y := yN1) (pc := 141) (index := 52) hnamed rfl (wd hw 43 rfl) (wd hw 46 rfl) (wd hw 131 rfl) e24 rfl (by rw [hml]; rfl) rfl rfl (hd.at 74 rfl) (Nat.le_of_ble_eq_true rfl) (by decide) (by decide)) fun T36 h36 X36 e36 E36 A36 => ?_
  obtain ⟨k1, g36⟩ : ∃ z, z = h24.size := ⟨_, rfl⟩
  rw [← g36] at A36 ⊢
  have ne_ct_k1 : ct ≠ k1 := Nat.ne_of_lt (Nat.lt_of_lt_of_le f15.2.2.2.2.2.2.2.2.2.2.2.1.lt (Nat.le_of_eq g36.symm))
  have ne_ed_k1 : ed ≠ k1 := Nat.ne_of_lt (Nat.lt_of_lt_of_le f15.1.lt (Nat.le_of_eq g36.symm))
  have ne_gd_k1 : gd ≠ k1 := Nat.ne_of_lt (Nat.lt_of_lt_of_le f15.2.2.2.2.2.2.2.2.2.2.2.2.lt (Nat.le_of_eq g36.symm))
  have ne_nx_k1 : nx ≠ k1 := Nat.ne_of_lt (Nat.lt_of_lt_of_le f19.lt (Nat.le_of_eq g36.symm))
  have ne_px_k1 : px ≠ k1 := Nat.ne_of_lt (Nat.lt_of_lt_of_le f8.lt (Nat.le_of_eq g36.symm))
  have ne_t_k1 : t ≠ k1 := Nat.ne_of_lt (Nat.lt_of_lt_of_le f35.1.lt (Nat.le_of_eq g36.symm))
  have ne_u_k1 : u ≠ k1 := Nat.ne_of_lt (Nat.lt_of_lt_of_le f15.2.2.2.2.2.2.2.2.2.2.1.lt (Nat.le_of_eq g36.symm))
  have g_k1 : n0 ≤ k1 := Nat.le_trans sz24 (Nat.le_of_eq g36.symm)
  replace f8 := f8.ext E36
  replace f19 := f19.ext E36
  replace f15 := f15.keep ((Keep.refl h24 []).ext E36) nin0 nin0 nin0 nin0
  replace f16 := f16.keep ((Keep.refl h24 []).ext E36) nin0
  replace f35 := f35.keep ((Keep.refl h24 []).ext E36) nin0
  have sz36 : n0 ≤ h36.size := Nat.le_trans sz24 E36.1
  have kp36 := kp24.ext E36
  have kz_k1 := Nat.le_trans kp24.1 (Nat.le_of_eq g36.symm)
  refine pA X36 hx (hd.at 75 rfl) rfl rfl ?_
  refine pg6 (own_mkT X36 hx hZH (y := yN1) (pc := 147) (index := 56) hnamed rfl (wd hw 47 rfl) (wd hw 46 rfl) (wd hw 131 rfl) e36 rfl (by rw [hml]; rfl) rfl rfl (hd.at 76 rfl) (Nat.le_of_ble_eq_true rfl) (by decide) (by decide)) fun T37 h37 X37 e37 E37 A37 => ?_
  obtain ⟨k2, g37⟩ : ∃ z, z = h36.size := ⟨_, rfl⟩
  rw [← g37] at A37 ⊢
  have ne_ct_k2 : ct ≠ k2 := Nat.ne_of_lt (Nat.lt_of_lt_of_le f15.2.2.2.2.2.2.2.2.2.2.2.1.lt (Nat.le_of_eq g37.symm))
  have ne_ed_k2 : ed ≠ k2 := Nat.ne_of_lt (Nat.lt_of_lt_of_le f15.1.lt (Nat.le_of_eq g37.symm))
  have ne_gd_k2 : gd ≠ k2 := Nat.ne_of_lt (Nat.lt_of_lt_of_le f15.2.2.2.2.2.2.2.2.2.2.2.2.lt (Nat.le_of_eq g37.symm))
  have ne_k1_k2 : k1 ≠ k2 := Nat.ne_of_lt (Nat.lt_of_lt_of_le A36.lt (Nat.le_of_eq g37.symm))
  have ne_nx_k2 : nx ≠ k2 := Nat.ne_of_lt (Nat.lt_of_lt_of_le f19.lt (Nat.le_of_eq g37.symm))
  have ne_px_k2 : px ≠ k2 := Nat.ne_of_lt (Nat.lt_of_lt_of_le f8.lt (Nat.le_of_eq g37.symm))
  have ne_t_k2 : t ≠ k2 := Nat.ne_of_lt (Nat.lt_of_lt_of_le f35.1.lt (Nat.le_of_eq g37.symm))
  have ne_u_k2 : u ≠ k2 := Nat.ne_of_lt (Nat.lt_of_lt_of_le f15.2.2.2.2.2.2.2.2.2.2.1.lt (Nat.le_of_eq g37.symm))
  have g_k2 : n0 ≤ k2 := Nat.le_trans sz36 (Nat.le_of_eq g37.symm)
  replace f8 := f8.ext E37
  replace f19 := f19.ext E37
  replace A36 := A36.ext E37
  replace f15 := f15.keep ((Keep.refl h36 []).ext E37) nin0 nin0 nin0 nin0
  replace f16 := f16.keep ((Keep.refl h36 []).ext E37) nin0
  replace f35 := f35.keep ((Keep.refl h36 []).ext E37) nin0
  have sz37 : n0 ≤ h37.size := Nat.le_trans sz36 E37.1
  have kp37 := kp36.ext E37
  have kz_k2 := Nat.le_trans kp36.1 (Nat.le_of_eq g37.symm)
  have hS_t := (OOrd.cons g_t (allS ne_t_k1 (allS ne_t_k2 all0)) (OOrd.cons g_k1 (allS ne_k1_k2 all0) (OOrd.cons g_k2 all0 OOrd.nil)))
  refine pgV (own_init X37 hx hZ (y := yN3) (rm := ⟨1, 1, 1, 12⟩) (W := 2) (a := t) (argsL := [(.int 0), (.int 4), (.ref k1), (.ref k2)]) (rest := [(.ref t), (.ref ed)]) rfl hown (wd hw 48 rfl) (wd hw 49 rfl) (wd hw 42 rfl) (wd hw 50 rfl) (rmTI l Z a0 hw t k1 k2 h37 n0 ed sz37 f35 hS_t A36 A37) e37 rfl (by rw [hml]; rfl) (lenOf own_pd14 rfl) rfl (by exact Nat.le_of_eq rfl) (hd.at 77 rfl) (by decide) (by decide) (by decide) (by decide)) fun T38 L38 X38 hQ38 => ?_
  obtain ⟨N38, K38, mm, ge_mm, BB38_0⟩ := hQ38
  have ne_ct_mm : ct ≠ mm := Nat.ne_of_lt (Nat.lt_of_lt_of_le f15.2.2.2.2.2.2.2.2.2.2.2.1.lt ge_mm)
  have ne_ed_mm : ed ≠ mm := Nat.ne_of_lt (Nat.lt_of_lt_of_le f15.1.lt ge_mm)
  have ne_gd_mm : gd ≠ mm := Nat.ne_of_lt (Nat.lt_of_lt_of_le f15.2.2.2.2.2.2.2.2.2.2.2.2.lt ge_mm)
  have ne_k1_mm : k1 ≠ mm := Nat.ne_of_lt (Nat.lt_of_lt_of_le A36.lt ge_mm)
  have ne_k2_mm : k2 ≠ mm := Nat.ne_of_lt (Nat.lt_of_lt_of_le A37.lt ge_mm)
  have ne_nx_mm : nx ≠ mm := Nat.ne_of_lt (Nat.lt_of_lt_of_le f19.lt ge_mm)
  have ne_px_mm : px ≠ mm := Nat.ne_of_lt (Nat.lt_of_lt_of_le f8.lt ge_mm)
  have ne_t_mm : t ≠ mm := Nat.ne_of_lt (Nat.lt_of_lt_of_le f35.1.lt ge_mm)
  have ne_u_mm : u ≠ mm := Nat.ne_of_lt (Nat.lt_of_lt_of_le f15.2.2.2.2.2.2.2.2.2.2.1.lt ge_mm)
  have g_mm : n0 ≤ mm := Nat.le_trans sz37 ge_mm
  have kz_mm := Nat.le_trans kp37.1 ge_mm
  have fr38 := Fr.app fr18 N38
  have kp38 := kp37.trans K38 (allS (Or.inr kz_t) all0)
  replace f8 := f8.keep K38 (ninS ne_px_t nin0)
  replace f19 := f19.keep K38 (ninS ne_nx_t nin0)
  have n39 := Ne.symm ne_t_k1
  replace A36 := A36.keep K38 (ninS n39 nin0)
  have n40 := Ne.symm ne_t_k2
  replace A37 := A37.keep K38 (ninS n40 nin0)
  replace f15 := f15.keep K38 (ninS ne_ed_t nin0) (ninS ne_u_t nin0) (ninS ne_ct_t nin0) (ninS ne_gd_t nin0)
  replace f16 := f16.keep K38 (ninS ne_ed_t nin0)
  have sz38 : n0 ≤ T38.heap.size := Nat.le_trans sz37 K38.1
  obtain ⟨u41, u42, u43, u44, u45, u46, u47, u48, u49, u50, u51, u52, u53⟩ := id f15
  obtain ⟨u54, u55, u56, u57, u58⟩ := id f16
  refine pg2 (putF X38 hx hZ hown (host := "") (Or.inl (wd hw 63 rfl)) Via.refl rfl u56 u41 (Or.inl (wd hw 64 rfl)) (wd hw 6 rfl) (ty := (.object "com/example/rankfold/rankfold/summaries/Tournament")) (by decide) rfl rfl rfl rfl (hd.at 78 rfl)) fun T59 h59 X59 e59 W59 => ?_
  have f60 := u56.same W59
  have n61 := Ne.symm n11
  replace f8 := f8.other W59 n61
  have n62 := Ne.symm n20
  replace f19 := f19.other W59 n62
  replace u41 := u41.wr W59
  replace u42 := u42.other W59 (Or.inr (sl (Or.inl (wd hw 30 rfl)) (Or.inl (wd hw 64 rfl))))
  replace u43 := u43.other W59 (Or.inr (sl (Or.inl (wd hw 32 rfl)) (Or.inl (wd hw 64 rfl))))
  replace u44 := u44.other W59 (Or.inr (sl (Or.inl (wd hw 34 rfl)) (Or.inl (wd hw 64 rfl))))
  replace u45 := u45.other W59 (Or.inr (sl (Or.inl (wd hw 37 rfl)) (Or.inl (wd hw 64 rfl))))
  replace u46 := u46.other W59 (Or.inr (sl (Or.inl (wd hw 39 rfl)) (Or.inl (wd hw 64 rfl))))
  replace u47 := u47.other W59 (Or.inr (sl (Or.inr (wd hw 20 rfl)) (Or.inl (wd hw 64 rfl))))
  replace u48 := u48.other W59 (Or.inr (sl (Or.inr (wd hw 22 rfl)) (Or.inl (wd hw 64 rfl))))
  replace u49 := u49.other W59 (Or.inr (sl (Or.inl (wd hw 24 rfl)) (Or.inl (wd hw 64 rfl))))
  replace u50 := u50.other W59 (Or.inr (sl (Or.inr (wd hw 18 rfl)) (Or.inl (wd hw 64 rfl))))
  have n63 := hS1.ne 0 1
  have n64 := Ne.symm n63
  replace u51 := u51.other W59 n64
  have n65 := hS1.ne 0 2
  have n66 := Ne.symm n65
  replace u52 := u52.other W59 n66
  have n67 := hS1.ne 0 3
  have n68 := Ne.symm n67
  replace u53 := u53.other W59 n68
  replace u54 := u54.other W59 (Or.inr (sl (Or.inl (wd hw 16 rfl)) (Or.inl (wd hw 64 rfl))))
  replace u55 := u55.other W59 (Or.inr (sl (Or.inl (wd hw 26 rfl)) (Or.inl (wd hw 64 rfl))))
  replace u57 := u57.other W59 (Or.inr (sl (Or.inl (wd hw 183 rfl)) (Or.inl (wd hw 64 rfl))))
  replace u58 := u58.other W59 (Or.inr (sl (Or.inl (wd hw 191 rfl)) (Or.inl (wd hw 64 rfl))))
  have n69 := Ne.symm ne_ed_t
  have n70 := Ne.symm ne_ed_mm
  have n71 := Ne.symm ne_ed_k1
  have n72 := Ne.symm ne_ed_k2
  replace BB38_0 := BB38_0.keep (Keep.of_wr W59) (ninS n69 nin0) (ninS n70 nin0) (ninS n71 nin0) (ninS n72 nin0)
  have sz59 : n0 ≤ h59.size := by rw [W59.size]; exact sz38
  have fr59 := Fr.snoc X59 fr38 (hS1.ge 0 rfl)
  have kp59 := kp38.wr W59 (Or.inl (List.mem_of_getElem? (i := 0) rfl))
  have f73 : ORe Z h59 ed u ct gd px nx fu fc fg (FP.l2d nn) := ⟨u41, u42, u43, u44, u45, u46, u47, u48, u49, u50, u51, u52, u53⟩
  have f74 : OEw Z h59 ed t (1 : Int32) .null := ⟨u54, u55, f60, u57, u58⟩
  refine pC X59 hx 0 (hd.at 79 rfl) rfl ?_
  refine ps X59 hx #[.val (.ref ed), .val (.ref u), .val (.ref ct), .val (.ref gd), .val (.int 1), .val (.int 4), .val (.long nn), .second, .val (.double 4613937818241073152), .second, .val (.double FP.dconst1), .second, .val (.int 4), .val (.int 0)] (hd.at 80 rfl) rfl ?_
  refine pi X59 hx (hd.at 81 rfl) rfl ?_
  refine pC X59 hx (-1) (hd.at 82 rfl) rfl ?_
  refine pcN X59 hx (hd.at 83 rfl) ((feq (by decide)).1) ?_
  refine pA X59 hx (hd.at 84 rfl) rfl rfl ?_
  refine pi X59 hx (hd.at 85 rfl) rfl ?_
  refine pA X59 hx (hd.at 86 rfl) rfl rfl ?_
  refine pF X59 hx hZ hown (wd hw 63 rfl) e59 f74.2.2.1 (hd.at 87 rfl) fun T75 X75 e75 => ?_
  refine pC X75 hx 1 (hd.at 88 rfl) rfl ?_
  obtain ⟨u76, u77, u78, u79, u80, u81, u82, u83, u84, u85, u86, u87, u88, u89⟩ := id BB38_0
  have f90 : OTM Z h59 t mm (0 : Int64) := ⟨u76, u81, u87⟩
  clear u77 u78 u79 u80 u82 u83 u84 u85 u86 u88 u89
  refine pgN (own_private X75 hx hZ (y := yN4) (rm := ⟨2, 0, 0, 26⟩) (W := 0) (a := ed) (argsL := [(.int 0), (.ref t), (.int 1)]) (rest := []) hown (wd hw 65 rfl) (wd hw 66 rfl) (wd hw 67 rfl) (wd hw 107 rfl) rfl (wd hw 7 rfl) (wd hw 68 rfl) (rmOz0 l Z a0 hw ed t (1 : Int32) h59 mm (0 : Int64) f90 (by decide)) e75 f73.1 rfl (by rw [hml]; rfl) (lenOf own_pd12 rfl) rfl (by exact Nat.le_of_eq rfl) (hd.at 89 rfl) (by decide) (by decide) (by decide) (by decide)) fun T91 X91 e91 => ?_
  refine pA X91 hx (hd.at 90 rfl) rfl rfl ?_
  refine pF X91 hx hZ hown (wd hw 38 rfl) e91 f73.2.2.2.2.2.1 (hd.at 91 rfl) fun T92 X92 e92 => ?_
  refine pi X92 hx (hd.at 92 rfl) rfl ?_
  refine rI X92 hx hZ e92 f19 0 (.int (-1)) rfl (hd.at 93 rfl) ?_
  refine ps X92 hx #[.val (.ref ed), .val (.ref u), .val (.ref ct), .val (.ref gd), .val (.int 1), .val (.int 4), .val (.long nn), .second, .val (.double 4613937818241073152), .second, .val (.double FP.dconst1), .second, .val (.int 4), .val (.int (-1))] (hd.at 94 rfl) rfl ?_
  refine pG X92 hx 161 (hd.at 95 rfl) ?_
  refine pi X92 hx (hd.at 81 rfl) rfl ?_
  refine pC X92 hx (-1) (hd.at 82 rfl) rfl ?_
  refine pcY X92 hx 190 (hd.at 83 rfl) ((teq rfl).1) ?_
  refine pA X92 hx (hd.at 96 rfl) rfl rfl ?_
  refine pF X92 hx hZ hown (wd hw 63 rfl) e92 f74.2.2.1 (hd.at 97 rfl) fun T93 X93 e93 => ?_
  have n95 := Ne.symm ne_k2_mm
  have n96 := Ne.symm ne_k1_mm
  have hS_94 := (OOrd.cons g_t (allS ne_t_mm (allS ne_t_k1 (allS ne_t_k2 all0))) (OOrd.cons g_mm (allS n96 (allS n95 all0)) (OOrd.cons g_k1 (allS ne_k1_k2 all0) (OOrd.cons g_k2 all0 OOrd.nil))))
  refine pgV (own_virtual X93 hx hZ (y := yN7) (z := yN7) (rm := ⟨9, 2, 4, 156⟩) (W := 0) (a := t) (argsL := []) (rest := []) hown (wd hw 79 rfl) (wd hw 80 rfl) (notFace_of_selects (args := #[]) (mvT hZ (wd hw 82 rfl))) (wd hw 82 rfl) (wd hw 81 rfl) (wd hw 42 rfl) (wd hw 83 rfl) (rmPl l Z a0 hw t h59 n0 mm k1 k2 ed (0 : Int32) (0 : Int64) (fun r => r = (-1 : Int32)) sz59 BB38_0 hS_94 (fun h1 fa fk K B' hS' => rmSc00 l Z a0 hw t h1 n0 mm fa fk k1 k2 ed (0 : Int32) 0 0 0 0 0 B' hS')) e93 BB38_0.1 rfl (by rw [hml]; rfl) (lenOf own_pd15 rfl) rfl (by exact Nat.le_of_eq rfl) (hd.at 98 rfl) (by decide) (by decide) (by decide) (by decide)) fun T97 L97 X97 hQ97 => ?_
  obtain ⟨N97, K97, fa, fk, rx, d0x, d1x, ge_fa, ge_fk, ne_fa_fk, hrx, BB97_0⟩ := hQ97
  have ne_ct_fa : ct ≠ fa := Nat.ne_of_lt (Nat.lt_of_lt_of_le f73.2.2.2.2.2.2.2.2.2.2.2.1.lt ge_fa)
  have ne_ed_fa : ed ≠ fa := Nat.ne_of_lt (Nat.lt_of_lt_of_le f73.1.lt ge_fa)
  have ne_gd_fa : gd ≠ fa := Nat.ne_of_lt (Nat.lt_of_lt_of_le f73.2.2.2.2.2.2.2.2.2.2.2.2.lt ge_fa)
  have ne_k1_fa : k1 ≠ fa := Nat.ne_of_lt (Nat.lt_of_lt_of_le BB38_0.2.2.2.2.2.2.2.2.2.2.2.2.1.lt ge_fa)
  have ne_k2_fa : k2 ≠ fa := Nat.ne_of_lt (Nat.lt_of_lt_of_le BB38_0.2.2.2.2.2.2.2.2.2.2.2.2.2.lt ge_fa)
  have ne_mm_fa : mm ≠ fa := Nat.ne_of_lt (Nat.lt_of_lt_of_le BB38_0.2.2.2.2.2.2.2.2.2.2.2.1.lt ge_fa)
  have ne_nx_fa : nx ≠ fa := Nat.ne_of_lt (Nat.lt_of_lt_of_le f19.lt ge_fa)
  have ne_px_fa : px ≠ fa := Nat.ne_of_lt (Nat.lt_of_lt_of_le f8.lt ge_fa)
  have ne_t_fa : t ≠ fa := Nat.ne_of_lt (Nat.lt_of_lt_of_le BB38_0.1.lt ge_fa)
  have ne_u_fa : u ≠ fa := Nat.ne_of_lt (Nat.lt_of_lt_of_le f73.2.2.2.2.2.2.2.2.2.2.1.lt ge_fa)
  have g_fa : n0 ≤ fa := Nat.le_trans sz59 ge_fa
  have kz_fa := Nat.le_trans kp59.1 ge_fa
  have ne_ct_fk : ct ≠ fk := Nat.ne_of_lt (Nat.lt_of_lt_of_le f73.2.2.2.2.2.2.2.2.2.2.2.1.lt ge_fk)
  have ne_ed_fk : ed ≠ fk := Nat.ne_of_lt (Nat.lt_of_lt_of_le f73.1.lt ge_fk)
  have ne_gd_fk : gd ≠ fk := Nat.ne_of_lt (Nat.lt_of_lt_of_le f73.2.2.2.2.2.2.2.2.2.2.2.2.lt ge_fk)
  have ne_k1_fk : k1 ≠ fk := Nat.ne_of_lt (Nat.lt_of_lt_of_le BB38_0.2.2.2.2.2.2.2.2.2.2.2.2.1.lt ge_fk)
  have ne_k2_fk : k2 ≠ fk := Nat.ne_of_lt (Nat.lt_of_lt_of_le BB38_0.2.2.2.2.2.2.2.2.2.2.2.2.2.lt ge_fk)
  have ne_mm_fk : mm ≠ fk := Nat.ne_of_lt (Nat.lt_of_lt_of_le BB38_0.2.2.2.2.2.2.2.2.2.2.2.1.lt ge_fk)
  have ne_nx_fk : nx ≠ fk := Nat.ne_of_lt (Nat.lt_of_lt_of_le f19.lt ge_fk)
  have ne_px_fk : px ≠ fk := Nat.ne_of_lt (Nat.lt_of_lt_of_le f8.lt ge_fk)
  have ne_t_fk : t ≠ fk := Nat.ne_of_lt (Nat.lt_of_lt_of_le BB38_0.1.lt ge_fk)
  have ne_u_fk : u ≠ fk := Nat.ne_of_lt (Nat.lt_of_lt_of_le f73.2.2.2.2.2.2.2.2.2.2.1.lt ge_fk)
  have g_fk : n0 ≤ fk := Nat.le_trans sz59 ge_fk
  have kz_fk := Nat.le_trans kp59.1 ge_fk
  have fr97 := Fr.app fr59 N97
  have kp97 := kp59.trans K97 (allS (Or.inr kz_t) all0)
  replace f8 := f8.keep K97 (ninS ne_px_t nin0)
  replace f19 := f19.keep K97 (ninS ne_nx_t nin0)
  replace f73 := f73.keep K97 (ninS ne_ed_t nin0) (ninS ne_u_t nin0) (ninS ne_ct_t nin0) (ninS ne_gd_t nin0)
  replace f74 := f74.keep K97 (ninS ne_ed_t nin0)
  have sz97 : n0 ≤ T97.heap.size := Nat.le_trans sz59 K97.1
  exact own_retV X97 hx hret hlk (hd.at 99 rfl) (by decide) (by decide) (by show _ ∧ _ ∧ Keep h0 T97.heap _ ∧ _; exact ⟨rfl, fr97, kp97, nx, kz_nx, f73.1, f73.2.1, f73.2.2.1, f73.2.2.2.1, f73.2.2.2.2.2.1, f73.2.2.2.2.2.2.2.2.2.2.1, f73.2.2.2.2.2.2.2.2.2.2.2.1, f73.2.2.2.2.2.2.2.2.2.2.2.2, f19⟩)
set_option maxRecDepth 65536 in
set_option maxHeartbeats 40000000 in
theorem rmIn2 (l : Launch) (Z : State) (a0 : Array Value) (hw : ∀ d ∈ tables_1, d.before a0 Z = true) (ed : Addr) (u : Addr) (ct : Addr) (gd : Addr) (nn : Int64) (h0 : Heap) (n0 : Nat) (fu fc : Nat → UInt64) (fg : Nat → Int32) (Z0 : n0 ≤ h0.size) (B : OE0 Z h0 ed) (A_u : OArr Z h0 u .double 4 (fun i => .double (fu i))) (A_c : OArr Z h0 ct .double 4 (fun i => .double (fc i))) (A_g : OArr Z h0 gd .boolean 4 (fun i => .int (fg i))) (hU : OUp fu) (hN : OCn fc) (hS : OOrd n0 [ed, u, ct, gd]) :
    OMet l Z yN1 prog_72_method_1_code 14 none (⟨12, 8, 25, 3100⟩ : Room) #[(.ref ed), (.ref u), (.ref ct), (.ref gd), (.int 2), (.int 4), (.long nn), (.double 4613937818241073152), (.double FP.dconst1)] h0 (fun v h L => v = none ∧ Fr n0 L ∧ Keep h0 h [ed] ∧ ∃ nx, h0.size ≤ nx ∧ OWr Z h ed u ct gd nx fu fc fg own_n2) := by
  refine own_enter own_pn1 ?_
  intro p e s m below meth c T0 X0 hC e0 hnamed
  have hC0 := hC
  obtain ⟨hx, hZH, hby, hml, hown, hret, hlk, hnm⟩ := hC
  have hZ := hZH.wide
  have hown : s.vm.findClass "com/example/rankfold/rankfold/summaries/BucketEditor" = some m.cls := hown
  refine own_at (own_ef1_RRRRIIJDD m ed u ct gd (2 : Int32) (4 : Int32) nn (4613937818241073152 : UInt64) FP.dconst1) ?_
  have hd := D1.to hby
  have hD := Jvm.Free.Fl.l2d_mag nn
  refine lpInP hw hC0 X0 e0 n0 ed u ct gd (2 : Int32) nn fu fc fg Z0 B A_u A_c A_g hS fun T1 L1 h1 px nx X1 e1 fr1 kp1 sz1 kz_px kz_nx hS1 B1 f1 f2 B2 => ?_
  refine pi X1 hx (hd.at 46 rfl) rfl ?_
  refine pi X1 hx (hd.at 47 rfl) rfl ?_
  refine pcN X1 hx (hd.at 48 rfl) ((tlt (by decide)).2.1) ?_
  refine pA X1 hx (hd.at 49 rfl) rfl rfl ?_
  refine pF X1 hx hZ hown (wd hw 36 rfl) e1 B1.2.2.2.2.1 (hd.at 50 rfl) fun T6 X6 e6 => ?_
  refine pi X6 hx (hd.at 51 rfl) rfl ?_
  refine pi X6 hx (hd.at 52 rfl) rfl ?_
  refine pC X6 hx 1 (hd.at 53 rfl) rfl ?_
  refine o_isub X6 hx (hd.at 54 rfl) ?_
  rw [show (((0 : Int32) - (1 : Int32))) = (-1 : Int32) from by decide]
  refine wI X6 hx hZ e6 f1 0 (hd.at 55 rfl) fun T7 h7 X7 e7 W7 V7 => ?_
  have f8 : OArr Z h7 px .int 4 (fun i => .int ((own_q4 (-1 : Int32) (0 : Int32) (0 : Int32) (0 : Int32)) i)) := V7.congr (own_lt4 rfl rfl rfl rfl)
  have n9 := hS1.ne 4 5
  have n10 := Ne.symm n9
  replace f2 := f2.other W7 n10
  have n11 := hS1.ne 0 4
  have n12 := hS1.ne 1 4
  have n13 := hS1.ne 2 4
  have n14 := hS1.ne 3 4
  have f15 := B1.keep (Keep.of_wr W7) (ninS n11 nin0) (ninS n12 nin0) (ninS n13 nin0) (ninS n14 nin0)
  have f16 := B2.keep (Keep.of_wr W7) (ninS n11 nin0)
  have sz7 : n0 ≤ h7.size := by rw [W7.size]; exact sz1
  have fr7 := Fr.snoc X7 fr1 (hS1.ge 4 rfl)
  have kp7 := kp1.wr W7 (Or.inr kz_px)
  refine pA X7 hx (hd.at 56 rfl) rfl rfl ?_
  refine pF X7 hx hZ hown (wd hw 38 rfl) e7 f15.2.2.2.2.2.1 (hd.at 57 rfl) fun T17 X17 e17 => ?_
  refine pi X17 hx (hd.at 58 rfl) rfl ?_
  refine pi X17 hx (hd.at 59 rfl) rfl ?_
  refine pC X17 hx 1 (hd.at 60 rfl) rfl ?_
  refine o_iadd X17 hx (hd.at 61 rfl) ?_
  refine pi X17 hx (hd.at 62 rfl) rfl ?_
  refine pcN X17 hx (hd.at 63 rfl) ((tlt (by decide)).2.1) ?_
  refine pi X17 hx (hd.at 100 rfl) rfl ?_
  refine pC X17 hx 1 (hd.at 101 rfl) rfl ?_
  refine o_iadd X17 hx (hd.at 102 rfl) ?_
  refine pG X17 hx 125 (hd.at 103 rfl) ?_
  rw [show (((0 : Int32) + (1 : Int32))) = (1 : Int32) from by decide]
  refine wI X17 hx hZ e17 f2 0 (hd.at 65 rfl) fun T18 h18 X18 e18 W18 V18 => ?_
  have f19 : OArr Z h18 nx .int 4 (fun i => .int ((own_q4 (1 : Int32) (0 : Int32) (0 : Int32) (0 : Int32)) i)) := V18.congr (own_lt4 rfl rfl rfl rfl)
  replace f8 := f8.other W18 n9
  have n20 := hS1.ne 0 5
  have n21 := hS1.ne 1 5
  have n22 := hS1.ne 2 5
  have n23 := hS1.ne 3 5
  replace f15 := f15.keep (Keep.of_wr W18) (ninS n20 nin0) (ninS n21 nin0) (ninS n22 nin0) (ninS n23 nin0)
  replace f16 := f16.keep (Keep.of_wr W18) (ninS n20 nin0)
  have sz18 : n0 ≤ h18.size := by rw [W18.size]; exact sz7
  have fr18 := Fr.snoc X18 fr7 (hS1.ge 5 rfl)
  have kp18 := kp7.wr W18 (Or.inr kz_nx)
  refine pN X18 hx (1 : Int32) #[.val (.ref ed), .val (.ref u), .val (.ref ct), .val (.ref gd), .val (.int 2), .val (.int 4), .val (.long nn), .second, .val (.double 4613937818241073152), .second, .val (.double FP.dconst1), .second, .val (.int 4), .val (.int 1)] (hd.at 66 rfl) rfl (by decide) rfl ?_
  refine pG X18 hx 84 (hd.at 67 rfl) ?_
  refine pi X18 hx (hd.at 46 rfl) rfl ?_
  refine pi X18 hx (hd.at 47 rfl) rfl ?_
  refine pcN X18 hx (hd.at 48 rfl) ((tlt (by decide)).2.1) ?_
  refine pA X18 hx (hd.at 49 rfl) rfl rfl ?_
  refine pF X18 hx hZ hown (wd hw 36 rfl) e18 f15.2.2.2.2.1 (hd.at 50 rfl) fun T24 X24 e24 => ?_
  refine pi X24 hx (hd.at 51 rfl) rfl ?_
  refine pi X24 hx (hd.at 52 rfl) rfl ?_
  refine pC X24 hx 1 (hd.at 53 rfl) rfl ?_
  refine o_isub X24 hx (hd.at 54 rfl) ?_
  rw [show (((1 : Int32) - (1 : Int32))) = (0 : Int32) from by decide]
  refine wI X24 hx hZ e24 f8 1 (hd.at 55 rfl) fun T25 h25 X25 e25 W25 V25 => ?_
  have f26 : OArr Z h25 px .int 4 (fun i => .int ((own_q4 (-1 : Int32) (0 : Int32) (0 : Int32) (0 : Int32)) i)) := V25.congr (own_lt4 rfl rfl rfl rfl)
  replace f19 := f19.other W25 n10
  replace f15 := f15.keep (Keep.of_wr W25) (ninS n11 nin0) (ninS n12 nin0) (ninS n13 nin0) (ninS n14 nin0)
  replace f16 := f16.keep (Keep.of_wr W25) (ninS n11 nin0)
  have sz25 : n0 ≤ h25.size := by rw [W25.size]; exact sz18
  have fr25 := Fr.snoc X25 fr18 (hS1.ge 4 rfl)
  have kp25 := kp18.wr W25 (Or.inr kz_px)
  refine pA X25 hx (hd.at 56 rfl) rfl rfl ?_
  refine pF X25 hx hZ hown (wd hw 38 rfl) e25 f15.2.2.2.2.2.1 (hd.at 57 rfl) fun T27 X27 e27 => ?_
  refine pi X27 hx (hd.at 58 rfl) rfl ?_
  refine pi X27 hx (hd.at 59 rfl) rfl ?_
  refine pC X27 hx 1 (hd.at 60 rfl) rfl ?_
  refine o_iadd X27 hx (hd.at 61 rfl) ?_
  refine pi X27 hx (hd.at 62 rfl) rfl ?_
  refine pcY X27 hx 124 (hd.at 63 rfl) ((flt (by decide)).2.1) ?_
  refine pC X27 hx (-1) (hd.at 64 rfl) rfl ?_
  refine wI X27 hx hZ e27 f19 1 (hd.at 65 rfl) fun T28 h28 X28 e28 W28 V28 => ?_
  have f29 : OArr Z h28 nx .int 4 (fun i => .int ((own_q4 (1 : Int32) (-1 : Int32) (0 : Int32) (0 : Int32)) i)) := V28.congr (own_lt4 rfl rfl rfl rfl)
  replace f26 := f26.other W28 n9
  replace f15 := f15.keep (Keep.of_wr W28) (ninS n20 nin0) (ninS n21 nin0) (ninS n22 nin0) (ninS n23 nin0)
  replace f16 := f16.keep (Keep.of_wr W28) (ninS n20 nin0)
  have sz28 : n0 ≤ h28.size := by rw [W28.size]; exact sz25
  have fr28 := Fr.snoc X28 fr25 (hS1.ge 5 rfl)
  have kp28 := kp25.wr W28 (Or.inr kz_nx)
  refine pN X28 hx (2 : Int32) #[.val (.ref ed), .val (.ref u), .val (.ref ct), .val (.ref gd), .val (.int 2), .val (.int 4), .val (.long nn), .second, .val (.double 4613937818241073152), .second, .val (.double FP.dconst1), .second, .val (.int 4), .val (.int 2)] (hd.at 66 rfl) rfl (by decide) rfl ?_
  refine pG X28 hx 84 (hd.at 67 rfl) ?_
  refine pi X28 hx (hd.at 46 rfl) rfl ?_
  refine pi X28 hx (hd.at 47 rfl) rfl ?_
  refine pcY X28 hx 132 (hd.at 48 rfl) ((flt (by decide)).2.1) ?_
  refine pA X28 hx (hd.at 68 rfl) rfl rfl ?_
  refine pg5 (newO X28 hx hZ hown (wd hw 40 rfl) (wd hw 41 rfl) (wd hw 42 rfl) e28 rfl (hd.at 69 rfl) (by decide) (by decide)) fun T30 h30 X30 e30 E30 A30 D30 _ => ?_
  obtain ⟨t, g30⟩ : ∃ z, z = h28.size := ⟨_, rfl⟩
  rw [← g30] at A30 D30 ⊢
  have ne_ct_t : ct ≠ t := Nat.ne_of_lt (Nat.lt_of_lt_of_le f15.2.2.2.2.2.2.2.2.2.2.2.1.lt (Nat.le_of_eq g30.symm))
  have ne_ed_t : ed ≠ t := Nat.ne_of_lt (Nat.lt_of_lt_of_le f15.1.lt (Nat.le_of_eq g30.symm))
  have ne_gd_t : gd ≠ t := Nat.ne_of_lt (Nat.lt_of_lt_of_le f15.2.2.2.2.2.2.2.2.2.2.2.2.lt (Nat.le_of_eq g30.symm))
  have ne_nx_t : nx ≠ t := Nat.ne_of_lt (Nat.lt_of_lt_of_le f29.lt (Nat.le_of_eq g30.symm))
  have ne_px_t : px ≠ t := Nat.ne_of_lt (Nat.lt_of_lt_of_le f26.lt (Nat.le_of_eq g30.symm))
  have ne_u_t : u ≠ t := Nat.ne_of_lt (Nat.lt_of_lt_of_le f15.2.2.2.2.2.2.2.2.2.2.1.lt (Nat.le_of_eq g30.symm))
  have g_t : n0 ≤ t := Nat.le_trans sz28 (Nat.le_of_eq g30.symm)
  replace f26 := f26.ext E30
  replace f29 := f29.ext E30
  replace f15 := f15.keep ((Keep.refl h28 []).ext E30) nin0 nin0 nin0 nin0
  replace f16 := f16.keep ((Keep.refl h28 []).ext E30) nin0
  have f31 : Fld Z h30 t "com/example/rankfold/rankfold/summaries/Tournament" "largestFirst" "Z" (.int 0) := D30 (Or.inr (wd hw 53 rfl)) (ty := .boolean) (by decide)
  have f32 : Fld Z h30 t "com/example/rankfold/rankfold/summaries/Tournament" "keyOf" "Ljava/util/function/IntToDoubleFunction;" .null := D30 (Or.inr (wd hw 55 rfl)) (ty := (.object "java/util/function/IntToDoubleFunction")) (by decide)
  have f33 : Fld Z h30 t "com/example/rankfold/rankfold/summaries/Tournament" "order" "Ljava/util/function/IntToDoubleFunction;" .null := D30 (Or.inr (wd hw 57 rfl)) (ty := (.object "java/util/function/IntToDoubleFunction")) (by decide)
  have f34 : Fld Z h30 t "com/example/rankfold/rankfold/summaries/Tournament" "capacity" "I" (.int 0) := D30 (Or.inl (wd hw 59 rfl)) (ty := .int) (by decide)
  have f35 : Fld Z h30 t "com/example/rankfold/rankfold/summaries/Tournament" "members" "[J" .null := D30 (Or.inl (wd hw 62 rfl)) (ty := (.array .long)) (by decide)
  have f36 : Fld Z h30 t "com/example/rankfold/rankfold/summaries/Tournament" "blocks" "I" (.int 0) := D30 (Or.inl (wd hw 89 rfl)) (ty := .int) (by decide)
  have f37 : Fld Z h30 t "com/example/rankfold/rankfold/summaries/Tournament" "firsts" "[I" .null := D30 (Or.inl (wd hw 91 rfl)) (ty := (.array .int)) (by decide)
  have f38 : Fld Z h30 t "com/example/rankfold/rankfold/summaries/Tournament" "firstKeys" "[D" .null := D30 (Or.inl (wd hw 93 rfl)) (ty := (.array .double)) (by decide)
  have f39 : Fld Z h30 t "com/example/rankfold/rankfold/summaries/Tournament" "planted" "Z" (.int 0) := D30 (Or.inl (wd hw 103 rfl)) (ty := .boolean) (by decide)
  have f40 : Fld Z h30 t "com/example/rankfold/rankfold/summaries/Tournament" "size" "I" (.int 0) := D30 (Or.inl (wd hw 128 rfl)) (ty := .int) (by decide)
  have sz30 : n0 ≤ h30.size := Nat.le_trans sz28 E30.1
  have kp30 := kp28.ext E30
  have kz_t := Nat.le_trans kp28.1 (Nat.le_of_eq g30.symm)
  have f41 : OT9 Z h30 t := ⟨A30, f31, f32, f33, f34, f35, f40, f39, f36, f37, f38⟩
  refine o_dup X30 hx (hd.at 70 rfl) rfl ?_
  refine pC X30 hx 0 (hd.at 71 rfl) rfl ?_
  refine pi X30 hx (hd.at 72 rfl) rfl ?_
  refine pA X30 hx (hd.at 73 rfl) rfl rfl ?_
  refine pg6 (own_mkJ X30 hx hZH (y := yN1) (pc := 141) (index := 52) hnamed rfl (wd hw 43 rfl) (wd hw 46 rfl) (wd hw 131 rfl) e30 rfl (by rw [hml]; rfl) rfl rfl (hd.at 74 rfl) (Nat.le_of_ble_eq_true rfl) (by decide) (by decide)) fun T42 h42 X42 e42 E42 A42 => ?_
  obtain ⟨k1, g42⟩ : ∃ z, z = h30.size := ⟨_, rfl⟩
  rw [← g42] at A42 ⊢
  have ne_ct_k1 : ct ≠ k1 := Nat.ne_of_lt (Nat.lt_of_lt_of_le f15.2.2.2.2.2.2.2.2.2.2.2.1.lt (Nat.le_of_eq g42.symm))
  have ne_ed_k1 : ed ≠ k1 := Nat.ne_of_lt (Nat.lt_of_lt_of_le f15.1.lt (Nat.le_of_eq g42.symm))
  have ne_gd_k1 : gd ≠ k1 := Nat.ne_of_lt (Nat.lt_of_lt_of_le f15.2.2.2.2.2.2.2.2.2.2.2.2.lt (Nat.le_of_eq g42.symm))
  have ne_nx_k1 : nx ≠ k1 := Nat.ne_of_lt (Nat.lt_of_lt_of_le f29.lt (Nat.le_of_eq g42.symm))
  have ne_px_k1 : px ≠ k1 := Nat.ne_of_lt (Nat.lt_of_lt_of_le f26.lt (Nat.le_of_eq g42.symm))
  have ne_t_k1 : t ≠ k1 := Nat.ne_of_lt (Nat.lt_of_lt_of_le f41.1.lt (Nat.le_of_eq g42.symm))
  have ne_u_k1 : u ≠ k1 := Nat.ne_of_lt (Nat.lt_of_lt_of_le f15.2.2.2.2.2.2.2.2.2.2.1.lt (Nat.le_of_eq g42.symm))
  have g_k1 : n0 ≤ k1 := Nat.le_trans sz30 (Nat.le_of_eq g42.symm)
  replace f26 := f26.ext E42
  replace f29 := f29.ext E42
  replace f15 := f15.keep ((Keep.refl h30 []).ext E42) nin0 nin0 nin0 nin0
  replace f16 := f16.keep ((Keep.refl h30 []).ext E42) nin0
  replace f41 := f41.keep ((Keep.refl h30 []).ext E42) nin0
  have sz42 : n0 ≤ h42.size := Nat.le_trans sz30 E42.1
  have kp42 := kp30.ext E42
  have kz_k1 := Nat.le_trans kp30.1 (Nat.le_of_eq g42.symm)
  refine pA X42 hx (hd.at 75 rfl) rfl rfl ?_
  refine pg6 (own_mkT X42 hx hZH (y := yN1) (pc := 147) (index := 56) hnamed rfl (wd hw 47 rfl) (wd hw 46 rfl) (wd hw 131 rfl) e42 rfl (by rw [hml]; rfl) rfl rfl (hd.at 76 rfl) (Nat.le_of_ble_eq_true rfl) (by decide) (by decide)) fun T43 h43 X43 e43 E43 A43 => ?_
  obtain ⟨k2, g43⟩ : ∃ z, z = h42.size := ⟨_, rfl⟩
  rw [← g43] at A43 ⊢
  have ne_ct_k2 : ct ≠ k2 := Nat.ne_of_lt (Nat.lt_of_lt_of_le f15.2.2.2.2.2.2.2.2.2.2.2.1.lt (Nat.le_of_eq g43.symm))
  have ne_ed_k2 : ed ≠ k2 := Nat.ne_of_lt (Nat.lt_of_lt_of_le f15.1.lt (Nat.le_of_eq g43.symm))
  have ne_gd_k2 : gd ≠ k2 := Nat.ne_of_lt (Nat.lt_of_lt_of_le f15.2.2.2.2.2.2.2.2.2.2.2.2.lt (Nat.le_of_eq g43.symm))
  have ne_k1_k2 : k1 ≠ k2 := Nat.ne_of_lt (Nat.lt_of_lt_of_le A42.lt (Nat.le_of_eq g43.symm))
  have ne_nx_k2 : nx ≠ k2 := Nat.ne_of_lt (Nat.lt_of_lt_of_le f29.lt (Nat.le_of_eq g43.symm))
  have ne_px_k2 : px ≠ k2 := Nat.ne_of_lt (Nat.lt_of_lt_of_le f26.lt (Nat.le_of_eq g43.symm))
  have ne_t_k2 : t ≠ k2 := Nat.ne_of_lt (Nat.lt_of_lt_of_le f41.1.lt (Nat.le_of_eq g43.symm))
  have ne_u_k2 : u ≠ k2 := Nat.ne_of_lt (Nat.lt_of_lt_of_le f15.2.2.2.2.2.2.2.2.2.2.1.lt (Nat.le_of_eq g43.symm))
  have g_k2 : n0 ≤ k2 := Nat.le_trans sz42 (Nat.le_of_eq g43.symm)
  replace f26 := f26.ext E43
  replace f29 := f29.ext E43
  replace A42 := A42.ext E43
  replace f15 := f15.keep ((Keep.refl h42 []).ext E43) nin0 nin0 nin0 nin0
  replace f16 := f16.keep ((Keep.refl h42 []).ext E43) nin0
  replace f41 := f41.keep ((Keep.refl h42 []).ext E43) nin0
  have sz43 : n0 ≤ h43.size := Nat.le_trans sz42 E43.1
  have kp43 := kp42.ext E43
  have kz_k2 := Nat.le_trans kp42.1 (Nat.le_of_eq g43.symm)
  have hS_t := (OOrd.cons g_t (allS ne_t_k1 (allS ne_t_k2 all0)) (OOrd.cons g_k1 (allS ne_k1_k2 all0) (OOrd.cons g_k2 all0 OOrd.nil)))
  refine pgV (own_init X43 hx hZ (y := yN3) (rm := ⟨1, 1, 1, 12⟩) (W := 2) (a := t) (argsL := [(.int 0), (.int 4), (.ref k1), (.ref k2)]) (rest := [(.ref t), (.ref ed)]) rfl hown (wd hw 48 rfl) (wd hw 49 rfl) (wd hw 42 rfl) (wd hw 50 rfl) (rmTI l Z a0 hw t k1 k2 h43 n0 ed sz43 f41 hS_t A42 A43) e43 rfl (by rw [hml]; rfl) (lenOf own_pd14 rfl) rfl (by exact Nat.le_of_eq rfl) (hd.at 77 rfl) (by decide) (by decide) (by decide) (by decide)) fun T44 L44 X44 hQ44 => ?_
  obtain ⟨N44, K44, mm, ge_mm, BB44_0⟩ := hQ44
  have ne_ct_mm : ct ≠ mm := Nat.ne_of_lt (Nat.lt_of_lt_of_le f15.2.2.2.2.2.2.2.2.2.2.2.1.lt ge_mm)
  have ne_ed_mm : ed ≠ mm := Nat.ne_of_lt (Nat.lt_of_lt_of_le f15.1.lt ge_mm)
  have ne_gd_mm : gd ≠ mm := Nat.ne_of_lt (Nat.lt_of_lt_of_le f15.2.2.2.2.2.2.2.2.2.2.2.2.lt ge_mm)
  have ne_k1_mm : k1 ≠ mm := Nat.ne_of_lt (Nat.lt_of_lt_of_le A42.lt ge_mm)
  have ne_k2_mm : k2 ≠ mm := Nat.ne_of_lt (Nat.lt_of_lt_of_le A43.lt ge_mm)
  have ne_nx_mm : nx ≠ mm := Nat.ne_of_lt (Nat.lt_of_lt_of_le f29.lt ge_mm)
  have ne_px_mm : px ≠ mm := Nat.ne_of_lt (Nat.lt_of_lt_of_le f26.lt ge_mm)
  have ne_t_mm : t ≠ mm := Nat.ne_of_lt (Nat.lt_of_lt_of_le f41.1.lt ge_mm)
  have ne_u_mm : u ≠ mm := Nat.ne_of_lt (Nat.lt_of_lt_of_le f15.2.2.2.2.2.2.2.2.2.2.1.lt ge_mm)
  have g_mm : n0 ≤ mm := Nat.le_trans sz43 ge_mm
  have kz_mm := Nat.le_trans kp43.1 ge_mm
  have fr44 := Fr.app fr28 N44
  have kp44 := kp43.trans K44 (allS (Or.inr kz_t) all0)
  replace f26 := f26.keep K44 (ninS ne_px_t nin0)
  replace f29 := f29.keep K44 (ninS ne_nx_t nin0)
  have n45 := Ne.symm ne_t_k1
  replace A42 := A42.keep K44 (ninS n45 nin0)
  have n46 := Ne.symm ne_t_k2
  replace A43 := A43.keep K44 (ninS n46 nin0)
  replace f15 := f15.keep K44 (ninS ne_ed_t nin0) (ninS ne_u_t nin0) (ninS ne_ct_t nin0) (ninS ne_gd_t nin0)
  replace f16 := f16.keep K44 (ninS ne_ed_t nin0)
  have sz44 : n0 ≤ T44.heap.size := Nat.le_trans sz43 K44.1
  obtain ⟨u47, u48, u49, u50, u51, u52, u53, u54, u55, u56, u57, u58, u59⟩ := id f15
  obtain ⟨u60, u61, u62, u63, u64⟩ := id f16
  refine pg2 (putF X44 hx hZ hown (host := "") (Or.inl (wd hw 63 rfl)) Via.refl rfl u62 u47 (Or.inl (wd hw 64 rfl)) (wd hw 6 rfl) (ty := (.object "com/example/rankfold/rankfold/summaries/Tournament")) (by decide) rfl rfl rfl rfl (hd.at 78 rfl)) fun T65 h65 X65 e65 W65 => ?_
  have f66 := u62.same W65
  have n67 := Ne.symm n11
  replace f26 := f26.other W65 n67
  have n68 := Ne.symm n20
  replace f29 := f29.other W65 n68
  replace u47 := u47.wr W65
  replace u48 := u48.other W65 (Or.inr (sl (Or.inl (wd hw 30 rfl)) (Or.inl (wd hw 64 rfl))))
  replace u49 := u49.other W65 (Or.inr (sl (Or.inl (wd hw 32 rfl)) (Or.inl (wd hw 64 rfl))))
  replace u50 := u50.other W65 (Or.inr (sl (Or.inl (wd hw 34 rfl)) (Or.inl (wd hw 64 rfl))))
  replace u51 := u51.other W65 (Or.inr (sl (Or.inl (wd hw 37 rfl)) (Or.inl (wd hw 64 rfl))))
  replace u52 := u52.other W65 (Or.inr (sl (Or.inl (wd hw 39 rfl)) (Or.inl (wd hw 64 rfl))))
  replace u53 := u53.other W65 (Or.inr (sl (Or.inr (wd hw 20 rfl)) (Or.inl (wd hw 64 rfl))))
  replace u54 := u54.other W65 (Or.inr (sl (Or.inr (wd hw 22 rfl)) (Or.inl (wd hw 64 rfl))))
  replace u55 := u55.other W65 (Or.inr (sl (Or.inl (wd hw 24 rfl)) (Or.inl (wd hw 64 rfl))))
  replace u56 := u56.other W65 (Or.inr (sl (Or.inr (wd hw 18 rfl)) (Or.inl (wd hw 64 rfl))))
  have n69 := hS1.ne 0 1
  have n70 := Ne.symm n69
  replace u57 := u57.other W65 n70
  have n71 := hS1.ne 0 2
  have n72 := Ne.symm n71
  replace u58 := u58.other W65 n72
  have n73 := hS1.ne 0 3
  have n74 := Ne.symm n73
  replace u59 := u59.other W65 n74
  replace u60 := u60.other W65 (Or.inr (sl (Or.inl (wd hw 16 rfl)) (Or.inl (wd hw 64 rfl))))
  replace u61 := u61.other W65 (Or.inr (sl (Or.inl (wd hw 26 rfl)) (Or.inl (wd hw 64 rfl))))
  replace u63 := u63.other W65 (Or.inr (sl (Or.inl (wd hw 183 rfl)) (Or.inl (wd hw 64 rfl))))
  replace u64 := u64.other W65 (Or.inr (sl (Or.inl (wd hw 191 rfl)) (Or.inl (wd hw 64 rfl))))
  have n75 := Ne.symm ne_ed_t
  have n76 := Ne.symm ne_ed_mm
  have n77 := Ne.symm ne_ed_k1
  have n78 := Ne.symm ne_ed_k2
  replace BB44_0 := BB44_0.keep (Keep.of_wr W65) (ninS n75 nin0) (ninS n76 nin0) (ninS n77 nin0) (ninS n78 nin0)
  have sz65 : n0 ≤ h65.size := by rw [W65.size]; exact sz44
  have fr65 := Fr.snoc X65 fr44 (hS1.ge 0 rfl)
  have kp65 := kp44.wr W65 (Or.inl (List.mem_of_getElem? (i := 0) rfl))
  have f79 : ORe Z h65 ed u ct gd px nx fu fc fg (FP.l2d nn) := ⟨u47, u48, u49, u50, u51, u52, u53, u54, u55, u56, u57, u58, u59⟩
  have f80 : OEw Z h65 ed t (2 : Int32) .null := ⟨u60, u61, f66, u63, u64⟩
  refine pC X65 hx 0 (hd.at 79 rfl) rfl ?_
  refine ps X65 hx #[.val (.ref ed), .val (.ref u), .val (.ref ct), .val (.ref gd), .val (.int 2), .val (.int 4), .val (.long nn), .second, .val (.double 4613937818241073152), .second, .val (.double FP.dconst1), .second, .val (.int 4), .val (.int 0)] (hd.at 80 rfl) rfl ?_
  refine pi X65 hx (hd.at 81 rfl) rfl ?_
  refine pC X65 hx (-1) (hd.at 82 rfl) rfl ?_
  refine pcN X65 hx (hd.at 83 rfl) ((feq (by decide)).1) ?_
  refine pA X65 hx (hd.at 84 rfl) rfl rfl ?_
  refine pi X65 hx (hd.at 85 rfl) rfl ?_
  refine pA X65 hx (hd.at 86 rfl) rfl rfl ?_
  refine pF X65 hx hZ hown (wd hw 63 rfl) e65 f80.2.2.1 (hd.at 87 rfl) fun T81 X81 e81 => ?_
  refine pC X81 hx 1 (hd.at 88 rfl) rfl ?_
  obtain ⟨u82, u83, u84, u85, u86, u87, u88, u89, u90, u91, u92, u93, u94, u95⟩ := id BB44_0
  have f96 : OTM Z h65 t mm (0 : Int64) := ⟨u82, u87, u93⟩
  clear u83 u84 u85 u86 u88 u89 u90 u91 u92 u94 u95
  refine pgN (own_private X81 hx hZ (y := yN4) (rm := ⟨2, 0, 0, 26⟩) (W := 0) (a := ed) (argsL := [(.int 0), (.ref t), (.int 1)]) (rest := []) hown (wd hw 65 rfl) (wd hw 66 rfl) (wd hw 67 rfl) (wd hw 107 rfl) rfl (wd hw 7 rfl) (wd hw 68 rfl) (rmOz0 l Z a0 hw ed t (1 : Int32) h65 mm (0 : Int64) f96 (by decide)) e81 f79.1 rfl (by rw [hml]; rfl) (lenOf own_pd12 rfl) rfl (by exact Nat.le_of_eq rfl) (hd.at 89 rfl) (by decide) (by decide) (by decide) (by decide)) fun T97 X97 e97 => ?_
  refine pA X97 hx (hd.at 90 rfl) rfl rfl ?_
  refine pF X97 hx hZ hown (wd hw 38 rfl) e97 f79.2.2.2.2.2.1 (hd.at 91 rfl) fun T98 X98 e98 => ?_
  refine pi X98 hx (hd.at 92 rfl) rfl ?_
  refine rI X98 hx hZ e98 f29 0 (.int 1) rfl (hd.at 93 rfl) ?_
  refine ps X98 hx #[.val (.ref ed), .val (.ref u), .val (.ref ct), .val (.ref gd), .val (.int 2), .val (.int 4), .val (.long nn), .second, .val (.double 4613937818241073152), .second, .val (.double FP.dconst1), .second, .val (.int 4), .val (.int 1)] (hd.at 94 rfl) rfl ?_
  refine pG X98 hx 161 (hd.at 95 rfl) ?_
  refine pi X98 hx (hd.at 81 rfl) rfl ?_
  refine pC X98 hx (-1) (hd.at 82 rfl) rfl ?_
  refine pcN X98 hx (hd.at 83 rfl) ((feq (by decide)).1) ?_
  refine pA X98 hx (hd.at 84 rfl) rfl rfl ?_
  refine pi X98 hx (hd.at 85 rfl) rfl ?_
  refine pA X98 hx (hd.at 86 rfl) rfl rfl ?_
  refine pF X98 hx hZ hown (wd hw 63 rfl) e98 f80.2.2.1 (hd.at 87 rfl) fun T99 X99 e99 => ?_
  refine pC X99 hx 1 (hd.at 88 rfl) rfl ?_
  obtain ⟨u100, u101, u102, u103, u104, u105, u106, u107, u108, u109, u110, u111, u112, u113⟩ := id BB44_0
  have f114 : OTM Z h65 t mm (0 : Int64) := ⟨u100, u105, u111⟩
  clear u101 u102 u103 u104 u106 u107 u108 u109 u110 u112 u113
  refine pgN (own_private X99 hx hZ (y := yN4) (rm := ⟨2, 0, 0, 26⟩) (W := 0) (a := ed) (argsL := [(.int 1), (.ref t), (.int 1)]) (rest := []) hown (wd hw 65 rfl) (wd hw 66 rfl) (wd hw 67 rfl) (wd hw 107 rfl) rfl (wd hw 7 rfl) (wd hw 68 rfl) (rmOz1 l Z a0 hw ed t (1 : Int32) h65 mm (0 : Int64) nx own_n2 f114 (by decide) rfl f79.2.2.2.2.2.1 f29) e99 f79.1 rfl (by rw [hml]; rfl) (lenOf own_pd12 rfl) rfl (by exact Nat.le_of_eq rfl) (hd.at 89 rfl) (by decide) (by decide) (by decide) (by decide)) fun T115 X115 e115 => ?_
  refine pA X115 hx (hd.at 90 rfl) rfl rfl ?_
  refine pF X115 hx hZ hown (wd hw 38 rfl) e115 f79.2.2.2.2.2.1 (hd.at 91 rfl) fun T116 X116 e116 => ?_
  refine pi X116 hx (hd.at 92 rfl) rfl ?_
  refine rI X116 hx hZ e116 f29 1 (.int (-1)) rfl (hd.at 93 rfl) ?_
  refine ps X116 hx #[.val (.ref ed), .val (.ref u), .val (.ref ct), .val (.ref gd), .val (.int 2), .val (.int 4), .val (.long nn), .second, .val (.double 4613937818241073152), .second, .val (.double FP.dconst1), .second, .val (.int 4), .val (.int (-1))] (hd.at 94 rfl) rfl ?_
  refine pG X116 hx 161 (hd.at 95 rfl) ?_
  refine pi X116 hx (hd.at 81 rfl) rfl ?_
  refine pC X116 hx (-1) (hd.at 82 rfl) rfl ?_
  refine pcY X116 hx 190 (hd.at 83 rfl) ((teq rfl).1) ?_
  refine pA X116 hx (hd.at 96 rfl) rfl rfl ?_
  refine pF X116 hx hZ hown (wd hw 63 rfl) e116 f80.2.2.1 (hd.at 97 rfl) fun T117 X117 e117 => ?_
  have n119 := Ne.symm ne_k2_mm
  have n120 := Ne.symm ne_k1_mm
  have hS_118 := (OOrd.cons g_t (allS ne_t_mm (allS ne_t_k1 (allS ne_t_k2 all0))) (OOrd.cons g_mm (allS n120 (allS n119 all0)) (OOrd.cons g_k1 (allS ne_k1_k2 all0) (OOrd.cons g_k2 all0 OOrd.nil))))
  refine pgV (own_virtual X117 hx hZ (y := yN7) (z := yN7) (rm := ⟨9, 2, 4, 156⟩) (W := 0) (a := t) (argsL := []) (rest := []) hown (wd hw 79 rfl) (wd hw 80 rfl) (notFace_of_selects (args := #[]) (mvT hZ (wd hw 82 rfl))) (wd hw 82 rfl) (wd hw 81 rfl) (wd hw 42 rfl) (wd hw 83 rfl) (rmPl l Z a0 hw t h65 n0 mm k1 k2 ed (0 : Int32) (0 : Int64) (fun r => r = (-1 : Int32)) sz65 BB44_0 hS_118 (fun h1 fa fk K B' hS' => rmSc00 l Z a0 hw t h1 n0 mm fa fk k1 k2 ed (0 : Int32) 0 0 0 0 0 B' hS')) e117 BB44_0.1 rfl (by rw [hml]; rfl) (lenOf own_pd15 rfl) rfl (by exact Nat.le_of_eq rfl) (hd.at 98 rfl) (by decide) (by decide) (by decide) (by decide)) fun T121 L121 X121 hQ121 => ?_
  obtain ⟨N121, K121, fa, fk, rx, d0x, d1x, ge_fa, ge_fk, ne_fa_fk, hrx, BB121_0⟩ := hQ121
  have ne_ct_fa : ct ≠ fa := Nat.ne_of_lt (Nat.lt_of_lt_of_le f79.2.2.2.2.2.2.2.2.2.2.2.1.lt ge_fa)
  have ne_ed_fa : ed ≠ fa := Nat.ne_of_lt (Nat.lt_of_lt_of_le f79.1.lt ge_fa)
  have ne_gd_fa : gd ≠ fa := Nat.ne_of_lt (Nat.lt_of_lt_of_le f79.2.2.2.2.2.2.2.2.2.2.2.2.lt ge_fa)
  have ne_k1_fa : k1 ≠ fa := Nat.ne_of_lt (Nat.lt_of_lt_of_le BB44_0.2.2.2.2.2.2.2.2.2.2.2.2.1.lt ge_fa)
  have ne_k2_fa : k2 ≠ fa := Nat.ne_of_lt (Nat.lt_of_lt_of_le BB44_0.2.2.2.2.2.2.2.2.2.2.2.2.2.lt ge_fa)
  have ne_mm_fa : mm ≠ fa := Nat.ne_of_lt (Nat.lt_of_lt_of_le BB44_0.2.2.2.2.2.2.2.2.2.2.2.1.lt ge_fa)
  have ne_nx_fa : nx ≠ fa := Nat.ne_of_lt (Nat.lt_of_lt_of_le f29.lt ge_fa)
  have ne_px_fa : px ≠ fa := Nat.ne_of_lt (Nat.lt_of_lt_of_le f26.lt ge_fa)
  have ne_t_fa : t ≠ fa := Nat.ne_of_lt (Nat.lt_of_lt_of_le BB44_0.1.lt ge_fa)
  have ne_u_fa : u ≠ fa := Nat.ne_of_lt (Nat.lt_of_lt_of_le f79.2.2.2.2.2.2.2.2.2.2.1.lt ge_fa)
  have g_fa : n0 ≤ fa := Nat.le_trans sz65 ge_fa
  have kz_fa := Nat.le_trans kp65.1 ge_fa
  have ne_ct_fk : ct ≠ fk := Nat.ne_of_lt (Nat.lt_of_lt_of_le f79.2.2.2.2.2.2.2.2.2.2.2.1.lt ge_fk)
  have ne_ed_fk : ed ≠ fk := Nat.ne_of_lt (Nat.lt_of_lt_of_le f79.1.lt ge_fk)
  have ne_gd_fk : gd ≠ fk := Nat.ne_of_lt (Nat.lt_of_lt_of_le f79.2.2.2.2.2.2.2.2.2.2.2.2.lt ge_fk)
  have ne_k1_fk : k1 ≠ fk := Nat.ne_of_lt (Nat.lt_of_lt_of_le BB44_0.2.2.2.2.2.2.2.2.2.2.2.2.1.lt ge_fk)
  have ne_k2_fk : k2 ≠ fk := Nat.ne_of_lt (Nat.lt_of_lt_of_le BB44_0.2.2.2.2.2.2.2.2.2.2.2.2.2.lt ge_fk)
  have ne_mm_fk : mm ≠ fk := Nat.ne_of_lt (Nat.lt_of_lt_of_le BB44_0.2.2.2.2.2.2.2.2.2.2.2.1.lt ge_fk)
  have ne_nx_fk : nx ≠ fk := Nat.ne_of_lt (Nat.lt_of_lt_of_le f29.lt ge_fk)
  have ne_px_fk : px ≠ fk := Nat.ne_of_lt (Nat.lt_of_lt_of_le f26.lt ge_fk)
  have ne_t_fk : t ≠ fk := Nat.ne_of_lt (Nat.lt_of_lt_of_le BB44_0.1.lt ge_fk)
  have ne_u_fk : u ≠ fk := Nat.ne_of_lt (Nat.lt_of_lt_of_le f79.2.2.2.2.2.2.2.2.2.2.1.lt ge_fk)
  have g_fk : n0 ≤ fk := Nat.le_trans sz65 ge_fk
  have kz_fk := Nat.le_trans kp65.1 ge_fk
  have fr121 := Fr.app fr65 N121
  have kp121 := kp65.trans K121 (allS (Or.inr kz_t) all0)
  replace f26 := f26.keep K121 (ninS ne_px_t nin0)
  replace f29 := f29.keep K121 (ninS ne_nx_t nin0)
  replace f79 := f79.keep K121 (ninS ne_ed_t nin0) (ninS ne_u_t nin0) (ninS ne_ct_t nin0) (ninS ne_gd_t nin0)
  replace f80 := f80.keep K121 (ninS ne_ed_t nin0)
  have sz121 : n0 ≤ T121.heap.size := Nat.le_trans sz65 K121.1
  exact own_retV X121 hx hret hlk (hd.at 99 rfl) (by decide) (by decide) (by show _ ∧ _ ∧ Keep h0 T121.heap _ ∧ _; exact ⟨rfl, fr121, kp121, nx, kz_nx, f79.1, f79.2.1, f79.2.2.1, f79.2.2.2.1, f79.2.2.2.2.2.1, f79.2.2.2.2.2.2.2.2.2.2.1, f79.2.2.2.2.2.2.2.2.2.2.2.1, f79.2.2.2.2.2.2.2.2.2.2.2.2, f29⟩)
set_option maxRecDepth 65536 in
set_option maxHeartbeats 40000000 in
theorem rmIn3 (l : Launch) (Z : State) (a0 : Array Value) (hw : ∀ d ∈ tables_1, d.before a0 Z = true) (ed : Addr) (u : Addr) (ct : Addr) (gd : Addr) (nn : Int64) (h0 : Heap) (n0 : Nat) (fu fc : Nat → UInt64) (fg : Nat → Int32) (Z0 : n0 ≤ h0.size) (B : OE0 Z h0 ed) (A_u : OArr Z h0 u .double 4 (fun i => .double (fu i))) (A_c : OArr Z h0 ct .double 4 (fun i => .double (fc i))) (A_g : OArr Z h0 gd .boolean 4 (fun i => .int (fg i))) (hU : OUp fu) (hN : OCn fc) (hS : OOrd n0 [ed, u, ct, gd]) :
    OMet l Z yN1 prog_72_method_1_code 14 none (⟨12, 8, 25, 3100⟩ : Room) #[(.ref ed), (.ref u), (.ref ct), (.ref gd), (.int 3), (.int 4), (.long nn), (.double 4613937818241073152), (.double FP.dconst1)] h0 (fun v h L => v = none ∧ Fr n0 L ∧ Keep h0 h [ed] ∧ ∃ px nx t mm fa fk k1 k2 M sz r d0 d, ((M = 0 ∧ r = -1) ∨ (M = 2 ∧ r = 1)) ∧ OOrd h0.size [px, nx, t, mm, fa, fk, k1, k2] ∧ ORd Z h ed u ct gd px nx fu fc fg own_p3 own_n3 (FP.l2d nn) ∧ OEw Z h ed t 3 .null ∧ OTP Z h t mm fa fk k1 k2 ed M sz 1 0 r d0 d) := by
  refine own_enter own_pn1 ?_
  intro p e s m below meth c T0 X0 hC e0 hnamed
  have hC0 := hC
  obtain ⟨hx, hZH, hby, hml, hown, hret, hlk, hnm⟩ := hC
  have hZ := hZH.wide
  have hown : s.vm.findClass "com/example/rankfold/rankfold/summaries/BucketEditor" = some m.cls := hown
  refine own_at (own_ef1_RRRRIIJDD m ed u ct gd (3 : Int32) (4 : Int32) nn (4613937818241073152 : UInt64) FP.dconst1) ?_
  have hd := D1.to hby
  have hD := Jvm.Free.Fl.l2d_mag nn
  refine lpInP hw hC0 X0 e0 n0 ed u ct gd (3 : Int32) nn fu fc fg Z0 B A_u A_c A_g hS fun T1 L1 h1 px nx X1 e1 fr1 kp1 sz1 kz_px kz_nx hS1 B1 f1 f2 B2 => ?_
  refine pi X1 hx (hd.at 46 rfl) rfl ?_
  refine pi X1 hx (hd.at 47 rfl) rfl ?_
  refine pcN X1 hx (hd.at 48 rfl) ((tlt (by decide)).2.1) ?_
  refine pA X1 hx (hd.at 49 rfl) rfl rfl ?_
  refine pF X1 hx hZ hown (wd hw 36 rfl) e1 B1.2.2.2.2.1 (hd.at 50 rfl) fun T6 X6 e6 => ?_
  refine pi X6 hx (hd.at 51 rfl) rfl ?_
  refine pi X6 hx (hd.at 52 rfl) rfl ?_
  refine pC X6 hx 1 (hd.at 53 rfl) rfl ?_
  refine o_isub X6 hx (hd.at 54 rfl) ?_
  rw [show (((0 : Int32) - (1 : Int32))) = (-1 : Int32) from by decide]
  refine wI X6 hx hZ e6 f1 0 (hd.at 55 rfl) fun T7 h7 X7 e7 W7 V7 => ?_
  have f8 : OArr Z h7 px .int 4 (fun i => .int ((own_q4 (-1 : Int32) (0 : Int32) (0 : Int32) (0 : Int32)) i)) := V7.congr (own_lt4 rfl rfl rfl rfl)
  have n9 := hS1.ne 4 5
  have n10 := Ne.symm n9
  replace f2 := f2.other W7 n10
  have n11 := hS1.ne 0 4
  have n12 := hS1.ne 1 4
  have n13 := hS1.ne 2 4
  have n14 := hS1.ne 3 4
  have f15 := B1.keep (Keep.of_wr W7) (ninS n11 nin0) (ninS n12 nin0) (ninS n13 nin0) (ninS n14 nin0)
  have f16 := B2.keep (Keep.of_wr W7) (ninS n11 nin0)
  have sz7 : n0 ≤ h7.size := by rw [W7.size]; exact sz1
  have fr7 := Fr.snoc X7 fr1 (hS1.ge 4 rfl)
  have kp7 := kp1.wr W7 (Or.inr kz_px)
  refine pA X7 hx (hd.at 56 rfl) rfl rfl ?_
  refine pF X7 hx hZ hown (wd hw 38 rfl) e7 f15.2.2.2.2.2.1 (hd.at 57 rfl) fun T17 X17 e17 => ?_
  refine pi X17 hx (hd.at 58 rfl) rfl ?_
  refine pi X17 hx (hd.at 59 rfl) rfl ?_
  refine pC X17 hx 1 (hd.at 60 rfl) rfl ?_
  refine o_iadd X17 hx (hd.at 61 rfl) ?_
  refine pi X17 hx (hd.at 62 rfl) rfl ?_
  refine pcN X17 hx (hd.at 63 rfl) ((tlt (by decide)).2.1) ?_
  refine pi X17 hx (hd.at 100 rfl) rfl ?_
  refine pC X17 hx 1 (hd.at 101 rfl) rfl ?_
  refine o_iadd X17 hx (hd.at 102 rfl) ?_
  refine pG X17 hx 125 (hd.at 103 rfl) ?_
  rw [show (((0 : Int32) + (1 : Int32))) = (1 : Int32) from by decide]
  refine wI X17 hx hZ e17 f2 0 (hd.at 65 rfl) fun T18 h18 X18 e18 W18 V18 => ?_
  have f19 : OArr Z h18 nx .int 4 (fun i => .int ((own_q4 (1 : Int32) (0 : Int32) (0 : Int32) (0 : Int32)) i)) := V18.congr (own_lt4 rfl rfl rfl rfl)
  replace f8 := f8.other W18 n9
  have n20 := hS1.ne 0 5
  have n21 := hS1.ne 1 5
  have n22 := hS1.ne 2 5
  have n23 := hS1.ne 3 5
  replace f15 := f15.keep (Keep.of_wr W18) (ninS n20 nin0) (ninS n21 nin0) (ninS n22 nin0) (ninS n23 nin0)
  replace f16 := f16.keep (Keep.of_wr W18) (ninS n20 nin0)
  have sz18 : n0 ≤ h18.size := by rw [W18.size]; exact sz7
  have fr18 := Fr.snoc X18 fr7 (hS1.ge 5 rfl)
  have kp18 := kp7.wr W18 (Or.inr kz_nx)
  refine pN X18 hx (1 : Int32) #[.val (.ref ed), .val (.ref u), .val (.ref ct), .val (.ref gd), .val (.int 3), .val (.int 4), .val (.long nn), .second, .val (.double 4613937818241073152), .second, .val (.double FP.dconst1), .second, .val (.int 4), .val (.int 1)] (hd.at 66 rfl) rfl (by decide) rfl ?_
  refine pG X18 hx 84 (hd.at 67 rfl) ?_
  refine pi X18 hx (hd.at 46 rfl) rfl ?_
  refine pi X18 hx (hd.at 47 rfl) rfl ?_
  refine pcN X18 hx (hd.at 48 rfl) ((tlt (by decide)).2.1) ?_
  refine pA X18 hx (hd.at 49 rfl) rfl rfl ?_
  refine pF X18 hx hZ hown (wd hw 36 rfl) e18 f15.2.2.2.2.1 (hd.at 50 rfl) fun T24 X24 e24 => ?_
  refine pi X24 hx (hd.at 51 rfl) rfl ?_
  refine pi X24 hx (hd.at 52 rfl) rfl ?_
  refine pC X24 hx 1 (hd.at 53 rfl) rfl ?_
  refine o_isub X24 hx (hd.at 54 rfl) ?_
  rw [show (((1 : Int32) - (1 : Int32))) = (0 : Int32) from by decide]
  refine wI X24 hx hZ e24 f8 1 (hd.at 55 rfl) fun T25 h25 X25 e25 W25 V25 => ?_
  have f26 : OArr Z h25 px .int 4 (fun i => .int ((own_q4 (-1 : Int32) (0 : Int32) (0 : Int32) (0 : Int32)) i)) := V25.congr (own_lt4 rfl rfl rfl rfl)
  replace f19 := f19.other W25 n10
  replace f15 := f15.keep (Keep.of_wr W25) (ninS n11 nin0) (ninS n12 nin0) (ninS n13 nin0) (ninS n14 nin0)
  replace f16 := f16.keep (Keep.of_wr W25) (ninS n11 nin0)
  have sz25 : n0 ≤ h25.size := by rw [W25.size]; exact sz18
  have fr25 := Fr.snoc X25 fr18 (hS1.ge 4 rfl)
  have kp25 := kp18.wr W25 (Or.inr kz_px)
  refine pA X25 hx (hd.at 56 rfl) rfl rfl ?_
  refine pF X25 hx hZ hown (wd hw 38 rfl) e25 f15.2.2.2.2.2.1 (hd.at 57 rfl) fun T27 X27 e27 => ?_
  refine pi X27 hx (hd.at 58 rfl) rfl ?_
  refine pi X27 hx (hd.at 59 rfl) rfl ?_
  refine pC X27 hx 1 (hd.at 60 rfl) rfl ?_
  refine o_iadd X27 hx (hd.at 61 rfl) ?_
  refine pi X27 hx (hd.at 62 rfl) rfl ?_
  refine pcN X27 hx (hd.at 63 rfl) ((tlt (by decide)).2.1) ?_
  refine pi X27 hx (hd.at 100 rfl) rfl ?_
  refine pC X27 hx 1 (hd.at 101 rfl) rfl ?_
  refine o_iadd X27 hx (hd.at 102 rfl) ?_
  refine pG X27 hx 125 (hd.at 103 rfl) ?_
  rw [show (((1 : Int32) + (1 : Int32))) = (2 : Int32) from by decide]
  refine wI X27 hx hZ e27 f19 1 (hd.at 65 rfl) fun T28 h28 X28 e28 W28 V28 => ?_
  have f29 : OArr Z h28 nx .int 4 (fun i => .int ((own_q4 (1 : Int32) (2 : Int32) (0 : Int32) (0 : Int32)) i)) := V28.congr (own_lt4 rfl rfl rfl rfl)
  replace f26 := f26.other W28 n9
  replace f15 := f15.keep (Keep.of_wr W28) (ninS n20 nin0) (ninS n21 nin0) (ninS n22 nin0) (ninS n23 nin0)
  replace f16 := f16.keep (Keep.of_wr W28) (ninS n20 nin0)
  have sz28 : n0 ≤ h28.size := by rw [W28.size]; exact sz25
  have fr28 := Fr.snoc X28 fr25 (hS1.ge 5 rfl)
  have kp28 := kp25.wr W28 (Or.inr kz_nx)
  refine pN X28 hx (2 : Int32) #[.val (.ref ed), .val (.ref u), .val (.ref ct), .val (.ref gd), .val (.int 3), .val (.int 4), .val (.long nn), .second, .val (.double 4613937818241073152), .second, .val (.double FP.dconst1), .second, .val (.int 4), .val (.int 2)] (hd.at 66 rfl) rfl (by decide) rfl ?_
  refine pG X28 hx 84 (hd.at 67 rfl) ?_
  refine pi X28 hx (hd.at 46 rfl) rfl ?_
  refine pi X28 hx (hd.at 47 rfl) rfl ?_
  refine pcN X28 hx (hd.at 48 rfl) ((tlt (by decide)).2.1) ?_
  refine pA X28 hx (hd.at 49 rfl) rfl rfl ?_
  refine pF X28 hx hZ hown (wd hw 36 rfl) e28 f15.2.2.2.2.1 (hd.at 50 rfl) fun T30 X30 e30 => ?_
  refine pi X30 hx (hd.at 51 rfl) rfl ?_
  refine pi X30 hx (hd.at 52 rfl) rfl ?_
  refine pC X30 hx 1 (hd.at 53 rfl) rfl ?_
  refine o_isub X30 hx (hd.at 54 rfl) ?_
  rw [show (((2 : Int32) - (1 : Int32))) = (1 : Int32) from by decide]
  refine wI X30 hx hZ e30 f26 2 (hd.at 55 rfl) fun T31 h31 X31 e31 W31 V31 => ?_
  have f32 : OArr Z h31 px .int 4 (fun i => .int ((own_q4 (-1 : Int32) (0 : Int32) (1 : Int32) (0 : Int32)) i)) := V31.congr (own_lt4 rfl rfl rfl rfl)
  replace f29 := f29.other W31 n10
  replace f15 := f15.keep (Keep.of_wr W31) (ninS n11 nin0) (ninS n12 nin0) (ninS n13 nin0) (ninS n14 nin0)
  replace f16 := f16.keep (Keep.of_wr W31) (ninS n11 nin0)
  have sz31 : n0 ≤ h31.size := by rw [W31.size]; exact sz28
  have fr31 := Fr.snoc X31 fr28 (hS1.ge 4 rfl)
  have kp31 := kp28.wr W31 (Or.inr kz_px)
  refine pA X31 hx (hd.at 56 rfl) rfl rfl ?_
  refine pF X31 hx hZ hown (wd hw 38 rfl) e31 f15.2.2.2.2.2.1 (hd.at 57 rfl) fun T33 X33 e33 => ?_
  refine pi X33 hx (hd.at 58 rfl) rfl ?_
  refine pi X33 hx (hd.at 59 rfl) rfl ?_
  refine pC X33 hx 1 (hd.at 60 rfl) rfl ?_
  refine o_iadd X33 hx (hd.at 61 rfl) ?_
  refine pi X33 hx (hd.at 62 rfl) rfl ?_
  refine pcY X33 hx 124 (hd.at 63 rfl) ((flt (by decide)).2.1) ?_
  refine pC X33 hx (-1) (hd.at 64 rfl) rfl ?_
  refine wI X33 hx hZ e33 f29 2 (hd.at 65 rfl) fun T34 h34 X34 e34 W34 V34 => ?_
  have f35 : OArr Z h34 nx .int 4 (fun i => .int ((own_q4 (1 : Int32) (2 : Int32) (-1 : Int32) (0 : Int32)) i)) := V34.congr (own_lt4 rfl rfl rfl rfl)
  replace f32 := f32.other W34 n9
  replace f15 := f15.keep (Keep.of_wr W34) (ninS n20 nin0) (ninS n21 nin0) (ninS n22 nin0) (ninS n23 nin0)
  replace f16 := f16.keep (Keep.of_wr W34) (ninS n20 nin0)
  have sz34 : n0 ≤ h34.size := by rw [W34.size]; exact sz31
  have fr34 := Fr.snoc X34 fr31 (hS1.ge 5 rfl)
  have kp34 := kp31.wr W34 (Or.inr kz_nx)
  refine pN X34 hx (3 : Int32) #[.val (.ref ed), .val (.ref u), .val (.ref ct), .val (.ref gd), .val (.int 3), .val (.int 4), .val (.long nn), .second, .val (.double 4613937818241073152), .second, .val (.double FP.dconst1), .second, .val (.int 4), .val (.int 3)] (hd.at 66 rfl) rfl (by decide) rfl ?_
  refine pG X34 hx 84 (hd.at 67 rfl) ?_
  refine pi X34 hx (hd.at 46 rfl) rfl ?_
  refine pi X34 hx (hd.at 47 rfl) rfl ?_
  refine pcY X34 hx 132 (hd.at 48 rfl) ((flt (by decide)).2.1) ?_
  refine pA X34 hx (hd.at 68 rfl) rfl rfl ?_
  refine pg5 (newO X34 hx hZ hown (wd hw 40 rfl) (wd hw 41 rfl) (wd hw 42 rfl) e34 rfl (hd.at 69 rfl) (by decide) (by decide)) fun T36 h36 X36 e36 E36 A36 D36 _ => ?_
  obtain ⟨t, g36⟩ : ∃ z, z = h34.size := ⟨_, rfl⟩
  rw [← g36] at A36 D36 ⊢
  have ne_ct_t : ct ≠ t := Nat.ne_of_lt (Nat.lt_of_lt_of_le f15.2.2.2.2.2.2.2.2.2.2.2.1.lt (Nat.le_of_eq g36.symm))
  have ne_ed_t : ed ≠ t := Nat.ne_of_lt (Nat.lt_of_lt_of_le f15.1.lt (Nat.le_of_eq g36.symm))
  have ne_gd_t : gd ≠ t := Nat.ne_of_lt (Nat.lt_of_lt_of_le f15.2.2.2.2.2.2.2.2.2.2.2.2.lt (Nat.le_of_eq g36.symm))
  have ne_nx_t : nx ≠ t := Nat.ne_of_lt (Nat.lt_of_lt_of_le f35.lt (Nat.le_of_eq g36.symm))
  have ne_px_t : px ≠ t := Nat.ne_of_lt (Nat.lt_of_lt_of_le f32.lt (Nat.le_of_eq g36.symm))
  have ne_u_t : u ≠ t := Nat.ne_of_lt (Nat.lt_of_lt_of_le f15.2.2.2.2.2.2.2.2.2.2.1.lt (Nat.le_of_eq g36.symm))
  have g_t : n0 ≤ t := Nat.le_trans sz34 (Nat.le_of_eq g36.symm)
  replace f32 := f32.ext E36
  replace f35 := f35.ext E36
  replace f15 := f15.keep ((Keep.refl h34 []).ext E36) nin0 nin0 nin0 nin0
  replace f16 := f16.keep ((Keep.refl h34 []).ext E36) nin0
  have f37 : Fld Z h36 t "com/example/rankfold/rankfold/summaries/Tournament" "largestFirst" "Z" (.int 0) := D36 (Or.inr (wd hw 53 rfl)) (ty := .boolean) (by decide)
  have f38 : Fld Z h36 t "com/example/rankfold/rankfold/summaries/Tournament" "keyOf" "Ljava/util/function/IntToDoubleFunction;" .null := D36 (Or.inr (wd hw 55 rfl)) (ty := (.object "java/util/function/IntToDoubleFunction")) (by decide)
  have f39 : Fld Z h36 t "com/example/rankfold/rankfold/summaries/Tournament" "order" "Ljava/util/function/IntToDoubleFunction;" .null := D36 (Or.inr (wd hw 57 rfl)) (ty := (.object "java/util/function/IntToDoubleFunction")) (by decide)
  have f40 : Fld Z h36 t "com/example/rankfold/rankfold/summaries/Tournament" "capacity" "I" (.int 0) := D36 (Or.inl (wd hw 59 rfl)) (ty := .int) (by decide)
  have f41 : Fld Z h36 t "com/example/rankfold/rankfold/summaries/Tournament" "members" "[J" .null := D36 (Or.inl (wd hw 62 rfl)) (ty := (.array .long)) (by decide)
  have f42 : Fld Z h36 t "com/example/rankfold/rankfold/summaries/Tournament" "blocks" "I" (.int 0) := D36 (Or.inl (wd hw 89 rfl)) (ty := .int) (by decide)
  have f43 : Fld Z h36 t "com/example/rankfold/rankfold/summaries/Tournament" "firsts" "[I" .null := D36 (Or.inl (wd hw 91 rfl)) (ty := (.array .int)) (by decide)
  have f44 : Fld Z h36 t "com/example/rankfold/rankfold/summaries/Tournament" "firstKeys" "[D" .null := D36 (Or.inl (wd hw 93 rfl)) (ty := (.array .double)) (by decide)
  have f45 : Fld Z h36 t "com/example/rankfold/rankfold/summaries/Tournament" "planted" "Z" (.int 0) := D36 (Or.inl (wd hw 103 rfl)) (ty := .boolean) (by decide)
  have f46 : Fld Z h36 t "com/example/rankfold/rankfold/summaries/Tournament" "size" "I" (.int 0) := D36 (Or.inl (wd hw 128 rfl)) (ty := .int) (by decide)
  have sz36 : n0 ≤ h36.size := Nat.le_trans sz34 E36.1
  have kp36 := kp34.ext E36
  have kz_t := Nat.le_trans kp34.1 (Nat.le_of_eq g36.symm)
  have f47 : OT9 Z h36 t := ⟨A36, f37, f38, f39, f40, f41, f46, f45, f42, f43, f44⟩
  refine o_dup X36 hx (hd.at 70 rfl) rfl ?_
  refine pC X36 hx 0 (hd.at 71 rfl) rfl ?_
  refine pi X36 hx (hd.at 72 rfl) rfl ?_
  refine pA X36 hx (hd.at 73 rfl) rfl rfl ?_
  refine pg6 (own_mkJ X36 hx hZH (y := yN1) (pc := 141) (index := 52) hnamed rfl (wd hw 43 rfl) (wd hw 46 rfl) (wd hw 131 rfl) e36 rfl (by rw [hml]; rfl) rfl rfl (hd.at 74 rfl) (Nat.le_of_ble_eq_true rfl) (by decide) (by decide)) fun T48 h48 X48 e48 E48 A48 => ?_
  obtain ⟨k1, g48⟩ : ∃ z, z = h36.size := ⟨_, rfl⟩
  rw [← g48] at A48 ⊢
  have ne_ct_k1 : ct ≠ k1 := Nat.ne_of_lt (Nat.lt_of_lt_of_le f15.2.2.2.2.2.2.2.2.2.2.2.1.lt (Nat.le_of_eq g48.symm))
  have ne_ed_k1 : ed ≠ k1 := Nat.ne_of_lt (Nat.lt_of_lt_of_le f15.1.lt (Nat.le_of_eq g48.symm))
  have ne_gd_k1 : gd ≠ k1 := Nat.ne_of_lt (Nat.lt_of_lt_of_le f15.2.2.2.2.2.2.2.2.2.2.2.2.lt (Nat.le_of_eq g48.symm))
  have ne_nx_k1 : nx ≠ k1 := Nat.ne_of_lt (Nat.lt_of_lt_of_le f35.lt (Nat.le_of_eq g48.symm))
  have ne_px_k1 : px ≠ k1 := Nat.ne_of_lt (Nat.lt_of_lt_of_le f32.lt (Nat.le_of_eq g48.symm))
  have ne_t_k1 : t ≠ k1 := Nat.ne_of_lt (Nat.lt_of_lt_of_le f47.1.lt (Nat.le_of_eq g48.symm))
  have ne_u_k1 : u ≠ k1 := Nat.ne_of_lt (Nat.lt_of_lt_of_le f15.2.2.2.2.2.2.2.2.2.2.1.lt (Nat.le_of_eq g48.symm))
  have g_k1 : n0 ≤ k1 := Nat.le_trans sz36 (Nat.le_of_eq g48.symm)
  replace f32 := f32.ext E48
  replace f35 := f35.ext E48
  replace f15 := f15.keep ((Keep.refl h36 []).ext E48) nin0 nin0 nin0 nin0
  replace f16 := f16.keep ((Keep.refl h36 []).ext E48) nin0
  replace f47 := f47.keep ((Keep.refl h36 []).ext E48) nin0
  have sz48 : n0 ≤ h48.size := Nat.le_trans sz36 E48.1
  have kp48 := kp36.ext E48
  have kz_k1 := Nat.le_trans kp36.1 (Nat.le_of_eq g48.symm)
  refine pA X48 hx (hd.at 75 rfl) rfl rfl ?_
  refine pg6 (own_mkT X48 hx hZH (y := yN1) (pc := 147) (index := 56) hnamed rfl (wd hw 47 rfl) (wd hw 46 rfl) (wd hw 131 rfl) e48 rfl (by rw [hml]; rfl) rfl rfl (hd.at 76 rfl) (Nat.le_of_ble_eq_true rfl) (by decide) (by decide)) fun T49 h49 X49 e49 E49 A49 => ?_
  obtain ⟨k2, g49⟩ : ∃ z, z = h48.size := ⟨_, rfl⟩
  rw [← g49] at A49 ⊢
  have ne_ct_k2 : ct ≠ k2 := Nat.ne_of_lt (Nat.lt_of_lt_of_le f15.2.2.2.2.2.2.2.2.2.2.2.1.lt (Nat.le_of_eq g49.symm))
  have ne_ed_k2 : ed ≠ k2 := Nat.ne_of_lt (Nat.lt_of_lt_of_le f15.1.lt (Nat.le_of_eq g49.symm))
  have ne_gd_k2 : gd ≠ k2 := Nat.ne_of_lt (Nat.lt_of_lt_of_le f15.2.2.2.2.2.2.2.2.2.2.2.2.lt (Nat.le_of_eq g49.symm))
  have ne_k1_k2 : k1 ≠ k2 := Nat.ne_of_lt (Nat.lt_of_lt_of_le A48.lt (Nat.le_of_eq g49.symm))
  have ne_nx_k2 : nx ≠ k2 := Nat.ne_of_lt (Nat.lt_of_lt_of_le f35.lt (Nat.le_of_eq g49.symm))
  have ne_px_k2 : px ≠ k2 := Nat.ne_of_lt (Nat.lt_of_lt_of_le f32.lt (Nat.le_of_eq g49.symm))
  have ne_t_k2 : t ≠ k2 := Nat.ne_of_lt (Nat.lt_of_lt_of_le f47.1.lt (Nat.le_of_eq g49.symm))
  have ne_u_k2 : u ≠ k2 := Nat.ne_of_lt (Nat.lt_of_lt_of_le f15.2.2.2.2.2.2.2.2.2.2.1.lt (Nat.le_of_eq g49.symm))
  have g_k2 : n0 ≤ k2 := Nat.le_trans sz48 (Nat.le_of_eq g49.symm)
  replace f32 := f32.ext E49
  replace f35 := f35.ext E49
  replace A48 := A48.ext E49
  replace f15 := f15.keep ((Keep.refl h48 []).ext E49) nin0 nin0 nin0 nin0
  replace f16 := f16.keep ((Keep.refl h48 []).ext E49) nin0
  replace f47 := f47.keep ((Keep.refl h48 []).ext E49) nin0
  have sz49 : n0 ≤ h49.size := Nat.le_trans sz48 E49.1
  have kp49 := kp48.ext E49
  have kz_k2 := Nat.le_trans kp48.1 (Nat.le_of_eq g49.symm)
  have hS_t := (OOrd.cons g_t (allS ne_t_k1 (allS ne_t_k2 all0)) (OOrd.cons g_k1 (allS ne_k1_k2 all0) (OOrd.cons g_k2 all0 OOrd.nil)))
  refine pgV (own_init X49 hx hZ (y := yN3) (rm := ⟨1, 1, 1, 12⟩) (W := 2) (a := t) (argsL := [(.int 0), (.int 4), (.ref k1), (.ref k2)]) (rest := [(.ref t), (.ref ed)]) rfl hown (wd hw 48 rfl) (wd hw 49 rfl) (wd hw 42 rfl) (wd hw 50 rfl) (rmTI l Z a0 hw t k1 k2 h49 n0 ed sz49 f47 hS_t A48 A49) e49 rfl (by rw [hml]; rfl) (lenOf own_pd14 rfl) rfl (by exact Nat.le_of_eq rfl) (hd.at 77 rfl) (by decide) (by decide) (by decide) (by decide)) fun T50 L50 X50 hQ50 => ?_
  obtain ⟨N50, K50, mm, ge_mm, BB50_0⟩ := hQ50
  have ne_ct_mm : ct ≠ mm := Nat.ne_of_lt (Nat.lt_of_lt_of_le f15.2.2.2.2.2.2.2.2.2.2.2.1.lt ge_mm)
  have ne_ed_mm : ed ≠ mm := Nat.ne_of_lt (Nat.lt_of_lt_of_le f15.1.lt ge_mm)
  have ne_gd_mm : gd ≠ mm := Nat.ne_of_lt (Nat.lt_of_lt_of_le f15.2.2.2.2.2.2.2.2.2.2.2.2.lt ge_mm)
  have ne_k1_mm : k1 ≠ mm := Nat.ne_of_lt (Nat.lt_of_lt_of_le A48.lt ge_mm)
  have ne_k2_mm : k2 ≠ mm := Nat.ne_of_lt (Nat.lt_of_lt_of_le A49.lt ge_mm)
  have ne_nx_mm : nx ≠ mm := Nat.ne_of_lt (Nat.lt_of_lt_of_le f35.lt ge_mm)
  have ne_px_mm : px ≠ mm := Nat.ne_of_lt (Nat.lt_of_lt_of_le f32.lt ge_mm)
  have ne_t_mm : t ≠ mm := Nat.ne_of_lt (Nat.lt_of_lt_of_le f47.1.lt ge_mm)
  have ne_u_mm : u ≠ mm := Nat.ne_of_lt (Nat.lt_of_lt_of_le f15.2.2.2.2.2.2.2.2.2.2.1.lt ge_mm)
  have g_mm : n0 ≤ mm := Nat.le_trans sz49 ge_mm
  have kz_mm := Nat.le_trans kp49.1 ge_mm
  have fr50 := Fr.app fr34 N50
  have kp50 := kp49.trans K50 (allS (Or.inr kz_t) all0)
  replace f32 := f32.keep K50 (ninS ne_px_t nin0)
  replace f35 := f35.keep K50 (ninS ne_nx_t nin0)
  have n51 := Ne.symm ne_t_k1
  replace A48 := A48.keep K50 (ninS n51 nin0)
  have n52 := Ne.symm ne_t_k2
  replace A49 := A49.keep K50 (ninS n52 nin0)
  replace f15 := f15.keep K50 (ninS ne_ed_t nin0) (ninS ne_u_t nin0) (ninS ne_ct_t nin0) (ninS ne_gd_t nin0)
  replace f16 := f16.keep K50 (ninS ne_ed_t nin0)
  have sz50 : n0 ≤ T50.heap.size := Nat.le_trans sz49 K50.1
  obtain ⟨u53, u54, u55, u56, u57, u58, u59, u60, u61, u62, u63, u64, u65⟩ := id f15
  obtain ⟨u66, u67, u68, u69, u70⟩ := id f16
  refine pg2 (putF X50 hx hZ hown (host := "") (Or.inl (wd hw 63 rfl)) Via.refl rfl u68 u53 (Or.inl (wd hw 64 rfl)) (wd hw 6 rfl) (ty := (.object "com/example/rankfold/rankfold/summaries/Tournament")) (by decide) rfl rfl rfl rfl (hd.at 78 rfl)) fun T71 h71 X71 e71 W71 => ?_
  have f72 := u68.same W71
  have n73 := Ne.symm n11
  replace f32 := f32.other W71 n73
  have n74 := Ne.symm n20
  replace f35 := f35.other W71 n74
  replace u53 := u53.wr W71
  replace u54 := u54.other W71 (Or.inr (sl (Or.inl (wd hw 30 rfl)) (Or.inl (wd hw 64 rfl))))
  replace u55 := u55.other W71 (Or.inr (sl (Or.inl (wd hw 32 rfl)) (Or.inl (wd hw 64 rfl))))
  replace u56 := u56.other W71 (Or.inr (sl (Or.inl (wd hw 34 rfl)) (Or.inl (wd hw 64 rfl))))
  replace u57 := u57.other W71 (Or.inr (sl (Or.inl (wd hw 37 rfl)) (Or.inl (wd hw 64 rfl))))
  replace u58 := u58.other W71 (Or.inr (sl (Or.inl (wd hw 39 rfl)) (Or.inl (wd hw 64 rfl))))
  replace u59 := u59.other W71 (Or.inr (sl (Or.inr (wd hw 20 rfl)) (Or.inl (wd hw 64 rfl))))
  replace u60 := u60.other W71 (Or.inr (sl (Or.inr (wd hw 22 rfl)) (Or.inl (wd hw 64 rfl))))
  replace u61 := u61.other W71 (Or.inr (sl (Or.inl (wd hw 24 rfl)) (Or.inl (wd hw 64 rfl))))
  replace u62 := u62.other W71 (Or.inr (sl (Or.inr (wd hw 18 rfl)) (Or.inl (wd hw 64 rfl))))
  have n75 := hS1.ne 0 1
  have n76 := Ne.symm n75
  replace u63 := u63.other W71 n76
  have n77 := hS1.ne 0 2
  have n78 := Ne.symm n77
  replace u64 := u64.other W71 n78
  have n79 := hS1.ne 0 3
  have n80 := Ne.symm n79
  replace u65 := u65.other W71 n80
  replace u66 := u66.other W71 (Or.inr (sl (Or.inl (wd hw 16 rfl)) (Or.inl (wd hw 64 rfl))))
  replace u67 := u67.other W71 (Or.inr (sl (Or.inl (wd hw 26 rfl)) (Or.inl (wd hw 64 rfl))))
  replace u69 := u69.other W71 (Or.inr (sl (Or.inl (wd hw 183 rfl)) (Or.inl (wd hw 64 rfl))))
  replace u70 := u70.other W71 (Or.inr (sl (Or.inl (wd hw 191 rfl)) (Or.inl (wd hw 64 rfl))))
  have n81 := Ne.symm ne_ed_t
  have n82 := Ne.symm ne_ed_mm
  have n83 := Ne.symm ne_ed_k1
  have n84 := Ne.symm ne_ed_k2
  replace BB50_0 := BB50_0.keep (Keep.of_wr W71) (ninS n81 nin0) (ninS n82 nin0) (ninS n83 nin0) (ninS n84 nin0)
  have sz71 : n0 ≤ h71.size := by rw [W71.size]; exact sz50
  have fr71 := Fr.snoc X71 fr50 (hS1.ge 0 rfl)
  have kp71 := kp50.wr W71 (Or.inl (List.mem_of_getElem? (i := 0) rfl))
  have f85 : ORe Z h71 ed u ct gd px nx fu fc fg (FP.l2d nn) := ⟨u53, u54, u55, u56, u57, u58, u59, u60, u61, u62, u63, u64, u65⟩
  have f86 : OEw Z h71 ed t (3 : Int32) .null := ⟨u66, u67, f72, u69, u70⟩
  refine pC X71 hx 0 (hd.at 79 rfl) rfl ?_
  refine ps X71 hx #[.val (.ref ed), .val (.ref u), .val (.ref ct), .val (.ref gd), .val (.int 3), .val (.int 4), .val (.long nn), .second, .val (.double 4613937818241073152), .second, .val (.double FP.dconst1), .second, .val (.int 4), .val (.int 0)] (hd.at 80 rfl) rfl ?_
  refine pi X71 hx (hd.at 81 rfl) rfl ?_
  refine pC X71 hx (-1) (hd.at 82 rfl) rfl ?_
  refine pcN X71 hx (hd.at 83 rfl) ((feq (by decide)).1) ?_
  refine pA X71 hx (hd.at 84 rfl) rfl rfl ?_
  refine pi X71 hx (hd.at 85 rfl) rfl ?_
  refine pA X71 hx (hd.at 86 rfl) rfl rfl ?_
  refine pF X71 hx hZ hown (wd hw 63 rfl) e71 f86.2.2.1 (hd.at 87 rfl) fun T87 X87 e87 => ?_
  refine pC X87 hx 1 (hd.at 88 rfl) rfl ?_
  obtain ⟨u88, u89, u90, u91, u92, u93, u94, u95, u96, u97, u98, u99, u100, u101⟩ := id BB50_0
  have f102 : OTM Z h71 t mm (0 : Int64) := ⟨u88, u93, u99⟩
  clear u89 u90 u91 u92 u94 u95 u96 u97 u98 u100 u101
  refine pgN (own_private X87 hx hZ (y := yN4) (rm := ⟨2, 0, 0, 26⟩) (W := 0) (a := ed) (argsL := [(.int 0), (.ref t), (.int 1)]) (rest := []) hown (wd hw 65 rfl) (wd hw 66 rfl) (wd hw 67 rfl) (wd hw 107 rfl) rfl (wd hw 7 rfl) (wd hw 68 rfl) (rmOz0 l Z a0 hw ed t (1 : Int32) h71 mm (0 : Int64) f102 (by decide)) e87 f85.1 rfl (by rw [hml]; rfl) (lenOf own_pd12 rfl) rfl (by exact Nat.le_of_eq rfl) (hd.at 89 rfl) (by decide) (by decide) (by decide) (by decide)) fun T103 X103 e103 => ?_
  refine pA X103 hx (hd.at 90 rfl) rfl rfl ?_
  refine pF X103 hx hZ hown (wd hw 38 rfl) e103 f85.2.2.2.2.2.1 (hd.at 91 rfl) fun T104 X104 e104 => ?_
  refine pi X104 hx (hd.at 92 rfl) rfl ?_
  refine rI X104 hx hZ e104 f35 0 (.int 1) rfl (hd.at 93 rfl) ?_
  refine ps X104 hx #[.val (.ref ed), .val (.ref u), .val (.ref ct), .val (.ref gd), .val (.int 3), .val (.int 4), .val (.long nn), .second, .val (.double 4613937818241073152), .second, .val (.double FP.dconst1), .second, .val (.int 4), .val (.int 1)] (hd.at 94 rfl) rfl ?_
  refine pG X104 hx 161 (hd.at 95 rfl) ?_
  refine pi X104 hx (hd.at 81 rfl) rfl ?_
  refine pC X104 hx (-1) (hd.at 82 rfl) rfl ?_
  refine pcN X104 hx (hd.at 83 rfl) ((feq (by decide)).1) ?_
  refine pA X104 hx (hd.at 84 rfl) rfl rfl ?_
  refine pi X104 hx (hd.at 85 rfl) rfl ?_
  refine pA X104 hx (hd.at 86 rfl) rfl rfl ?_
  refine pF X104 hx hZ hown (wd hw 63 rfl) e104 f86.2.2.1 (hd.at 87 rfl) fun T105 X105 e105 => ?_
  refine pC X105 hx 1 (hd.at 88 rfl) rfl ?_
  have f106 : ORd Z h71 ed u ct gd px nx fu fc fg own_p3 own_n3 (FP.l2d nn) := ⟨f85.1, f85.2.1, f85.2.2.1, f85.2.2.2.1, f85.2.2.2.2.1, f85.2.2.2.2.2.1, f85.2.2.2.2.2.2.1, f85.2.2.2.2.2.2.2.1, f85.2.2.2.2.2.2.2.2.1, f85.2.2.2.2.2.2.2.2.2.1, f85.2.2.2.2.2.2.2.2.2.2.1, f85.2.2.2.2.2.2.2.2.2.2.2.1, f85.2.2.2.2.2.2.2.2.2.2.2.2, f32, f35⟩
  have n108 := Ne.symm ne_k2_mm
  have n109 := Ne.symm ne_k1_mm
  have hS_107 := (OOrd.cons g_t (allS ne_t_mm (allS ne_t_k1 (allS ne_t_k2 all0))) (OOrd.cons g_mm (allS n109 (allS n108 all0)) (OOrd.cons g_k1 (allS ne_k1_k2 all0) (OOrd.cons g_k2 all0 OOrd.nil))))
  refine pgV (own_private X105 hx hZ (y := yN4) (rm := ⟨2, 0, 0, 33⟩) (W := 0) (a := ed) (argsL := [(.int 1), (.ref t), (.int 1)]) (rest := []) hown (wd hw 65 rfl) (wd hw 66 rfl) (wd hw 67 rfl) (wd hw 107 rfl) rfl (wd hw 7 rfl) (wd hw 68 rfl) (rmOj310_1 l Z a0 hw ed t h71 n0 mm k1 k2 (0 : Int32) u ct gd px nx fu fc fg (FP.l2d nn) f106 hU hN hD BB50_0 hS_107) e105 f85.1 rfl (by rw [hml]; rfl) (lenOf own_pd12 rfl) rfl (by exact Nat.le_of_eq rfl) (hd.at 89 rfl) (by decide) (by decide) (by decide) (by decide)) fun T110 L110 X110 hQ110 => ?_
  obtain ⟨N110, K110, M_107, sz_107, hM_107, BB110_0⟩ := hQ110
  have fr110 := Fr.app fr71 N110
  have kp110 := kp71.trans K110 (allS (Or.inr kz_t) (allS (Or.inr kz_mm) all0))
  replace f32 := f32.keep K110 (ninS ne_px_t (ninS ne_px_mm nin0))
  replace f35 := f35.keep K110 (ninS ne_nx_t (ninS ne_nx_mm nin0))
  replace f85 := f85.keep K110 (ninS ne_ed_t (ninS ne_ed_mm nin0)) (ninS ne_u_t (ninS ne_u_mm nin0)) (ninS ne_ct_t (ninS ne_ct_mm nin0)) (ninS ne_gd_t (ninS ne_gd_mm nin0))
  replace f86 := f86.keep K110 (ninS ne_ed_t (ninS ne_ed_mm nin0))
  have sz110 : n0 ≤ T110.heap.size := Nat.le_trans sz71 K110.1
  rcases hM_107 with hM_107 | hM_107
  · subst hM_107
    refine pA X110 hx (hd.at 90 rfl) rfl rfl ?_
    refine pF X110 hx hZ hown (wd hw 38 rfl) rfl f85.2.2.2.2.2.1 (hd.at 91 rfl) fun T111 X111 e111 => ?_
    refine pi X111 hx (hd.at 92 rfl) rfl ?_
    refine rI X111 hx hZ e111 f35 1 (.int 2) rfl (hd.at 93 rfl) ?_
    refine ps X111 hx #[.val (.ref ed), .val (.ref u), .val (.ref ct), .val (.ref gd), .val (.int 3), .val (.int 4), .val (.long nn), .second, .val (.double 4613937818241073152), .second, .val (.double FP.dconst1), .second, .val (.int 4), .val (.int 2)] (hd.at 94 rfl) rfl ?_
    refine pG X111 hx 161 (hd.at 95 rfl) ?_
    refine pi X111 hx (hd.at 81 rfl) rfl ?_
    refine pC X111 hx (-1) (hd.at 82 rfl) rfl ?_
    refine pcN X111 hx (hd.at 83 rfl) ((feq (by decide)).1) ?_
    refine pA X111 hx (hd.at 84 rfl) rfl rfl ?_
    refine pi X111 hx (hd.at 85 rfl) rfl ?_
    refine pA X111 hx (hd.at 86 rfl) rfl rfl ?_
    refine pF X111 hx hZ hown (wd hw 63 rfl) e111 f86.2.2.1 (hd.at 87 rfl) fun T112 X112 e112 => ?_
    refine pC X112 hx 1 (hd.at 88 rfl) rfl ?_
    obtain ⟨u113, u114, u115, u116, u117, u118, u119, u120, u121, u122, u123, u124, u125, u126⟩ := id BB110_0
    have f127 : OTM Z T110.heap t mm (0 : Int64) := ⟨u113, u118, u124⟩
    clear u114 u115 u116 u117 u119 u120 u121 u122 u123 u125 u126
    refine pgN (own_private X112 hx hZ (y := yN4) (rm := ⟨2, 0, 0, 26⟩) (W := 0) (a := ed) (argsL := [(.int 2), (.ref t), (.int 1)]) (rest := []) hown (wd hw 65 rfl) (wd hw 66 rfl) (wd hw 67 rfl) (wd hw 107 rfl) rfl (wd hw 7 rfl) (wd hw 68 rfl) (rmOz2 l Z a0 hw ed t (1 : Int32) T110.heap mm (0 : Int64) nx own_n3 f127 (by decide) rfl f85.2.2.2.2.2.1 f35) e112 f85.1 rfl (by rw [hml]; rfl) (lenOf own_pd12 rfl) rfl (by exact Nat.le_of_eq rfl) (hd.at 89 rfl) (by decide) (by decide) (by decide) (by decide)) fun T128 X128 e128 => ?_
    refine pA X128 hx (hd.at 90 rfl) rfl rfl ?_
    refine pF X128 hx hZ hown (wd hw 38 rfl) e128 f85.2.2.2.2.2.1 (hd.at 91 rfl) fun T129 X129 e129 => ?_
    refine pi X129 hx (hd.at 92 rfl) rfl ?_
    refine rI X129 hx hZ e129 f35 2 (.int (-1)) rfl (hd.at 93 rfl) ?_
    refine ps X129 hx #[.val (.ref ed), .val (.ref u), .val (.ref ct), .val (.ref gd), .val (.int 3), .val (.int 4), .val (.long nn), .second, .val (.double 4613937818241073152), .second, .val (.double FP.dconst1), .second, .val (.int 4), .val (.int (-1))] (hd.at 94 rfl) rfl ?_
    refine pG X129 hx 161 (hd.at 95 rfl) ?_
    refine pi X129 hx (hd.at 81 rfl) rfl ?_
    refine pC X129 hx (-1) (hd.at 82 rfl) rfl ?_
    refine pcY X129 hx 190 (hd.at 83 rfl) ((teq rfl).1) ?_
    refine pA X129 hx (hd.at 96 rfl) rfl rfl ?_
    refine pF X129 hx hZ hown (wd hw 63 rfl) e129 f86.2.2.1 (hd.at 97 rfl) fun T130 X130 e130 => ?_
    have hS_131 := (OOrd.cons g_t (allS ne_t_mm (allS ne_t_k1 (allS ne_t_k2 all0))) (OOrd.cons g_mm (allS n109 (allS n108 all0)) (OOrd.cons g_k1 (allS ne_k1_k2 all0) (OOrd.cons g_k2 all0 OOrd.nil))))
    refine pgV (own_virtual X130 hx hZ (y := yN7) (z := yN7) (rm := ⟨9, 2, 4, 156⟩) (W := 0) (a := t) (argsL := []) (rest := []) hown (wd hw 79 rfl) (wd hw 80 rfl) (notFace_of_selects (args := #[]) (mvT hZ (wd hw 82 rfl))) (wd hw 82 rfl) (wd hw 81 rfl) (wd hw 42 rfl) (wd hw 83 rfl) (rmPl l Z a0 hw t T110.heap n0 mm k1 k2 ed sz_107 (0 : Int64) (fun r => r = (-1 : Int32)) sz110 BB110_0 hS_131 (fun h1 fa fk K B' hS' => rmSc00 l Z a0 hw t h1 n0 mm fa fk k1 k2 ed sz_107 0 0 0 0 0 B' hS')) e130 BB110_0.1 rfl (by rw [hml]; rfl) (lenOf own_pd15 rfl) rfl (by exact Nat.le_of_eq rfl) (hd.at 98 rfl) (by decide) (by decide) (by decide) (by decide)) fun T132 L132 X132 hQ132 => ?_
    obtain ⟨N132, K132, fa, fk, rx, d0x, d1x, ge_fa, ge_fk, ne_fa_fk, hrx, BB132_0⟩ := hQ132
    have ne_ct_fa : ct ≠ fa := Nat.ne_of_lt (Nat.lt_of_lt_of_le f85.2.2.2.2.2.2.2.2.2.2.2.1.lt ge_fa)
    have ne_ed_fa : ed ≠ fa := Nat.ne_of_lt (Nat.lt_of_lt_of_le f85.1.lt ge_fa)
    have ne_gd_fa : gd ≠ fa := Nat.ne_of_lt (Nat.lt_of_lt_of_le f85.2.2.2.2.2.2.2.2.2.2.2.2.lt ge_fa)
    have ne_k1_fa : k1 ≠ fa := Nat.ne_of_lt (Nat.lt_of_lt_of_le BB110_0.2.2.2.2.2.2.2.2.2.2.2.2.1.lt ge_fa)
    have ne_k2_fa : k2 ≠ fa := Nat.ne_of_lt (Nat.lt_of_lt_of_le BB110_0.2.2.2.2.2.2.2.2.2.2.2.2.2.lt ge_fa)
    have ne_mm_fa : mm ≠ fa := Nat.ne_of_lt (Nat.lt_of_lt_of_le BB110_0.2.2.2.2.2.2.2.2.2.2.2.1.lt ge_fa)
    have ne_nx_fa : nx ≠ fa := Nat.ne_of_lt (Nat.lt_of_lt_of_le f35.lt ge_fa)
    have ne_px_fa : px ≠ fa := Nat.ne_of_lt (Nat.lt_of_lt_of_le f32.lt ge_fa)
    have ne_t_fa : t ≠ fa := Nat.ne_of_lt (Nat.lt_of_lt_of_le BB110_0.1.lt ge_fa)
    have ne_u_fa : u ≠ fa := Nat.ne_of_lt (Nat.lt_of_lt_of_le f85.2.2.2.2.2.2.2.2.2.2.1.lt ge_fa)
    have g_fa : n0 ≤ fa := Nat.le_trans sz110 ge_fa
    have kz_fa := Nat.le_trans kp110.1 ge_fa
    have ne_ct_fk : ct ≠ fk := Nat.ne_of_lt (Nat.lt_of_lt_of_le f85.2.2.2.2.2.2.2.2.2.2.2.1.lt ge_fk)
    have ne_ed_fk : ed ≠ fk := Nat.ne_of_lt (Nat.lt_of_lt_of_le f85.1.lt ge_fk)
    have ne_gd_fk : gd ≠ fk := Nat.ne_of_lt (Nat.lt_of_lt_of_le f85.2.2.2.2.2.2.2.2.2.2.2.2.lt ge_fk)
    have ne_k1_fk : k1 ≠ fk := Nat.ne_of_lt (Nat.lt_of_lt_of_le BB110_0.2.2.2.2.2.2.2.2.2.2.2.2.1.lt ge_fk)
    have ne_k2_fk : k2 ≠ fk := Nat.ne_of_lt (Nat.lt_of_lt_of_le BB110_0.2.2.2.2.2.2.2.2.2.2.2.2.2.lt ge_fk)
    have ne_mm_fk : mm ≠ fk := Nat.ne_of_lt (Nat.lt_of_lt_of_le BB110_0.2.2.2.2.2.2.2.2.2.2.2.1.lt ge_fk)
    have ne_nx_fk : nx ≠ fk := Nat.ne_of_lt (Nat.lt_of_lt_of_le f35.lt ge_fk)
    have ne_px_fk : px ≠ fk := Nat.ne_of_lt (Nat.lt_of_lt_of_le f32.lt ge_fk)
    have ne_t_fk : t ≠ fk := Nat.ne_of_lt (Nat.lt_of_lt_of_le BB110_0.1.lt ge_fk)
    have ne_u_fk : u ≠ fk := Nat.ne_of_lt (Nat.lt_of_lt_of_le f85.2.2.2.2.2.2.2.2.2.2.1.lt ge_fk)
    have g_fk : n0 ≤ fk := Nat.le_trans sz110 ge_fk
    have kz_fk := Nat.le_trans kp110.1 ge_fk
    have fr132 := Fr.app fr110 N132
    have kp132 := kp110.trans K132 (allS (Or.inr kz_t) all0)
    replace f32 := f32.keep K132 (ninS ne_px_t nin0)
    replace f35 := f35.keep K132 (ninS ne_nx_t nin0)
    replace f85 := f85.keep K132 (ninS ne_ed_t nin0) (ninS ne_u_t nin0) (ninS ne_ct_t nin0) (ninS ne_gd_t nin0)
    replace f86 := f86.keep K132 (ninS ne_ed_t nin0)
    have sz132 : n0 ≤ T132.heap.size := Nat.le_trans sz110 K132.1
    have f133 : ORd Z T132.heap ed u ct gd px nx fu fc fg own_p3 own_n3 (FP.l2d nn) := ⟨f85.1, f85.2.1, f85.2.2.1, f85.2.2.2.1, f85.2.2.2.2.1, f85.2.2.2.2.2.1, f85.2.2.2.2.2.2.1, f85.2.2.2.2.2.2.2.1, f85.2.2.2.2.2.2.2.2.1, f85.2.2.2.2.2.2.2.2.2.1, f85.2.2.2.2.2.2.2.2.2.2.1, f85.2.2.2.2.2.2.2.2.2.2.2.1, f85.2.2.2.2.2.2.2.2.2.2.2.2, f32, f35⟩
    have f134 : OEw Z T132.heap ed t (3 : Int32) .null := ⟨f86.1, f86.2.1, f86.2.2.1, f86.2.2.2.1, f86.2.2.2.2⟩
    have n135 := Ne.symm ne_k2_fa
    have n136 := Ne.symm ne_k1_fa
    have n137 := Ne.symm ne_k2_fk
    have n138 := Ne.symm ne_k1_fk
    exact own_retV X132 hx hret hlk (hd.at 99 rfl) (by decide) (by decide) (by show _ ∧ _ ∧ Keep h0 T132.heap _ ∧ _; exact ⟨rfl, fr132, kp132, px, nx, t, mm, fa, fk, k1, k2, (0 : Int64), sz_107, rx, d0x, d1x, Or.inl ⟨rfl, hrx⟩, (OOrd.cons kz_px (allS n9 (allS ne_px_t (allS ne_px_mm (allS ne_px_fa (allS ne_px_fk (allS ne_px_k1 (allS ne_px_k2 all0))))))) (OOrd.cons kz_nx (allS ne_nx_t (allS ne_nx_mm (allS ne_nx_fa (allS ne_nx_fk (allS ne_nx_k1 (allS ne_nx_k2 all0)))))) (OOrd.cons kz_t (allS ne_t_mm (allS ne_t_fa (allS ne_t_fk (allS ne_t_k1 (allS ne_t_k2 all0))))) (OOrd.cons kz_mm (allS ne_mm_fa (allS ne_mm_fk (allS n109 (allS n108 all0)))) (OOrd.cons kz_fa (allS ne_fa_fk (allS n136 (allS n135 all0))) (OOrd.cons kz_fk (allS n138 (allS n137 all0)) (OOrd.cons kz_k1 (allS ne_k1_k2 all0) (OOrd.cons kz_k2 all0 OOrd.nil)))))))), f133, f134, BB132_0⟩)
  · subst hM_107
    refine pA X110 hx (hd.at 90 rfl) rfl rfl ?_
    refine pF X110 hx hZ hown (wd hw 38 rfl) rfl f85.2.2.2.2.2.1 (hd.at 91 rfl) fun T139 X139 e139 => ?_
    refine pi X139 hx (hd.at 92 rfl) rfl ?_
    refine rI X139 hx hZ e139 f35 1 (.int 2) rfl (hd.at 93 rfl) ?_
    refine ps X139 hx #[.val (.ref ed), .val (.ref u), .val (.ref ct), .val (.ref gd), .val (.int 3), .val (.int 4), .val (.long nn), .second, .val (.double 4613937818241073152), .second, .val (.double FP.dconst1), .second, .val (.int 4), .val (.int 2)] (hd.at 94 rfl) rfl ?_
    refine pG X139 hx 161 (hd.at 95 rfl) ?_
    refine pi X139 hx (hd.at 81 rfl) rfl ?_
    refine pC X139 hx (-1) (hd.at 82 rfl) rfl ?_
    refine pcN X139 hx (hd.at 83 rfl) ((feq (by decide)).1) ?_
    refine pA X139 hx (hd.at 84 rfl) rfl rfl ?_
    refine pi X139 hx (hd.at 85 rfl) rfl ?_
    refine pA X139 hx (hd.at 86 rfl) rfl rfl ?_
    refine pF X139 hx hZ hown (wd hw 63 rfl) e139 f86.2.2.1 (hd.at 87 rfl) fun T140 X140 e140 => ?_
    refine pC X140 hx 1 (hd.at 88 rfl) rfl ?_
    obtain ⟨u141, u142, u143, u144, u145, u146, u147, u148, u149, u150, u151, u152, u153, u154⟩ := id BB110_0
    have f155 : OTM Z T110.heap t mm (2 : Int64) := ⟨u141, u146, u152⟩
    clear u142 u143 u144 u145 u147 u148 u149 u150 u151 u153 u154
    refine pgN (own_private X140 hx hZ (y := yN4) (rm := ⟨2, 0, 0, 26⟩) (W := 0) (a := ed) (argsL := [(.int 2), (.ref t), (.int 1)]) (rest := []) hown (wd hw 65 rfl) (wd hw 66 rfl) (wd hw 67 rfl) (wd hw 107 rfl) rfl (wd hw 7 rfl) (wd hw 68 rfl) (rmOz2 l Z a0 hw ed t (1 : Int32) T110.heap mm (2 : Int64) nx own_n3 f155 (by decide) rfl f85.2.2.2.2.2.1 f35) e140 f85.1 rfl (by rw [hml]; rfl) (lenOf own_pd12 rfl) rfl (by exact Nat.le_of_eq rfl) (hd.at 89 rfl) (by decide) (by decide) (by decide) (by decide)) fun T156 X156 e156 => ?_
    refine pA X156 hx (hd.at 90 rfl) rfl rfl ?_
    refine pF X156 hx hZ hown (wd hw 38 rfl) e156 f85.2.2.2.2.2.1 (hd.at 91 rfl) fun T157 X157 e157 => ?_
    refine pi X157 hx (hd.at 92 rfl) rfl ?_
    refine rI X157 hx hZ e157 f35 2 (.int (-1)) rfl (hd.at 93 rfl) ?_
    refine ps X157 hx #[.val (.ref ed), .val (.ref u), .val (.ref ct), .val (.ref gd), .val (.int 3), .val (.int 4), .val (.long nn), .second, .val (.double 4613937818241073152), .second, .val (.double FP.dconst1), .second, .val (.int 4), .val (.int (-1))] (hd.at 94 rfl) rfl ?_
    refine pG X157 hx 161 (hd.at 95 rfl) ?_
    refine pi X157 hx (hd.at 81 rfl) rfl ?_
    refine pC X157 hx (-1) (hd.at 82 rfl) rfl ?_
    refine pcY X157 hx 190 (hd.at 83 rfl) ((teq rfl).1) ?_
    refine pA X157 hx (hd.at 96 rfl) rfl rfl ?_
    refine pF X157 hx hZ hown (wd hw 63 rfl) e157 f86.2.2.1 (hd.at 97 rfl) fun T158 X158 e158 => ?_
    have hS_159 := (OOrd.cons g_t (allS ne_t_mm (allS ne_t_k1 (allS ne_t_k2 all0))) (OOrd.cons g_mm (allS n109 (allS n108 all0)) (OOrd.cons g_k1 (allS ne_k1_k2 all0) (OOrd.cons g_k2 all0 OOrd.nil))))
    have f160 : ORd Z T110.heap ed u ct gd px nx fu fc fg own_p3 own_n3 (FP.l2d nn) := ⟨f85.1, f85.2.1, f85.2.2.1, f85.2.2.2.1, f85.2.2.2.2.1, f85.2.2.2.2.2.1, f85.2.2.2.2.2.2.1, f85.2.2.2.2.2.2.2.1, f85.2.2.2.2.2.2.2.2.1, f85.2.2.2.2.2.2.2.2.2.1, f85.2.2.2.2.2.2.2.2.2.2.1, f85.2.2.2.2.2.2.2.2.2.2.2.1, f85.2.2.2.2.2.2.2.2.2.2.2.2, f32, f35⟩
    refine pgV (own_virtual X158 hx hZ (y := yN7) (z := yN7) (rm := ⟨9, 2, 4, 156⟩) (W := 0) (a := t) (argsL := []) (rest := []) hown (wd hw 79 rfl) (wd hw 80 rfl) (notFace_of_selects (args := #[]) (mvT hZ (wd hw 82 rfl))) (wd hw 82 rfl) (wd hw 81 rfl) (wd hw 42 rfl) (wd hw 83 rfl) (rmPl l Z a0 hw t T110.heap n0 mm k1 k2 ed sz_107 (2 : Int64) (fun r => r = (1 : Int32)) sz110 BB110_0 hS_159 (fun h1 fa fk K B' hS' => rmSc32 l Z a0 hw t h1 n0 mm fa fk k1 k2 ed sz_107 0 0 0 0 0 B' hS' (f160.keep K (ninS ne_ed_t nin0) (ninS ne_u_t nin0) (ninS ne_ct_t nin0) (ninS ne_gd_t nin0) (ninS ne_px_t nin0) (ninS ne_nx_t nin0)).1 (rmJE31 l Z a0 hw ed h1 u ct gd px nx fu fc fg (FP.l2d nn) (f160.keep K (ninS ne_ed_t nin0) (ninS ne_u_t nin0) (ninS ne_ct_t nin0) (ninS ne_gd_t nin0) (ninS ne_px_t nin0) (ninS ne_nx_t nin0)) hU hN hD))) e158 BB110_0.1 rfl (by rw [hml]; rfl) (lenOf own_pd15 rfl) rfl (by exact Nat.le_of_eq rfl) (hd.at 98 rfl) (by decide) (by decide) (by decide) (by decide)) fun T161 L161 X161 hQ161 => ?_
    obtain ⟨N161, K161, fa, fk, rx, d0x, d1x, ge_fa, ge_fk, ne_fa_fk, hrx, BB161_0⟩ := hQ161
    have ne_ct_fa : ct ≠ fa := Nat.ne_of_lt (Nat.lt_of_lt_of_le f85.2.2.2.2.2.2.2.2.2.2.2.1.lt ge_fa)
    have ne_ed_fa : ed ≠ fa := Nat.ne_of_lt (Nat.lt_of_lt_of_le f85.1.lt ge_fa)
    have ne_gd_fa : gd ≠ fa := Nat.ne_of_lt (Nat.lt_of_lt_of_le f85.2.2.2.2.2.2.2.2.2.2.2.2.lt ge_fa)
    have ne_k1_fa : k1 ≠ fa := Nat.ne_of_lt (Nat.lt_of_lt_of_le BB110_0.2.2.2.2.2.2.2.2.2.2.2.2.1.lt ge_fa)
    have ne_k2_fa : k2 ≠ fa := Nat.ne_of_lt (Nat.lt_of_lt_of_le BB110_0.2.2.2.2.2.2.2.2.2.2.2.2.2.lt ge_fa)
    have ne_mm_fa : mm ≠ fa := Nat.ne_of_lt (Nat.lt_of_lt_of_le BB110_0.2.2.2.2.2.2.2.2.2.2.2.1.lt ge_fa)
    have ne_nx_fa : nx ≠ fa := Nat.ne_of_lt (Nat.lt_of_lt_of_le f35.lt ge_fa)
    have ne_px_fa : px ≠ fa := Nat.ne_of_lt (Nat.lt_of_lt_of_le f32.lt ge_fa)
    have ne_t_fa : t ≠ fa := Nat.ne_of_lt (Nat.lt_of_lt_of_le BB110_0.1.lt ge_fa)
    have ne_u_fa : u ≠ fa := Nat.ne_of_lt (Nat.lt_of_lt_of_le f85.2.2.2.2.2.2.2.2.2.2.1.lt ge_fa)
    have g_fa : n0 ≤ fa := Nat.le_trans sz110 ge_fa
    have kz_fa := Nat.le_trans kp110.1 ge_fa
    have ne_ct_fk : ct ≠ fk := Nat.ne_of_lt (Nat.lt_of_lt_of_le f85.2.2.2.2.2.2.2.2.2.2.2.1.lt ge_fk)
    have ne_ed_fk : ed ≠ fk := Nat.ne_of_lt (Nat.lt_of_lt_of_le f85.1.lt ge_fk)
    have ne_gd_fk : gd ≠ fk := Nat.ne_of_lt (Nat.lt_of_lt_of_le f85.2.2.2.2.2.2.2.2.2.2.2.2.lt ge_fk)
    have ne_k1_fk : k1 ≠ fk := Nat.ne_of_lt (Nat.lt_of_lt_of_le BB110_0.2.2.2.2.2.2.2.2.2.2.2.2.1.lt ge_fk)
    have ne_k2_fk : k2 ≠ fk := Nat.ne_of_lt (Nat.lt_of_lt_of_le BB110_0.2.2.2.2.2.2.2.2.2.2.2.2.2.lt ge_fk)
    have ne_mm_fk : mm ≠ fk := Nat.ne_of_lt (Nat.lt_of_lt_of_le BB110_0.2.2.2.2.2.2.2.2.2.2.2.1.lt ge_fk)
    have ne_nx_fk : nx ≠ fk := Nat.ne_of_lt (Nat.lt_of_lt_of_le f35.lt ge_fk)
    have ne_px_fk : px ≠ fk := Nat.ne_of_lt (Nat.lt_of_lt_of_le f32.lt ge_fk)
    have ne_t_fk : t ≠ fk := Nat.ne_of_lt (Nat.lt_of_lt_of_le BB110_0.1.lt ge_fk)
    have ne_u_fk : u ≠ fk := Nat.ne_of_lt (Nat.lt_of_lt_of_le f85.2.2.2.2.2.2.2.2.2.2.1.lt ge_fk)
    have g_fk : n0 ≤ fk := Nat.le_trans sz110 ge_fk
    have kz_fk := Nat.le_trans kp110.1 ge_fk
    have fr161 := Fr.app fr110 N161
    have kp161 := kp110.trans K161 (allS (Or.inr kz_t) all0)
    replace f32 := f32.keep K161 (ninS ne_px_t nin0)
    replace f35 := f35.keep K161 (ninS ne_nx_t nin0)
    replace f85 := f85.keep K161 (ninS ne_ed_t nin0) (ninS ne_u_t nin0) (ninS ne_ct_t nin0) (ninS ne_gd_t nin0)
    replace f86 := f86.keep K161 (ninS ne_ed_t nin0)
    have sz161 : n0 ≤ T161.heap.size := Nat.le_trans sz110 K161.1
    have f162 : ORd Z T161.heap ed u ct gd px nx fu fc fg own_p3 own_n3 (FP.l2d nn) := ⟨f85.1, f85.2.1, f85.2.2.1, f85.2.2.2.1, f85.2.2.2.2.1, f85.2.2.2.2.2.1, f85.2.2.2.2.2.2.1, f85.2.2.2.2.2.2.2.1, f85.2.2.2.2.2.2.2.2.1, f85.2.2.2.2.2.2.2.2.2.1, f85.2.2.2.2.2.2.2.2.2.2.1, f85.2.2.2.2.2.2.2.2.2.2.2.1, f85.2.2.2.2.2.2.2.2.2.2.2.2, f32, f35⟩
    have f163 : OEw Z T161.heap ed t (3 : Int32) .null := ⟨f86.1, f86.2.1, f86.2.2.1, f86.2.2.2.1, f86.2.2.2.2⟩
    have n164 := Ne.symm ne_k2_fa
    have n165 := Ne.symm ne_k1_fa
    have n166 := Ne.symm ne_k2_fk
    have n167 := Ne.symm ne_k1_fk
    exact own_retV X161 hx hret hlk (hd.at 99 rfl) (by decide) (by decide) (by show _ ∧ _ ∧ Keep h0 T161.heap _ ∧ _; exact ⟨rfl, fr161, kp161, px, nx, t, mm, fa, fk, k1, k2, (2 : Int64), sz_107, rx, d0x, d1x, Or.inr ⟨rfl, hrx⟩, (OOrd.cons kz_px (allS n9 (allS ne_px_t (allS ne_px_mm (allS ne_px_fa (allS ne_px_fk (allS ne_px_k1 (allS ne_px_k2 all0))))))) (OOrd.cons kz_nx (allS ne_nx_t (allS ne_nx_mm (allS ne_nx_fa (allS ne_nx_fk (allS ne_nx_k1 (allS ne_nx_k2 all0)))))) (OOrd.cons kz_t (allS ne_t_mm (allS ne_t_fa (allS ne_t_fk (allS ne_t_k1 (allS ne_t_k2 all0))))) (OOrd.cons kz_mm (allS ne_mm_fa (allS ne_mm_fk (allS n109 (allS n108 all0)))) (OOrd.cons kz_fa (allS ne_fa_fk (allS n165 (allS n164 all0))) (OOrd.cons kz_fk (allS n167 (allS n166 all0)) (OOrd.cons kz_k1 (allS ne_k1_k2 all0) (OOrd.cons kz_k2 all0 OOrd.nil)))))))), f162, f163, BB161_0⟩)
set_option maxRecDepth 65536 in
set_option maxHeartbeats 40000000 in
theorem rmIn4 (l : Launch) (Z : State) (a0 : Array Value) (hw : ∀ d ∈ tables_1, d.before a0 Z = true) (ed : Addr) (u : Addr) (ct : Addr) (gd : Addr) (nn : Int64) (h0 : Heap) (n0 : Nat) (fu fc : Nat → UInt64) (fg : Nat → Int32) (Z0 : n0 ≤ h0.size) (B : OE0 Z h0 ed) (A_u : OArr Z h0 u .double 4 (fun i => .double (fu i))) (A_c : OArr Z h0 ct .double 4 (fun i => .double (fc i))) (A_g : OArr Z h0 gd .boolean 4 (fun i => .int (fg i))) (hU : OUp fu) (hN : OCn fc) (hS : OOrd n0 [ed, u, ct, gd]) :
    OMet l Z yN1 prog_72_method_1_code 14 none (⟨12, 8, 25, 3100⟩ : Room) #[(.ref ed), (.ref u), (.ref ct), (.ref gd), (.int 4), (.int 4), (.long nn), (.double 4613937818241073152), (.double FP.dconst1)] h0 (fun v h L => v = none ∧ Fr n0 L ∧ Keep h0 h [ed] ∧ ∃ nx, h0.size ≤ nx ∧ OWr Z h ed u ct gd nx fu fc fg own_n4) := by
  refine own_enter own_pn1 ?_
  intro p e s m below meth c T0 X0 hC e0 hnamed
  have hC0 := hC
  obtain ⟨hx, hZH, hby, hml, hown, hret, hlk, hnm⟩ := hC
  have hZ := hZH.wide
  have hown : s.vm.findClass "com/example/rankfold/rankfold/summaries/BucketEditor" = some m.cls := hown
  refine own_at (own_ef1_RRRRIIJDD m ed u ct gd (4 : Int32) (4 : Int32) nn (4613937818241073152 : UInt64) FP.dconst1) ?_
  have hd := D1.to hby
  have hD := Jvm.Free.Fl.l2d_mag nn
  refine lpInP hw hC0 X0 e0 n0 ed u ct gd (4 : Int32) nn fu fc fg Z0 B A_u A_c A_g hS fun T1 L1 h1 px nx X1 e1 fr1 kp1 sz1 kz_px kz_nx hS1 B1 f1 f2 B2 => ?_
  refine pi X1 hx (hd.at 46 rfl) rfl ?_
  refine pi X1 hx (hd.at 47 rfl) rfl ?_
  refine pcN X1 hx (hd.at 48 rfl) ((tlt (by decide)).2.1) ?_
  refine pA X1 hx (hd.at 49 rfl) rfl rfl ?_
  refine pF X1 hx hZ hown (wd hw 36 rfl) e1 B1.2.2.2.2.1 (hd.at 50 rfl) fun T6 X6 e6 => ?_
  refine pi X6 hx (hd.at 51 rfl) rfl ?_
  refine pi X6 hx (hd.at 52 rfl) rfl ?_
  refine pC X6 hx 1 (hd.at 53 rfl) rfl ?_
  refine o_isub X6 hx (hd.at 54 rfl) ?_
  rw [show (((0 : Int32) - (1 : Int32))) = (-1 : Int32) from by decide]
  refine wI X6 hx hZ e6 f1 0 (hd.at 55 rfl) fun T7 h7 X7 e7 W7 V7 => ?_
  have f8 : OArr Z h7 px .int 4 (fun i => .int ((own_q4 (-1 : Int32) (0 : Int32) (0 : Int32) (0 : Int32)) i)) := V7.congr (own_lt4 rfl rfl rfl rfl)
  have n9 := hS1.ne 4 5
  have n10 := Ne.symm n9
  replace f2 := f2.other W7 n10
  have n11 := hS1.ne 0 4
  have n12 := hS1.ne 1 4
  have n13 := hS1.ne 2 4
  have n14 := hS1.ne 3 4
  have f15 := B1.keep (Keep.of_wr W7) (ninS n11 nin0) (ninS n12 nin0) (ninS n13 nin0) (ninS n14 nin0)
  have f16 := B2.keep (Keep.of_wr W7) (ninS n11 nin0)
  have sz7 : n0 ≤ h7.size := by rw [W7.size]; exact sz1
  have fr7 := Fr.snoc X7 fr1 (hS1.ge 4 rfl)
  have kp7 := kp1.wr W7 (Or.inr kz_px)
  refine pA X7 hx (hd.at 56 rfl) rfl rfl ?_
  refine pF X7 hx hZ hown (wd hw 38 rfl) e7 f15.2.2.2.2.2.1 (hd.at 57 rfl) fun T17 X17 e17 => ?_
  refine pi X17 hx (hd.at 58 rfl) rfl ?_
  refine pi X17 hx (hd.at 59 rfl) rfl ?_
  refine pC X17 hx 1 (hd.at 60 rfl) rfl ?_
  refine o_iadd X17 hx (hd.at 61 rfl) ?_
  refine pi X17 hx (hd.at 62 rfl) rfl ?_
  refine pcN X17 hx (hd.at 63 rfl) ((tlt (by decide)).2.1) ?_
  refine pi X17 hx (hd.at 100 rfl) rfl ?_
  refine pC X17 hx 1 (hd.at 101 rfl) rfl ?_
  refine o_iadd X17 hx (hd.at 102 rfl) ?_
  refine pG X17 hx 125 (hd.at 103 rfl) ?_
  rw [show (((0 : Int32) + (1 : Int32))) = (1 : Int32) from by decide]
  refine wI X17 hx hZ e17 f2 0 (hd.at 65 rfl) fun T18 h18 X18 e18 W18 V18 => ?_
  have f19 : OArr Z h18 nx .int 4 (fun i => .int ((own_q4 (1 : Int32) (0 : Int32) (0 : Int32) (0 : Int32)) i)) := V18.congr (own_lt4 rfl rfl rfl rfl)
  replace f8 := f8.other W18 n9
  have n20 := hS1.ne 0 5
  have n21 := hS1.ne 1 5
  have n22 := hS1.ne 2 5
  have n23 := hS1.ne 3 5
  replace f15 := f15.keep (Keep.of_wr W18) (ninS n20 nin0) (ninS n21 nin0) (ninS n22 nin0) (ninS n23 nin0)
  replace f16 := f16.keep (Keep.of_wr W18) (ninS n20 nin0)
  have sz18 : n0 ≤ h18.size := by rw [W18.size]; exact sz7
  have fr18 := Fr.snoc X18 fr7 (hS1.ge 5 rfl)
  have kp18 := kp7.wr W18 (Or.inr kz_nx)
  refine pN X18 hx (1 : Int32) #[.val (.ref ed), .val (.ref u), .val (.ref ct), .val (.ref gd), .val (.int 4), .val (.int 4), .val (.long nn), .second, .val (.double 4613937818241073152), .second, .val (.double FP.dconst1), .second, .val (.int 4), .val (.int 1)] (hd.at 66 rfl) rfl (by decide) rfl ?_
  refine pG X18 hx 84 (hd.at 67 rfl) ?_
  refine pi X18 hx (hd.at 46 rfl) rfl ?_
  refine pi X18 hx (hd.at 47 rfl) rfl ?_
  refine pcN X18 hx (hd.at 48 rfl) ((tlt (by decide)).2.1) ?_
  refine pA X18 hx (hd.at 49 rfl) rfl rfl ?_
  refine pF X18 hx hZ hown (wd hw 36 rfl) e18 f15.2.2.2.2.1 (hd.at 50 rfl) fun T24 X24 e24 => ?_
  refine pi X24 hx (hd.at 51 rfl) rfl ?_
  refine pi X24 hx (hd.at 52 rfl) rfl ?_
  refine pC X24 hx 1 (hd.at 53 rfl) rfl ?_
  refine o_isub X24 hx (hd.at 54 rfl) ?_
  rw [show (((1 : Int32) - (1 : Int32))) = (0 : Int32) from by decide]
  refine wI X24 hx hZ e24 f8 1 (hd.at 55 rfl) fun T25 h25 X25 e25 W25 V25 => ?_
  have f26 : OArr Z h25 px .int 4 (fun i => .int ((own_q4 (-1 : Int32) (0 : Int32) (0 : Int32) (0 : Int32)) i)) := V25.congr (own_lt4 rfl rfl rfl rfl)
  replace f19 := f19.other W25 n10
  replace f15 := f15.keep (Keep.of_wr W25) (ninS n11 nin0) (ninS n12 nin0) (ninS n13 nin0) (ninS n14 nin0)
  replace f16 := f16.keep (Keep.of_wr W25) (ninS n11 nin0)
  have sz25 : n0 ≤ h25.size := by rw [W25.size]; exact sz18
  have fr25 := Fr.snoc X25 fr18 (hS1.ge 4 rfl)
  have kp25 := kp18.wr W25 (Or.inr kz_px)
  refine pA X25 hx (hd.at 56 rfl) rfl rfl ?_
  refine pF X25 hx hZ hown (wd hw 38 rfl) e25 f15.2.2.2.2.2.1 (hd.at 57 rfl) fun T27 X27 e27 => ?_
  refine pi X27 hx (hd.at 58 rfl) rfl ?_
  refine pi X27 hx (hd.at 59 rfl) rfl ?_
  refine pC X27 hx 1 (hd.at 60 rfl) rfl ?_
  refine o_iadd X27 hx (hd.at 61 rfl) ?_
  refine pi X27 hx (hd.at 62 rfl) rfl ?_
  refine pcN X27 hx (hd.at 63 rfl) ((tlt (by decide)).2.1) ?_
  refine pi X27 hx (hd.at 100 rfl) rfl ?_
  refine pC X27 hx 1 (hd.at 101 rfl) rfl ?_
  refine o_iadd X27 hx (hd.at 102 rfl) ?_
  refine pG X27 hx 125 (hd.at 103 rfl) ?_
  rw [show (((1 : Int32) + (1 : Int32))) = (2 : Int32) from by decide]
  refine wI X27 hx hZ e27 f19 1 (hd.at 65 rfl) fun T28 h28 X28 e28 W28 V28 => ?_
  have f29 : OArr Z h28 nx .int 4 (fun i => .int ((own_q4 (1 : Int32) (2 : Int32) (0 : Int32) (0 : Int32)) i)) := V28.congr (own_lt4 rfl rfl rfl rfl)
  replace f26 := f26.other W28 n9
  replace f15 := f15.keep (Keep.of_wr W28) (ninS n20 nin0) (ninS n21 nin0) (ninS n22 nin0) (ninS n23 nin0)
  replace f16 := f16.keep (Keep.of_wr W28) (ninS n20 nin0)
  have sz28 : n0 ≤ h28.size := by rw [W28.size]; exact sz25
  have fr28 := Fr.snoc X28 fr25 (hS1.ge 5 rfl)
  have kp28 := kp25.wr W28 (Or.inr kz_nx)
  refine pN X28 hx (2 : Int32) #[.val (.ref ed), .val (.ref u), .val (.ref ct), .val (.ref gd), .val (.int 4), .val (.int 4), .val (.long nn), .second, .val (.double 4613937818241073152), .second, .val (.double FP.dconst1), .second, .val (.int 4), .val (.int 2)] (hd.at 66 rfl) rfl (by decide) rfl ?_
  refine pG X28 hx 84 (hd.at 67 rfl) ?_
  refine pi X28 hx (hd.at 46 rfl) rfl ?_
  refine pi X28 hx (hd.at 47 rfl) rfl ?_
  refine pcN X28 hx (hd.at 48 rfl) ((tlt (by decide)).2.1) ?_
  refine pA X28 hx (hd.at 49 rfl) rfl rfl ?_
  refine pF X28 hx hZ hown (wd hw 36 rfl) e28 f15.2.2.2.2.1 (hd.at 50 rfl) fun T30 X30 e30 => ?_
  refine pi X30 hx (hd.at 51 rfl) rfl ?_
  refine pi X30 hx (hd.at 52 rfl) rfl ?_
  refine pC X30 hx 1 (hd.at 53 rfl) rfl ?_
  refine o_isub X30 hx (hd.at 54 rfl) ?_
  rw [show (((2 : Int32) - (1 : Int32))) = (1 : Int32) from by decide]
  refine wI X30 hx hZ e30 f26 2 (hd.at 55 rfl) fun T31 h31 X31 e31 W31 V31 => ?_
  have f32 : OArr Z h31 px .int 4 (fun i => .int ((own_q4 (-1 : Int32) (0 : Int32) (1 : Int32) (0 : Int32)) i)) := V31.congr (own_lt4 rfl rfl rfl rfl)
  replace f29 := f29.other W31 n10
  replace f15 := f15.keep (Keep.of_wr W31) (ninS n11 nin0) (ninS n12 nin0) (ninS n13 nin0) (ninS n14 nin0)
  replace f16 := f16.keep (Keep.of_wr W31) (ninS n11 nin0)
  have sz31 : n0 ≤ h31.size := by rw [W31.size]; exact sz28
  have fr31 := Fr.snoc X31 fr28 (hS1.ge 4 rfl)
  have kp31 := kp28.wr W31 (Or.inr kz_px)
  refine pA X31 hx (hd.at 56 rfl) rfl rfl ?_
  refine pF X31 hx hZ hown (wd hw 38 rfl) e31 f15.2.2.2.2.2.1 (hd.at 57 rfl) fun T33 X33 e33 => ?_
  refine pi X33 hx (hd.at 58 rfl) rfl ?_
  refine pi X33 hx (hd.at 59 rfl) rfl ?_
  refine pC X33 hx 1 (hd.at 60 rfl) rfl ?_
  refine o_iadd X33 hx (hd.at 61 rfl) ?_
  refine pi X33 hx (hd.at 62 rfl) rfl ?_
  refine pcN X33 hx (hd.at 63 rfl) ((tlt (by decide)).2.1) ?_
  refine pi X33 hx (hd.at 100 rfl) rfl ?_
  refine pC X33 hx 1 (hd.at 101 rfl) rfl ?_
  refine o_iadd X33 hx (hd.at 102 rfl) ?_
  refine pG X33 hx 125 (hd.at 103 rfl) ?_
  rw [show (((2 : Int32) + (1 : Int32))) = (3 : Int32) from by decide]
  refine wI X33 hx hZ e33 f29 2 (hd.at 65 rfl) fun T34 h34 X34 e34 W34 V34 => ?_
  have f35 : OArr Z h34 nx .int 4 (fun i => .int ((own_q4 (1 : Int32) (2 : Int32) (3 : Int32) (0 : Int32)) i)) := V34.congr (own_lt4 rfl rfl rfl rfl)
  replace f32 := f32.other W34 n9
  replace f15 := f15.keep (Keep.of_wr W34) (ninS n20 nin0) (ninS n21 nin0) (ninS n22 nin0) (ninS n23 nin0)
  replace f16 := f16.keep (Keep.of_wr W34) (ninS n20 nin0)
  have sz34 : n0 ≤ h34.size := by rw [W34.size]; exact sz31
  have fr34 := Fr.snoc X34 fr31 (hS1.ge 5 rfl)
  have kp34 := kp31.wr W34 (Or.inr kz_nx)
  refine pN X34 hx (3 : Int32) #[.val (.ref ed), .val (.ref u), .val (.ref ct), .val (.ref gd), .val (.int 4), .val (.int 4), .val (.long nn), .second, .val (.double 4613937818241073152), .second, .val (.double FP.dconst1), .second, .val (.int 4), .val (.int 3)] (hd.at 66 rfl) rfl (by decide) rfl ?_
  refine pG X34 hx 84 (hd.at 67 rfl) ?_
  refine pi X34 hx (hd.at 46 rfl) rfl ?_
  refine pi X34 hx (hd.at 47 rfl) rfl ?_
  refine pcN X34 hx (hd.at 48 rfl) ((tlt (by decide)).2.1) ?_
  refine pA X34 hx (hd.at 49 rfl) rfl rfl ?_
  refine pF X34 hx hZ hown (wd hw 36 rfl) e34 f15.2.2.2.2.1 (hd.at 50 rfl) fun T36 X36 e36 => ?_
  refine pi X36 hx (hd.at 51 rfl) rfl ?_
  refine pi X36 hx (hd.at 52 rfl) rfl ?_
  refine pC X36 hx 1 (hd.at 53 rfl) rfl ?_
  refine o_isub X36 hx (hd.at 54 rfl) ?_
  rw [show (((3 : Int32) - (1 : Int32))) = (2 : Int32) from by decide]
  refine wI X36 hx hZ e36 f32 3 (hd.at 55 rfl) fun T37 h37 X37 e37 W37 V37 => ?_
  have f38 : OArr Z h37 px .int 4 (fun i => .int ((own_q4 (-1 : Int32) (0 : Int32) (1 : Int32) (2 : Int32)) i)) := V37.congr (own_lt4 rfl rfl rfl rfl)
  replace f35 := f35.other W37 n10
  replace f15 := f15.keep (Keep.of_wr W37) (ninS n11 nin0) (ninS n12 nin0) (ninS n13 nin0) (ninS n14 nin0)
  replace f16 := f16.keep (Keep.of_wr W37) (ninS n11 nin0)
  have sz37 : n0 ≤ h37.size := by rw [W37.size]; exact sz34
  have fr37 := Fr.snoc X37 fr34 (hS1.ge 4 rfl)
  have kp37 := kp34.wr W37 (Or.inr kz_px)
  refine pA X37 hx (hd.at 56 rfl) rfl rfl ?_
  refine pF X37 hx hZ hown (wd hw 38 rfl) e37 f15.2.2.2.2.2.1 (hd.at 57 rfl) fun T39 X39 e39 => ?_
  refine pi X39 hx (hd.at 58 rfl) rfl ?_
  refine pi X39 hx (hd.at 59 rfl) rfl ?_
  refine pC X39 hx 1 (hd.at 60 rfl) rfl ?_
  refine o_iadd X39 hx (hd.at 61 rfl) ?_
  refine pi X39 hx (hd.at 62 rfl) rfl ?_
  refine pcY X39 hx 124 (hd.at 63 rfl) ((flt (by decide)).2.1) ?_
  refine pC X39 hx (-1) (hd.at 64 rfl) rfl ?_
  refine wI X39 hx hZ e39 f35 3 (hd.at 65 rfl) fun T40 h40 X40 e40 W40 V40 => ?_
  have f41 : OArr Z h40 nx .int 4 (fun i => .int ((own_q4 (1 : Int32) (2 : Int32) (3 : Int32) (-1 : Int32)) i)) := V40.congr (own_lt4 rfl rfl rfl rfl)
  replace f38 := f38.other W40 n9
  replace f15 := f15.keep (Keep.of_wr W40) (ninS n20 nin0) (ninS n21 nin0) (ninS n22 nin0) (ninS n23 nin0)
  replace f16 := f16.keep (Keep.of_wr W40) (ninS n20 nin0)
  have sz40 : n0 ≤ h40.size := by rw [W40.size]; exact sz37
  have fr40 := Fr.snoc X40 fr37 (hS1.ge 5 rfl)
  have kp40 := kp37.wr W40 (Or.inr kz_nx)
  refine pN X40 hx (4 : Int32) #[.val (.ref ed), .val (.ref u), .val (.ref ct), .val (.ref gd), .val (.int 4), .val (.int 4), .val (.long nn), .second, .val (.double 4613937818241073152), .second, .val (.double FP.dconst1), .second, .val (.int 4), .val (.int 4)] (hd.at 66 rfl) rfl (by decide) rfl ?_
  refine pG X40 hx 84 (hd.at 67 rfl) ?_
  refine pi X40 hx (hd.at 46 rfl) rfl ?_
  refine pi X40 hx (hd.at 47 rfl) rfl ?_
  refine pcY X40 hx 132 (hd.at 48 rfl) ((flt (by decide)).2.1) ?_
  refine pA X40 hx (hd.at 68 rfl) rfl rfl ?_
  refine pg5 (newO X40 hx hZ hown (wd hw 40 rfl) (wd hw 41 rfl) (wd hw 42 rfl) e40 rfl (hd.at 69 rfl) (by decide) (by decide)) fun T42 h42 X42 e42 E42 A42 D42 _ => ?_
  obtain ⟨t, g42⟩ : ∃ z, z = h40.size := ⟨_, rfl⟩
  rw [← g42] at A42 D42 ⊢
  have ne_ct_t : ct ≠ t := Nat.ne_of_lt (Nat.lt_of_lt_of_le f15.2.2.2.2.2.2.2.2.2.2.2.1.lt (Nat.le_of_eq g42.symm))
  have ne_ed_t : ed ≠ t := Nat.ne_of_lt (Nat.lt_of_lt_of_le f15.1.lt (Nat.le_of_eq g42.symm))
  have ne_gd_t : gd ≠ t := Nat.ne_of_lt (Nat.lt_of_lt_of_le f15.2.2.2.2.2.2.2.2.2.2.2.2.lt (Nat.le_of_eq g42.symm))
  have ne_nx_t : nx ≠ t := Nat.ne_of_lt (Nat.lt_of_lt_of_le f41.lt (Nat.le_of_eq g42.symm))
  have ne_px_t : px ≠ t := Nat.ne_of_lt (Nat.lt_of_lt_of_le f38.lt (Nat.le_of_eq g42.symm))
  have ne_u_t : u ≠ t := Nat.ne_of_lt (Nat.lt_of_lt_of_le f15.2.2.2.2.2.2.2.2.2.2.1.lt (Nat.le_of_eq g42.symm))
  have g_t : n0 ≤ t := Nat.le_trans sz40 (Nat.le_of_eq g42.symm)
  replace f38 := f38.ext E42
  replace f41 := f41.ext E42
  replace f15 := f15.keep ((Keep.refl h40 []).ext E42) nin0 nin0 nin0 nin0
  replace f16 := f16.keep ((Keep.refl h40 []).ext E42) nin0
  have f43 : Fld Z h42 t "com/example/rankfold/rankfold/summaries/Tournament" "largestFirst" "Z" (.int 0) := D42 (Or.inr (wd hw 53 rfl)) (ty := .boolean) (by decide)
  have f44 : Fld Z h42 t "com/example/rankfold/rankfold/summaries/Tournament" "keyOf" "Ljava/util/function/IntToDoubleFunction;" .null := D42 (Or.inr (wd hw 55 rfl)) (ty := (.object "java/util/function/IntToDoubleFunction")) (by decide)
  have f45 : Fld Z h42 t "com/example/rankfold/rankfold/summaries/Tournament" "order" "Ljava/util/function/IntToDoubleFunction;" .null := D42 (Or.inr (wd hw 57 rfl)) (ty := (.object "java/util/function/IntToDoubleFunction")) (by decide)
  have f46 : Fld Z h42 t "com/example/rankfold/rankfold/summaries/Tournament" "capacity" "I" (.int 0) := D42 (Or.inl (wd hw 59 rfl)) (ty := .int) (by decide)
  have f47 : Fld Z h42 t "com/example/rankfold/rankfold/summaries/Tournament" "members" "[J" .null := D42 (Or.inl (wd hw 62 rfl)) (ty := (.array .long)) (by decide)
  have f48 : Fld Z h42 t "com/example/rankfold/rankfold/summaries/Tournament" "blocks" "I" (.int 0) := D42 (Or.inl (wd hw 89 rfl)) (ty := .int) (by decide)
  have f49 : Fld Z h42 t "com/example/rankfold/rankfold/summaries/Tournament" "firsts" "[I" .null := D42 (Or.inl (wd hw 91 rfl)) (ty := (.array .int)) (by decide)
  have f50 : Fld Z h42 t "com/example/rankfold/rankfold/summaries/Tournament" "firstKeys" "[D" .null := D42 (Or.inl (wd hw 93 rfl)) (ty := (.array .double)) (by decide)
  have f51 : Fld Z h42 t "com/example/rankfold/rankfold/summaries/Tournament" "planted" "Z" (.int 0) := D42 (Or.inl (wd hw 103 rfl)) (ty := .boolean) (by decide)
  have f52 : Fld Z h42 t "com/example/rankfold/rankfold/summaries/Tournament" "size" "I" (.int 0) := D42 (Or.inl (wd hw 128 rfl)) (ty := .int) (by decide)
  have sz42 : n0 ≤ h42.size := Nat.le_trans sz40 E42.1
  have kp42 := kp40.ext E42
  have kz_t := Nat.le_trans kp40.1 (Nat.le_of_eq g42.symm)
  have f53 : OT9 Z h42 t := ⟨A42, f43, f44, f45, f46, f47, f52, f51, f48, f49, f50⟩
  refine o_dup X42 hx (hd.at 70 rfl) rfl ?_
  refine pC X42 hx 0 (hd.at 71 rfl) rfl ?_
  refine pi X42 hx (hd.at 72 rfl) rfl ?_
  refine pA X42 hx (hd.at 73 rfl) rfl rfl ?_
  refine pg6 (own_mkJ X42 hx hZH (y := yN1) (pc := 141) (index := 52) hnamed rfl (wd hw 43 rfl) (wd hw 46 rfl) (wd hw 131 rfl) e42 rfl (by rw [hml]; rfl) rfl rfl (hd.at 74 rfl) (Nat.le_of_ble_eq_true rfl) (by decide) (by decide)) fun T54 h54 X54 e54 E54 A54 => ?_
  obtain ⟨k1, g54⟩ : ∃ z, z = h42.size := ⟨_, rfl⟩
  rw [← g54] at A54 ⊢
  have ne_ct_k1 : ct ≠ k1 := Nat.ne_of_lt (Nat.lt_of_lt_of_le f15.2.2.2.2.2.2.2.2.2.2.2.1.lt (Nat.le_of_eq g54.symm))
  have ne_ed_k1 : ed ≠ k1 := Nat.ne_of_lt (Nat.lt_of_lt_of_le f15.1.lt (Nat.le_of_eq g54.symm))
  have ne_gd_k1 : gd ≠ k1 := Nat.ne_of_lt (Nat.lt_of_lt_of_le f15.2.2.2.2.2.2.2.2.2.2.2.2.lt (Nat.le_of_eq g54.symm))
  have ne_nx_k1 : nx ≠ k1 := Nat.ne_of_lt (Nat.lt_of_lt_of_le f41.lt (Nat.le_of_eq g54.symm))
  have ne_px_k1 : px ≠ k1 := Nat.ne_of_lt (Nat.lt_of_lt_of_le f38.lt (Nat.le_of_eq g54.symm))
  have ne_t_k1 : t ≠ k1 := Nat.ne_of_lt (Nat.lt_of_lt_of_le f53.1.lt (Nat.le_of_eq g54.symm))
  have ne_u_k1 : u ≠ k1 := Nat.ne_of_lt (Nat.lt_of_lt_of_le f15.2.2.2.2.2.2.2.2.2.2.1.lt (Nat.le_of_eq g54.symm))
  have g_k1 : n0 ≤ k1 := Nat.le_trans sz42 (Nat.le_of_eq g54.symm)
  replace f38 := f38.ext E54
  replace f41 := f41.ext E54
  replace f15 := f15.keep ((Keep.refl h42 []).ext E54) nin0 nin0 nin0 nin0
  replace f16 := f16.keep ((Keep.refl h42 []).ext E54) nin0
  replace f53 := f53.keep ((Keep.refl h42 []).ext E54) nin0
  have sz54 : n0 ≤ h54.size := Nat.le_trans sz42 E54.1
  have kp54 := kp42.ext E54
  have kz_k1 := Nat.le_trans kp42.1 (Nat.le_of_eq g54.symm)
  refine pA X54 hx (hd.at 75 rfl) rfl rfl ?_
  refine pg6 (own_mkT X54 hx hZH (y := yN1) (pc := 147) (index := 56) hnamed rfl (wd hw 47 rfl) (wd hw 46 rfl) (wd hw 131 rfl) e54 rfl (by rw [hml]; rfl) rfl rfl (hd.at 76 rfl) (Nat.le_of_ble_eq_true rfl) (by decide) (by decide)) fun T55 h55 X55 e55 E55 A55 => ?_
  obtain ⟨k2, g55⟩ : ∃ z, z = h54.size := ⟨_, rfl⟩
  rw [← g55] at A55 ⊢
  have ne_ct_k2 : ct ≠ k2 := Nat.ne_of_lt (Nat.lt_of_lt_of_le f15.2.2.2.2.2.2.2.2.2.2.2.1.lt (Nat.le_of_eq g55.symm))
  have ne_ed_k2 : ed ≠ k2 := Nat.ne_of_lt (Nat.lt_of_lt_of_le f15.1.lt (Nat.le_of_eq g55.symm))
  have ne_gd_k2 : gd ≠ k2 := Nat.ne_of_lt (Nat.lt_of_lt_of_le f15.2.2.2.2.2.2.2.2.2.2.2.2.lt (Nat.le_of_eq g55.symm))
  have ne_k1_k2 : k1 ≠ k2 := Nat.ne_of_lt (Nat.lt_of_lt_of_le A54.lt (Nat.le_of_eq g55.symm))
  have ne_nx_k2 : nx ≠ k2 := Nat.ne_of_lt (Nat.lt_of_lt_of_le f41.lt (Nat.le_of_eq g55.symm))
  have ne_px_k2 : px ≠ k2 := Nat.ne_of_lt (Nat.lt_of_lt_of_le f38.lt (Nat.le_of_eq g55.symm))
  have ne_t_k2 : t ≠ k2 := Nat.ne_of_lt (Nat.lt_of_lt_of_le f53.1.lt (Nat.le_of_eq g55.symm))
  have ne_u_k2 : u ≠ k2 := Nat.ne_of_lt (Nat.lt_of_lt_of_le f15.2.2.2.2.2.2.2.2.2.2.1.lt (Nat.le_of_eq g55.symm))
  have g_k2 : n0 ≤ k2 := Nat.le_trans sz54 (Nat.le_of_eq g55.symm)
  replace f38 := f38.ext E55
  replace f41 := f41.ext E55
  replace A54 := A54.ext E55
  replace f15 := f15.keep ((Keep.refl h54 []).ext E55) nin0 nin0 nin0 nin0
  replace f16 := f16.keep ((Keep.refl h54 []).ext E55) nin0
  replace f53 := f53.keep ((Keep.refl h54 []).ext E55) nin0
  have sz55 : n0 ≤ h55.size := Nat.le_trans sz54 E55.1
  have kp55 := kp54.ext E55
  have kz_k2 := Nat.le_trans kp54.1 (Nat.le_of_eq g55.symm)
  have hS_t := (OOrd.cons g_t (allS ne_t_k1 (allS ne_t_k2 all0)) (OOrd.cons g_k1 (allS ne_k1_k2 all0) (OOrd.cons g_k2 all0 OOrd.nil)))
  refine pgV (own_init X55 hx hZ (y := yN3) (rm := ⟨1, 1, 1, 12⟩) (W := 2) (a := t) (argsL := [(.int 0), (.int 4), (.ref k1), (.ref k2)]) (rest := [(.ref t), (.ref ed)]) rfl hown (wd hw 48 rfl) (wd hw 49 rfl) (wd hw 42 rfl) (wd hw 50 rfl) (rmTI l Z a0 hw t k1 k2 h55 n0 ed sz55 f53 hS_t A54 A55) e55 rfl (by rw [hml]; rfl) (lenOf own_pd14 rfl) rfl (by exact Nat.le_of_eq rfl) (hd.at 77 rfl) (by decide) (by decide) (by decide) (by decide)) fun T56 L56 X56 hQ56 => ?_
  obtain ⟨N56, K56, mm, ge_mm, BB56_0⟩ := hQ56
  have ne_ct_mm : ct ≠ mm := Nat.ne_of_lt (Nat.lt_of_lt_of_le f15.2.2.2.2.2.2.2.2.2.2.2.1.lt ge_mm)
  have ne_ed_mm : ed ≠ mm := Nat.ne_of_lt (Nat.lt_of_lt_of_le f15.1.lt ge_mm)
  have ne_gd_mm : gd ≠ mm := Nat.ne_of_lt (Nat.lt_of_lt_of_le f15.2.2.2.2.2.2.2.2.2.2.2.2.lt ge_mm)
  have ne_k1_mm : k1 ≠ mm := Nat.ne_of_lt (Nat.lt_of_lt_of_le A54.lt ge_mm)
  have ne_k2_mm : k2 ≠ mm := Nat.ne_of_lt (Nat.lt_of_lt_of_le A55.lt ge_mm)
  have ne_nx_mm : nx ≠ mm := Nat.ne_of_lt (Nat.lt_of_lt_of_le f41.lt ge_mm)
  have ne_px_mm : px ≠ mm := Nat.ne_of_lt (Nat.lt_of_lt_of_le f38.lt ge_mm)
  have ne_t_mm : t ≠ mm := Nat.ne_of_lt (Nat.lt_of_lt_of_le f53.1.lt ge_mm)
  have ne_u_mm : u ≠ mm := Nat.ne_of_lt (Nat.lt_of_lt_of_le f15.2.2.2.2.2.2.2.2.2.2.1.lt ge_mm)
  have g_mm : n0 ≤ mm := Nat.le_trans sz55 ge_mm
  have kz_mm := Nat.le_trans kp55.1 ge_mm
  have fr56 := Fr.app fr40 N56
  have kp56 := kp55.trans K56 (allS (Or.inr kz_t) all0)
  replace f38 := f38.keep K56 (ninS ne_px_t nin0)
  replace f41 := f41.keep K56 (ninS ne_nx_t nin0)
  have n57 := Ne.symm ne_t_k1
  replace A54 := A54.keep K56 (ninS n57 nin0)
  have n58 := Ne.symm ne_t_k2
  replace A55 := A55.keep K56 (ninS n58 nin0)
  replace f15 := f15.keep K56 (ninS ne_ed_t nin0) (ninS ne_u_t nin0) (ninS ne_ct_t nin0) (ninS ne_gd_t nin0)
  replace f16 := f16.keep K56 (ninS ne_ed_t nin0)
  have sz56 : n0 ≤ T56.heap.size := Nat.le_trans sz55 K56.1
  obtain ⟨u59, u60, u61, u62, u63, u64, u65, u66, u67, u68, u69, u70, u71⟩ := id f15
  obtain ⟨u72, u73, u74, u75, u76⟩ := id f16
  refine pg2 (putF X56 hx hZ hown (host := "") (Or.inl (wd hw 63 rfl)) Via.refl rfl u74 u59 (Or.inl (wd hw 64 rfl)) (wd hw 6 rfl) (ty := (.object "com/example/rankfold/rankfold/summaries/Tournament")) (by decide) rfl rfl rfl rfl (hd.at 78 rfl)) fun T77 h77 X77 e77 W77 => ?_
  have f78 := u74.same W77
  have n79 := Ne.symm n11
  replace f38 := f38.other W77 n79
  have n80 := Ne.symm n20
  replace f41 := f41.other W77 n80
  replace u59 := u59.wr W77
  replace u60 := u60.other W77 (Or.inr (sl (Or.inl (wd hw 30 rfl)) (Or.inl (wd hw 64 rfl))))
  replace u61 := u61.other W77 (Or.inr (sl (Or.inl (wd hw 32 rfl)) (Or.inl (wd hw 64 rfl))))
  replace u62 := u62.other W77 (Or.inr (sl (Or.inl (wd hw 34 rfl)) (Or.inl (wd hw 64 rfl))))
  replace u63 := u63.other W77 (Or.inr (sl (Or.inl (wd hw 37 rfl)) (Or.inl (wd hw 64 rfl))))
  replace u64 := u64.other W77 (Or.inr (sl (Or.inl (wd hw 39 rfl)) (Or.inl (wd hw 64 rfl))))
  replace u65 := u65.other W77 (Or.inr (sl (Or.inr (wd hw 20 rfl)) (Or.inl (wd hw 64 rfl))))
  replace u66 := u66.other W77 (Or.inr (sl (Or.inr (wd hw 22 rfl)) (Or.inl (wd hw 64 rfl))))
  replace u67 := u67.other W77 (Or.inr (sl (Or.inl (wd hw 24 rfl)) (Or.inl (wd hw 64 rfl))))
  replace u68 := u68.other W77 (Or.inr (sl (Or.inr (wd hw 18 rfl)) (Or.inl (wd hw 64 rfl))))
  have n81 := hS1.ne 0 1
  have n82 := Ne.symm n81
  replace u69 := u69.other W77 n82
  have n83 := hS1.ne 0 2
  have n84 := Ne.symm n83
  replace u70 := u70.other W77 n84
  have n85 := hS1.ne 0 3
  have n86 := Ne.symm n85
  replace u71 := u71.other W77 n86
  replace u72 := u72.other W77 (Or.inr (sl (Or.inl (wd hw 16 rfl)) (Or.inl (wd hw 64 rfl))))
  replace u73 := u73.other W77 (Or.inr (sl (Or.inl (wd hw 26 rfl)) (Or.inl (wd hw 64 rfl))))
  replace u75 := u75.other W77 (Or.inr (sl (Or.inl (wd hw 183 rfl)) (Or.inl (wd hw 64 rfl))))
  replace u76 := u76.other W77 (Or.inr (sl (Or.inl (wd hw 191 rfl)) (Or.inl (wd hw 64 rfl))))
  have n87 := Ne.symm ne_ed_t
  have n88 := Ne.symm ne_ed_mm
  have n89 := Ne.symm ne_ed_k1
  have n90 := Ne.symm ne_ed_k2
  replace BB56_0 := BB56_0.keep (Keep.of_wr W77) (ninS n87 nin0) (ninS n88 nin0) (ninS n89 nin0) (ninS n90 nin0)
  have sz77 : n0 ≤ h77.size := by rw [W77.size]; exact sz56
  have fr77 := Fr.snoc X77 fr56 (hS1.ge 0 rfl)
  have kp77 := kp56.wr W77 (Or.inl (List.mem_of_getElem? (i := 0) rfl))
  have f91 : ORe Z h77 ed u ct gd px nx fu fc fg (FP.l2d nn) := ⟨u59, u60, u61, u62, u63, u64, u65, u66, u67, u68, u69, u70, u71⟩
  have f92 : OEw Z h77 ed t (4 : Int32) .null := ⟨u72, u73, f78, u75, u76⟩
  refine pC X77 hx 0 (hd.at 79 rfl) rfl ?_
  refine ps X77 hx #[.val (.ref ed), .val (.ref u), .val (.ref ct), .val (.ref gd), .val (.int 4), .val (.int 4), .val (.long nn), .second, .val (.double 4613937818241073152), .second, .val (.double FP.dconst1), .second, .val (.int 4), .val (.int 0)] (hd.at 80 rfl) rfl ?_
  refine pi X77 hx (hd.at 81 rfl) rfl ?_
  refine pC X77 hx (-1) (hd.at 82 rfl) rfl ?_
  refine pcN X77 hx (hd.at 83 rfl) ((feq (by decide)).1) ?_
  refine pA X77 hx (hd.at 84 rfl) rfl rfl ?_
  refine pi X77 hx (hd.at 85 rfl) rfl ?_
  refine pA X77 hx (hd.at 86 rfl) rfl rfl ?_
  refine pF X77 hx hZ hown (wd hw 63 rfl) e77 f92.2.2.1 (hd.at 87 rfl) fun T93 X93 e93 => ?_
  refine pC X93 hx 1 (hd.at 88 rfl) rfl ?_
  obtain ⟨u94, u95, u96, u97, u98, u99, u100, u101, u102, u103, u104, u105, u106, u107⟩ := id BB56_0
  have f108 : OTM Z h77 t mm (0 : Int64) := ⟨u94, u99, u105⟩
  clear u95 u96 u97 u98 u100 u101 u102 u103 u104 u106 u107
  refine pgN (own_private X93 hx hZ (y := yN4) (rm := ⟨2, 0, 0, 26⟩) (W := 0) (a := ed) (argsL := [(.int 0), (.ref t), (.int 1)]) (rest := []) hown (wd hw 65 rfl) (wd hw 66 rfl) (wd hw 67 rfl) (wd hw 107 rfl) rfl (wd hw 7 rfl) (wd hw 68 rfl) (rmOz0 l Z a0 hw ed t (1 : Int32) h77 mm (0 : Int64) f108 (by decide)) e93 f91.1 rfl (by rw [hml]; rfl) (lenOf own_pd12 rfl) rfl (by exact Nat.le_of_eq rfl) (hd.at 89 rfl) (by decide) (by decide) (by decide) (by decide)) fun T109 X109 e109 => ?_
  refine pA X109 hx (hd.at 90 rfl) rfl rfl ?_
  refine pF X109 hx hZ hown (wd hw 38 rfl) e109 f91.2.2.2.2.2.1 (hd.at 91 rfl) fun T110 X110 e110 => ?_
  refine pi X110 hx (hd.at 92 rfl) rfl ?_
  refine rI X110 hx hZ e110 f41 0 (.int 1) rfl (hd.at 93 rfl) ?_
  refine ps X110 hx #[.val (.ref ed), .val (.ref u), .val (.ref ct), .val (.ref gd), .val (.int 4), .val (.int 4), .val (.long nn), .second, .val (.double 4613937818241073152), .second, .val (.double FP.dconst1), .second, .val (.int 4), .val (.int 1)] (hd.at 94 rfl) rfl ?_
  refine pG X110 hx 161 (hd.at 95 rfl) ?_
  refine pi X110 hx (hd.at 81 rfl) rfl ?_
  refine pC X110 hx (-1) (hd.at 82 rfl) rfl ?_
  refine pcN X110 hx (hd.at 83 rfl) ((feq (by decide)).1) ?_
  refine pA X110 hx (hd.at 84 rfl) rfl rfl ?_
  refine pi X110 hx (hd.at 85 rfl) rfl ?_
  refine pA X110 hx (hd.at 86 rfl) rfl rfl ?_
  refine pF X110 hx hZ hown (wd hw 63 rfl) e110 f92.2.2.1 (hd.at 87 rfl) fun T111 X111 e111 => ?_
  refine pC X111 hx 1 (hd.at 88 rfl) rfl ?_
  have f112 : ORd Z h77 ed u ct gd px nx fu fc fg own_p4 own_n4 (FP.l2d nn) := ⟨f91.1, f91.2.1, f91.2.2.1, f91.2.2.2.1, f91.2.2.2.2.1, f91.2.2.2.2.2.1, f91.2.2.2.2.2.2.1, f91.2.2.2.2.2.2.2.1, f91.2.2.2.2.2.2.2.2.1, f91.2.2.2.2.2.2.2.2.2.1, f91.2.2.2.2.2.2.2.2.2.2.1, f91.2.2.2.2.2.2.2.2.2.2.2.1, f91.2.2.2.2.2.2.2.2.2.2.2.2, f38, f41⟩
  have n114 := Ne.symm ne_k2_mm
  have n115 := Ne.symm ne_k1_mm
  have hS_113 := (OOrd.cons g_t (allS ne_t_mm (allS ne_t_k1 (allS ne_t_k2 all0))) (OOrd.cons g_mm (allS n115 (allS n114 all0)) (OOrd.cons g_k1 (allS ne_k1_k2 all0) (OOrd.cons g_k2 all0 OOrd.nil))))
  refine pgV (own_private X111 hx hZ (y := yN4) (rm := ⟨2, 0, 0, 33⟩) (W := 0) (a := ed) (argsL := [(.int 1), (.ref t), (.int 1)]) (rest := []) hown (wd hw 65 rfl) (wd hw 66 rfl) (wd hw 67 rfl) (wd hw 107 rfl) rfl (wd hw 7 rfl) (wd hw 68 rfl) (rmOj410_1 l Z a0 hw ed t h77 n0 mm k1 k2 (0 : Int32) u ct gd px nx fu fc fg (FP.l2d nn) f112 hU hN hD BB56_0 hS_113) e111 f91.1 rfl (by rw [hml]; rfl) (lenOf own_pd12 rfl) rfl (by exact Nat.le_of_eq rfl) (hd.at 89 rfl) (by decide) (by decide) (by decide) (by decide)) fun T116 L116 X116 hQ116 => ?_
  obtain ⟨N116, K116, M_113, sz_113, hM_113, BB116_0⟩ := hQ116
  have fr116 := Fr.app fr77 N116
  have kp116 := kp77.trans K116 (allS (Or.inr kz_t) (allS (Or.inr kz_mm) all0))
  replace f38 := f38.keep K116 (ninS ne_px_t (ninS ne_px_mm nin0))
  replace f41 := f41.keep K116 (ninS ne_nx_t (ninS ne_nx_mm nin0))
  replace f91 := f91.keep K116 (ninS ne_ed_t (ninS ne_ed_mm nin0)) (ninS ne_u_t (ninS ne_u_mm nin0)) (ninS ne_ct_t (ninS ne_ct_mm nin0)) (ninS ne_gd_t (ninS ne_gd_mm nin0))
  replace f92 := f92.keep K116 (ninS ne_ed_t (ninS ne_ed_mm nin0))
  have sz116 : n0 ≤ T116.heap.size := Nat.le_trans sz77 K116.1
  rcases hM_113 with hM_113 | hM_113
  · subst hM_113
    refine pA X116 hx (hd.at 90 rfl) rfl rfl ?_
    refine pF X116 hx hZ hown (wd hw 38 rfl) rfl f91.2.2.2.2.2.1 (hd.at 91 rfl) fun T117 X117 e117 => ?_
    refine pi X117 hx (hd.at 92 rfl) rfl ?_
    refine rI X117 hx hZ e117 f41 1 (.int 2) rfl (hd.at 93 rfl) ?_
    refine ps X117 hx #[.val (.ref ed), .val (.ref u), .val (.ref ct), .val (.ref gd), .val (.int 4), .val (.int 4), .val (.long nn), .second, .val (.double 4613937818241073152), .second, .val (.double FP.dconst1), .second, .val (.int 4), .val (.int 2)] (hd.at 94 rfl) rfl ?_
    refine pG X117 hx 161 (hd.at 95 rfl) ?_
    refine pi X117 hx (hd.at 81 rfl) rfl ?_
    refine pC X117 hx (-1) (hd.at 82 rfl) rfl ?_
    refine pcN X117 hx (hd.at 83 rfl) ((feq (by decide)).1) ?_
    refine pA X117 hx (hd.at 84 rfl) rfl rfl ?_
    refine pi X117 hx (hd.at 85 rfl) rfl ?_
    refine pA X117 hx (hd.at 86 rfl) rfl rfl ?_
    refine pF X117 hx hZ hown (wd hw 63 rfl) e117 f92.2.2.1 (hd.at 87 rfl) fun T118 X118 e118 => ?_
    refine pC X118 hx 1 (hd.at 88 rfl) rfl ?_
    have f119 : ORd Z T116.heap ed u ct gd px nx fu fc fg own_p4 own_n4 (FP.l2d nn) := ⟨f91.1, f91.2.1, f91.2.2.1, f91.2.2.2.1, f91.2.2.2.2.1, f91.2.2.2.2.2.1, f91.2.2.2.2.2.2.1, f91.2.2.2.2.2.2.2.1, f91.2.2.2.2.2.2.2.2.1, f91.2.2.2.2.2.2.2.2.2.1, f91.2.2.2.2.2.2.2.2.2.2.1, f91.2.2.2.2.2.2.2.2.2.2.2.1, f91.2.2.2.2.2.2.2.2.2.2.2.2, f38, f41⟩
    have hS_120 := (OOrd.cons g_t (allS ne_t_mm (allS ne_t_k1 (allS ne_t_k2 all0))) (OOrd.cons g_mm (allS n115 (allS n114 all0)) (OOrd.cons g_k1 (allS ne_k1_k2 all0) (OOrd.cons g_k2 all0 OOrd.nil))))
    refine pgV (own_private X118 hx hZ (y := yN4) (rm := ⟨2, 0, 0, 33⟩) (W := 0) (a := ed) (argsL := [(.int 2), (.ref t), (.int 1)]) (rest := []) hown (wd hw 65 rfl) (wd hw 66 rfl) (wd hw 67 rfl) (wd hw 107 rfl) rfl (wd hw 7 rfl) (wd hw 68 rfl) (rmOj420_1 l Z a0 hw ed t T116.heap n0 mm k1 k2 sz_113 u ct gd px nx fu fc fg (FP.l2d nn) f119 hU hN hD BB116_0 hS_120) e118 f91.1 rfl (by rw [hml]; rfl) (lenOf own_pd12 rfl) rfl (by exact Nat.le_of_eq rfl) (hd.at 89 rfl) (by decide) (by decide) (by decide) (by decide)) fun T121 L121 X121 hQ121 => ?_
    obtain ⟨N121, K121, M_120, sz_120, hM_120, BB121_0⟩ := hQ121
    have fr121 := Fr.app fr116 N121
    have kp121 := kp116.trans K121 (allS (Or.inr kz_t) (allS (Or.inr kz_mm) all0))
    replace f38 := f38.keep K121 (ninS ne_px_t (ninS ne_px_mm nin0))
    replace f41 := f41.keep K121 (ninS ne_nx_t (ninS ne_nx_mm nin0))
    replace f91 := f91.keep K121 (ninS ne_ed_t (ninS ne_ed_mm nin0)) (ninS ne_u_t (ninS ne_u_mm nin0)) (ninS ne_ct_t (ninS ne_ct_mm nin0)) (ninS ne_gd_t (ninS ne_gd_mm nin0))
    replace f92 := f92.keep K121 (ninS ne_ed_t (ninS ne_ed_mm nin0))
    have sz121 : n0 ≤ T121.heap.size := Nat.le_trans sz116 K121.1
    rcases hM_120 with hM_120 | hM_120
    · subst hM_120
      refine pA X121 hx (hd.at 90 rfl) rfl rfl ?_
      refine pF X121 hx hZ hown (wd hw 38 rfl) rfl f91.2.2.2.2.2.1 (hd.at 91 rfl) fun T122 X122 e122 => ?_
      refine pi X122 hx (hd.at 92 rfl) rfl ?_
      refine rI X122 hx hZ e122 f41 2 (.int 3) rfl (hd.at 93 rfl) ?_
      refine ps X122 hx #[.val (.ref ed), .val (.ref u), .val (.ref ct), .val (.ref gd), .val (.int 4), .val (.int 4), .val (.long nn), .second, .val (.double 4613937818241073152), .second, .val (.double FP.dconst1), .second, .val (.int 4), .val (.int 3)] (hd.at 94 rfl) rfl ?_
      refine pG X122 hx 161 (hd.at 95 rfl) ?_
      refine pi X122 hx (hd.at 81 rfl) rfl ?_
      refine pC X122 hx (-1) (hd.at 82 rfl) rfl ?_
      refine pcN X122 hx (hd.at 83 rfl) ((feq (by decide)).1) ?_
      refine pA X122 hx (hd.at 84 rfl) rfl rfl ?_
      refine pi X122 hx (hd.at 85 rfl) rfl ?_
      refine pA X122 hx (hd.at 86 rfl) rfl rfl ?_
      refine pF X122 hx hZ hown (wd hw 63 rfl) e122 f92.2.2.1 (hd.at 87 rfl) fun T123 X123 e123 => ?_
      refine pC X123 hx 1 (hd.at 88 rfl) rfl ?_
      obtain ⟨u124, u125, u126, u127, u128, u129, u130, u131, u132, u133, u134, u135, u136, u137⟩ := id BB121_0
      have f138 : OTM Z T121.heap t mm (0 : Int64) := ⟨u124, u129, u135⟩
      clear u125 u126 u127 u128 u130 u131 u132 u133 u134 u136 u137
      refine pgN (own_private X123 hx hZ (y := yN4) (rm := ⟨2, 0, 0, 26⟩) (W := 0) (a := ed) (argsL := [(.int 3), (.ref t), (.int 1)]) (rest := []) hown (wd hw 65 rfl) (wd hw 66 rfl) (wd hw 67 rfl) (wd hw 107 rfl) rfl (wd hw 7 rfl) (wd hw 68 rfl) (rmOz3 l Z a0 hw ed t (1 : Int32) T121.heap mm (0 : Int64) nx own_n4 f138 (by decide) rfl f91.2.2.2.2.2.1 f41) e123 f91.1 rfl (by rw [hml]; rfl) (lenOf own_pd12 rfl) rfl (by exact Nat.le_of_eq rfl) (hd.at 89 rfl) (by decide) (by decide) (by decide) (by decide)) fun T139 X139 e139 => ?_
      refine pA X139 hx (hd.at 90 rfl) rfl rfl ?_
      refine pF X139 hx hZ hown (wd hw 38 rfl) e139 f91.2.2.2.2.2.1 (hd.at 91 rfl) fun T140 X140 e140 => ?_
      refine pi X140 hx (hd.at 92 rfl) rfl ?_
      refine rI X140 hx hZ e140 f41 3 (.int (-1)) rfl (hd.at 93 rfl) ?_
      refine ps X140 hx #[.val (.ref ed), .val (.ref u), .val (.ref ct), .val (.ref gd), .val (.int 4), .val (.int 4), .val (.long nn), .second, .val (.double 4613937818241073152), .second, .val (.double FP.dconst1), .second, .val (.int 4), .val (.int (-1))] (hd.at 94 rfl) rfl ?_
      refine pG X140 hx 161 (hd.at 95 rfl) ?_
      refine pi X140 hx (hd.at 81 rfl) rfl ?_
      refine pC X140 hx (-1) (hd.at 82 rfl) rfl ?_
      refine pcY X140 hx 190 (hd.at 83 rfl) ((teq rfl).1) ?_
      refine pA X140 hx (hd.at 96 rfl) rfl rfl ?_
      refine pF X140 hx hZ hown (wd hw 63 rfl) e140 f92.2.2.1 (hd.at 97 rfl) fun T141 X141 e141 => ?_
      have hS_142 := (OOrd.cons g_t (allS ne_t_mm (allS ne_t_k1 (allS ne_t_k2 all0))) (OOrd.cons g_mm (allS n115 (allS n114 all0)) (OOrd.cons g_k1 (allS ne_k1_k2 all0) (OOrd.cons g_k2 all0 OOrd.nil))))
      refine pgV (own_virtual X141 hx hZ (y := yN7) (z := yN7) (rm := ⟨9, 2, 4, 156⟩) (W := 0) (a := t) (argsL := []) (rest := []) hown (wd hw 79 rfl) (wd hw 80 rfl) (notFace_of_selects (args := #[]) (mvT hZ (wd hw 82 rfl))) (wd hw 82 rfl) (wd hw 81 rfl) (wd hw 42 rfl) (wd hw 83 rfl) (rmPl l Z a0 hw t T121.heap n0 mm k1 k2 ed sz_120 (0 : Int64) (fun r => r = (-1 : Int32)) sz121 BB121_0 hS_142 (fun h1 fa fk K B' hS' => rmSc00 l Z a0 hw t h1 n0 mm fa fk k1 k2 ed sz_120 0 0 0 0 0 B' hS')) e141 BB121_0.1 rfl (by rw [hml]; rfl) (lenOf own_pd15 rfl) rfl (by exact Nat.le_of_eq rfl) (hd.at 98 rfl) (by decide) (by decide) (by decide) (by decide)) fun T143 L143 X143 hQ143 => ?_
      obtain ⟨N143, K143, fa, fk, rx, d0x, d1x, ge_fa, ge_fk, ne_fa_fk, hrx, BB143_0⟩ := hQ143
      have ne_ct_fa : ct ≠ fa := Nat.ne_of_lt (Nat.lt_of_lt_of_le f91.2.2.2.2.2.2.2.2.2.2.2.1.lt ge_fa)
      have ne_ed_fa : ed ≠ fa := Nat.ne_of_lt (Nat.lt_of_lt_of_le f91.1.lt ge_fa)
      have ne_gd_fa : gd ≠ fa := Nat.ne_of_lt (Nat.lt_of_lt_of_le f91.2.2.2.2.2.2.2.2.2.2.2.2.lt ge_fa)
      have ne_k1_fa : k1 ≠ fa := Nat.ne_of_lt (Nat.lt_of_lt_of_le BB121_0.2.2.2.2.2.2.2.2.2.2.2.2.1.lt ge_fa)
      have ne_k2_fa : k2 ≠ fa := Nat.ne_of_lt (Nat.lt_of_lt_of_le BB121_0.2.2.2.2.2.2.2.2.2.2.2.2.2.lt ge_fa)
      have ne_mm_fa : mm ≠ fa := Nat.ne_of_lt (Nat.lt_of_lt_of_le BB121_0.2.2.2.2.2.2.2.2.2.2.2.1.lt ge_fa)
      have ne_nx_fa : nx ≠ fa := Nat.ne_of_lt (Nat.lt_of_lt_of_le f41.lt ge_fa)
      have ne_px_fa : px ≠ fa := Nat.ne_of_lt (Nat.lt_of_lt_of_le f38.lt ge_fa)
      have ne_t_fa : t ≠ fa := Nat.ne_of_lt (Nat.lt_of_lt_of_le BB121_0.1.lt ge_fa)
      have ne_u_fa : u ≠ fa := Nat.ne_of_lt (Nat.lt_of_lt_of_le f91.2.2.2.2.2.2.2.2.2.2.1.lt ge_fa)
      have g_fa : n0 ≤ fa := Nat.le_trans sz121 ge_fa
      have kz_fa := Nat.le_trans kp121.1 ge_fa
      have ne_ct_fk : ct ≠ fk := Nat.ne_of_lt (Nat.lt_of_lt_of_le f91.2.2.2.2.2.2.2.2.2.2.2.1.lt ge_fk)
      have ne_ed_fk : ed ≠ fk := Nat.ne_of_lt (Nat.lt_of_lt_of_le f91.1.lt ge_fk)
      have ne_gd_fk : gd ≠ fk := Nat.ne_of_lt (Nat.lt_of_lt_of_le f91.2.2.2.2.2.2.2.2.2.2.2.2.lt ge_fk)
      have ne_k1_fk : k1 ≠ fk := Nat.ne_of_lt (Nat.lt_of_lt_of_le BB121_0.2.2.2.2.2.2.2.2.2.2.2.2.1.lt ge_fk)
      have ne_k2_fk : k2 ≠ fk := Nat.ne_of_lt (Nat.lt_of_lt_of_le BB121_0.2.2.2.2.2.2.2.2.2.2.2.2.2.lt ge_fk)
      have ne_mm_fk : mm ≠ fk := Nat.ne_of_lt (Nat.lt_of_lt_of_le BB121_0.2.2.2.2.2.2.2.2.2.2.2.1.lt ge_fk)
      have ne_nx_fk : nx ≠ fk := Nat.ne_of_lt (Nat.lt_of_lt_of_le f41.lt ge_fk)
      have ne_px_fk : px ≠ fk := Nat.ne_of_lt (Nat.lt_of_lt_of_le f38.lt ge_fk)
      have ne_t_fk : t ≠ fk := Nat.ne_of_lt (Nat.lt_of_lt_of_le BB121_0.1.lt ge_fk)
      have ne_u_fk : u ≠ fk := Nat.ne_of_lt (Nat.lt_of_lt_of_le f91.2.2.2.2.2.2.2.2.2.2.1.lt ge_fk)
      have g_fk : n0 ≤ fk := Nat.le_trans sz121 ge_fk
      have kz_fk := Nat.le_trans kp121.1 ge_fk
      have fr143 := Fr.app fr121 N143
      have kp143 := kp121.trans K143 (allS (Or.inr kz_t) all0)
      replace f38 := f38.keep K143 (ninS ne_px_t nin0)
      replace f41 := f41.keep K143 (ninS ne_nx_t nin0)
      replace f91 := f91.keep K143 (ninS ne_ed_t nin0) (ninS ne_u_t nin0) (ninS ne_ct_t nin0) (ninS ne_gd_t nin0)
      replace f92 := f92.keep K143 (ninS ne_ed_t nin0)
      have sz143 : n0 ≤ T143.heap.size := Nat.le_trans sz121 K143.1
      exact own_retV X143 hx hret hlk (hd.at 99 rfl) (by decide) (by decide) (by show _ ∧ _ ∧ Keep h0 T143.heap _ ∧ _; exact ⟨rfl, fr143, kp143, nx, kz_nx, f91.1, f91.2.1, f91.2.2.1, f91.2.2.2.1, f91.2.2.2.2.2.1, f91.2.2.2.2.2.2.2.2.2.2.1, f91.2.2.2.2.2.2.2.2.2.2.2.1, f91.2.2.2.2.2.2.2.2.2.2.2.2, f41⟩)
    · subst hM_120
      refine pA X121 hx (hd.at 90 rfl) rfl rfl ?_
      refine pF X121 hx hZ hown (wd hw 38 rfl) rfl f91.2.2.2.2.2.1 (hd.at 91 rfl) fun T144 X144 e144 => ?_
      refine pi X144 hx (hd.at 92 rfl) rfl ?_
      refine rI X144 hx hZ e144 f41 2 (.int 3) rfl (hd.at 93 rfl) ?_
      refine ps X144 hx #[.val (.ref ed), .val (.ref u), .val (.ref ct), .val (.ref gd), .val (.int 4), .val (.int 4), .val (.long nn), .second, .val (.double 4613937818241073152), .second, .val (.double FP.dconst1), .second, .val (.int 4), .val (.int 3)] (hd.at 94 rfl) rfl ?_
      refine pG X144 hx 161 (hd.at 95 rfl) ?_
      refine pi X144 hx (hd.at 81 rfl) rfl ?_
      refine pC X144 hx (-1) (hd.at 82 rfl) rfl ?_
      refine pcN X144 hx (hd.at 83 rfl) ((feq (by decide)).1) ?_
      refine pA X144 hx (hd.at 84 rfl) rfl rfl ?_
      refine pi X144 hx (hd.at 85 rfl) rfl ?_
      refine pA X144 hx (hd.at 86 rfl) rfl rfl ?_
      refine pF X144 hx hZ hown (wd hw 63 rfl) e144 f92.2.2.1 (hd.at 87 rfl) fun T145 X145 e145 => ?_
      refine pC X145 hx 1 (hd.at 88 rfl) rfl ?_
      obtain ⟨u146, u147, u148, u149, u150, u151, u152, u153, u154, u155, u156, u157, u158, u159⟩ := id BB121_0
      have f160 : OTM Z T121.heap t mm (4 : Int64) := ⟨u146, u151, u157⟩
      clear u147 u148 u149 u150 u152 u153 u154 u155 u156 u158 u159
      refine pgN (own_private X145 hx hZ (y := yN4) (rm := ⟨2, 0, 0, 26⟩) (W := 0) (a := ed) (argsL := [(.int 3), (.ref t), (.int 1)]) (rest := []) hown (wd hw 65 rfl) (wd hw 66 rfl) (wd hw 67 rfl) (wd hw 107 rfl) rfl (wd hw 7 rfl) (wd hw 68 rfl) (rmOz3 l Z a0 hw ed t (1 : Int32) T121.heap mm (4 : Int64) nx own_n4 f160 (by decide) rfl f91.2.2.2.2.2.1 f41) e145 f91.1 rfl (by rw [hml]; rfl) (lenOf own_pd12 rfl) rfl (by exact Nat.le_of_eq rfl) (hd.at 89 rfl) (by decide) (by decide) (by decide) (by decide)) fun T161 X161 e161 => ?_
      refine pA X161 hx (hd.at 90 rfl) rfl rfl ?_
      refine pF X161 hx hZ hown (wd hw 38 rfl) e161 f91.2.2.2.2.2.1 (hd.at 91 rfl) fun T162 X162 e162 => ?_
      refine pi X162 hx (hd.at 92 rfl) rfl ?_
      refine rI X162 hx hZ e162 f41 3 (.int (-1)) rfl (hd.at 93 rfl) ?_
      refine ps X162 hx #[.val (.ref ed), .val (.ref u), .val (.ref ct), .val (.ref gd), .val (.int 4), .val (.int 4), .val (.long nn), .second, .val (.double 4613937818241073152), .second, .val (.double FP.dconst1), .second, .val (.int 4), .val (.int (-1))] (hd.at 94 rfl) rfl ?_
      refine pG X162 hx 161 (hd.at 95 rfl) ?_
      refine pi X162 hx (hd.at 81 rfl) rfl ?_
      refine pC X162 hx (-1) (hd.at 82 rfl) rfl ?_
      refine pcY X162 hx 190 (hd.at 83 rfl) ((teq rfl).1) ?_
      refine pA X162 hx (hd.at 96 rfl) rfl rfl ?_
      refine pF X162 hx hZ hown (wd hw 63 rfl) e162 f92.2.2.1 (hd.at 97 rfl) fun T163 X163 e163 => ?_
      have hS_164 := (OOrd.cons g_t (allS ne_t_mm (allS ne_t_k1 (allS ne_t_k2 all0))) (OOrd.cons g_mm (allS n115 (allS n114 all0)) (OOrd.cons g_k1 (allS ne_k1_k2 all0) (OOrd.cons g_k2 all0 OOrd.nil))))
      have f165 : ORd Z T121.heap ed u ct gd px nx fu fc fg own_p4 own_n4 (FP.l2d nn) := ⟨f91.1, f91.2.1, f91.2.2.1, f91.2.2.2.1, f91.2.2.2.2.1, f91.2.2.2.2.2.1, f91.2.2.2.2.2.2.1, f91.2.2.2.2.2.2.2.1, f91.2.2.2.2.2.2.2.2.1, f91.2.2.2.2.2.2.2.2.2.1, f91.2.2.2.2.2.2.2.2.2.2.1, f91.2.2.2.2.2.2.2.2.2.2.2.1, f91.2.2.2.2.2.2.2.2.2.2.2.2, f38, f41⟩
      refine pgV (own_virtual X163 hx hZ (y := yN7) (z := yN7) (rm := ⟨9, 2, 4, 156⟩) (W := 0) (a := t) (argsL := []) (rest := []) hown (wd hw 79 rfl) (wd hw 80 rfl) (notFace_of_selects (args := #[]) (mvT hZ (wd hw 82 rfl))) (wd hw 82 rfl) (wd hw 81 rfl) (wd hw 42 rfl) (wd hw 83 rfl) (rmPl l Z a0 hw t T121.heap n0 mm k1 k2 ed sz_120 (4 : Int64) (fun _ => True) sz121 BB121_0 hS_164 (fun h1 fa fk K B' hS' => rmSc44 l Z a0 hw t h1 n0 mm fa fk k1 k2 ed sz_120 0 0 0 0 0 u ct gd px nx fu fc fg (FP.l2d nn) B' hS' (f165.keep K (ninS ne_ed_t nin0) (ninS ne_u_t nin0) (ninS ne_ct_t nin0) (ninS ne_gd_t nin0) (ninS ne_px_t nin0) (ninS ne_nx_t nin0)) hU hN hD)) e163 BB121_0.1 rfl (by rw [hml]; rfl) (lenOf own_pd15 rfl) rfl (by exact Nat.le_of_eq rfl) (hd.at 98 rfl) (by decide) (by decide) (by decide) (by decide)) fun T166 L166 X166 hQ166 => ?_
      obtain ⟨N166, K166, fa, fk, rx, d0x, d1x, ge_fa, ge_fk, ne_fa_fk, hrx, BB166_0⟩ := hQ166
      have ne_ct_fa : ct ≠ fa := Nat.ne_of_lt (Nat.lt_of_lt_of_le f91.2.2.2.2.2.2.2.2.2.2.2.1.lt ge_fa)
      have ne_ed_fa : ed ≠ fa := Nat.ne_of_lt (Nat.lt_of_lt_of_le f91.1.lt ge_fa)
      have ne_gd_fa : gd ≠ fa := Nat.ne_of_lt (Nat.lt_of_lt_of_le f91.2.2.2.2.2.2.2.2.2.2.2.2.lt ge_fa)
      have ne_k1_fa : k1 ≠ fa := Nat.ne_of_lt (Nat.lt_of_lt_of_le BB121_0.2.2.2.2.2.2.2.2.2.2.2.2.1.lt ge_fa)
      have ne_k2_fa : k2 ≠ fa := Nat.ne_of_lt (Nat.lt_of_lt_of_le BB121_0.2.2.2.2.2.2.2.2.2.2.2.2.2.lt ge_fa)
      have ne_mm_fa : mm ≠ fa := Nat.ne_of_lt (Nat.lt_of_lt_of_le BB121_0.2.2.2.2.2.2.2.2.2.2.2.1.lt ge_fa)
      have ne_nx_fa : nx ≠ fa := Nat.ne_of_lt (Nat.lt_of_lt_of_le f41.lt ge_fa)
      have ne_px_fa : px ≠ fa := Nat.ne_of_lt (Nat.lt_of_lt_of_le f38.lt ge_fa)
      have ne_t_fa : t ≠ fa := Nat.ne_of_lt (Nat.lt_of_lt_of_le BB121_0.1.lt ge_fa)
      have ne_u_fa : u ≠ fa := Nat.ne_of_lt (Nat.lt_of_lt_of_le f91.2.2.2.2.2.2.2.2.2.2.1.lt ge_fa)
      have g_fa : n0 ≤ fa := Nat.le_trans sz121 ge_fa
      have kz_fa := Nat.le_trans kp121.1 ge_fa
      have ne_ct_fk : ct ≠ fk := Nat.ne_of_lt (Nat.lt_of_lt_of_le f91.2.2.2.2.2.2.2.2.2.2.2.1.lt ge_fk)
      have ne_ed_fk : ed ≠ fk := Nat.ne_of_lt (Nat.lt_of_lt_of_le f91.1.lt ge_fk)
      have ne_gd_fk : gd ≠ fk := Nat.ne_of_lt (Nat.lt_of_lt_of_le f91.2.2.2.2.2.2.2.2.2.2.2.2.lt ge_fk)
      have ne_k1_fk : k1 ≠ fk := Nat.ne_of_lt (Nat.lt_of_lt_of_le BB121_0.2.2.2.2.2.2.2.2.2.2.2.2.1.lt ge_fk)
      have ne_k2_fk : k2 ≠ fk := Nat.ne_of_lt (Nat.lt_of_lt_of_le BB121_0.2.2.2.2.2.2.2.2.2.2.2.2.2.lt ge_fk)
      have ne_mm_fk : mm ≠ fk := Nat.ne_of_lt (Nat.lt_of_lt_of_le BB121_0.2.2.2.2.2.2.2.2.2.2.2.1.lt ge_fk)
      have ne_nx_fk : nx ≠ fk := Nat.ne_of_lt (Nat.lt_of_lt_of_le f41.lt ge_fk)
      have ne_px_fk : px ≠ fk := Nat.ne_of_lt (Nat.lt_of_lt_of_le f38.lt ge_fk)
      have ne_t_fk : t ≠ fk := Nat.ne_of_lt (Nat.lt_of_lt_of_le BB121_0.1.lt ge_fk)
      have ne_u_fk : u ≠ fk := Nat.ne_of_lt (Nat.lt_of_lt_of_le f91.2.2.2.2.2.2.2.2.2.2.1.lt ge_fk)
      have g_fk : n0 ≤ fk := Nat.le_trans sz121 ge_fk
      have kz_fk := Nat.le_trans kp121.1 ge_fk
      have fr166 := Fr.app fr121 N166
      have kp166 := kp121.trans K166 (allS (Or.inr kz_t) all0)
      replace f38 := f38.keep K166 (ninS ne_px_t nin0)
      replace f41 := f41.keep K166 (ninS ne_nx_t nin0)
      replace f91 := f91.keep K166 (ninS ne_ed_t nin0) (ninS ne_u_t nin0) (ninS ne_ct_t nin0) (ninS ne_gd_t nin0)
      replace f92 := f92.keep K166 (ninS ne_ed_t nin0)
      have sz166 : n0 ≤ T166.heap.size := Nat.le_trans sz121 K166.1
      exact own_retV X166 hx hret hlk (hd.at 99 rfl) (by decide) (by decide) (by show _ ∧ _ ∧ Keep h0 T166.heap _ ∧ _; exact ⟨rfl, fr166, kp166, nx, kz_nx, f91.1, f91.2.1, f91.2.2.1, f91.2.2.2.1, f91.2.2.2.2.2.1, f91.2.2.2.2.2.2.2.2.2.2.1, f91.2.2.2.2.2.2.2.2.2.2.2.1, f91.2.2.2.2.2.2.2.2.2.2.2.2, f41⟩)
  · subst hM_113
    refine pA X116 hx (hd.at 90 rfl) rfl rfl ?_
    refine pF X116 hx hZ hown (wd hw 38 rfl) rfl f91.2.2.2.2.2.1 (hd.at 91 rfl) fun T167 X167 e167 => ?_
    refine pi X167 hx (hd.at 92 rfl) rfl ?_
    refine rI X167 hx hZ e167 f41 1 (.int 2) rfl (hd.at 93 rfl) ?_
    refine ps X167 hx #[.val (.ref ed), .val (.ref u), .val (.ref ct), .val (.ref gd), .val (.int 4), .val (.int 4), .val (.long nn), .second, .val (.double 4613937818241073152), .second, .val (.double FP.dconst1), .second, .val (.int 4), .val (.int 2)] (hd.at 94 rfl) rfl ?_
    refine pG X167 hx 161 (hd.at 95 rfl) ?_
    refine pi X167 hx (hd.at 81 rfl) rfl ?_
    refine pC X167 hx (-1) (hd.at 82 rfl) rfl ?_
    refine pcN X167 hx (hd.at 83 rfl) ((feq (by decide)).1) ?_
    refine pA X167 hx (hd.at 84 rfl) rfl rfl ?_
    refine pi X167 hx (hd.at 85 rfl) rfl ?_
    refine pA X167 hx (hd.at 86 rfl) rfl rfl ?_
    refine pF X167 hx hZ hown (wd hw 63 rfl) e167 f92.2.2.1 (hd.at 87 rfl) fun T168 X168 e168 => ?_
    refine pC X168 hx 1 (hd.at 88 rfl) rfl ?_
    have f169 : ORd Z T116.heap ed u ct gd px nx fu fc fg own_p4 own_n4 (FP.l2d nn) := ⟨f91.1, f91.2.1, f91.2.2.1, f91.2.2.2.1, f91.2.2.2.2.1, f91.2.2.2.2.2.1, f91.2.2.2.2.2.2.1, f91.2.2.2.2.2.2.2.1, f91.2.2.2.2.2.2.2.2.1, f91.2.2.2.2.2.2.2.2.2.1, f91.2.2.2.2.2.2.2.2.2.2.1, f91.2.2.2.2.2.2.2.2.2.2.2.1, f91.2.2.2.2.2.2.2.2.2.2.2.2, f38, f41⟩
    have hS_170 := (OOrd.cons g_t (allS ne_t_mm (allS ne_t_k1 (allS ne_t_k2 all0))) (OOrd.cons g_mm (allS n115 (allS n114 all0)) (OOrd.cons g_k1 (allS ne_k1_k2 all0) (OOrd.cons g_k2 all0 OOrd.nil))))
    refine pgV (own_private X168 hx hZ (y := yN4) (rm := ⟨2, 0, 0, 33⟩) (W := 0) (a := ed) (argsL := [(.int 2), (.ref t), (.int 1)]) (rest := []) hown (wd hw 65 rfl) (wd hw 66 rfl) (wd hw 67 rfl) (wd hw 107 rfl) rfl (wd hw 7 rfl) (wd hw 68 rfl) (rmOj422_1 l Z a0 hw ed t T116.heap n0 mm k1 k2 sz_113 u ct gd px nx fu fc fg (FP.l2d nn) f169 hU hN hD BB116_0 hS_170) e168 f91.1 rfl (by rw [hml]; rfl) (lenOf own_pd12 rfl) rfl (by exact Nat.le_of_eq rfl) (hd.at 89 rfl) (by decide) (by decide) (by decide) (by decide)) fun T171 L171 X171 hQ171 => ?_
    obtain ⟨N171, K171, M_170, sz_170, hM_170, BB171_0⟩ := hQ171
    have fr171 := Fr.app fr116 N171
    have kp171 := kp116.trans K171 (allS (Or.inr kz_t) (allS (Or.inr kz_mm) all0))
    replace f38 := f38.keep K171 (ninS ne_px_t (ninS ne_px_mm nin0))
    replace f41 := f41.keep K171 (ninS ne_nx_t (ninS ne_nx_mm nin0))
    replace f91 := f91.keep K171 (ninS ne_ed_t (ninS ne_ed_mm nin0)) (ninS ne_u_t (ninS ne_u_mm nin0)) (ninS ne_ct_t (ninS ne_ct_mm nin0)) (ninS ne_gd_t (ninS ne_gd_mm nin0))
    replace f92 := f92.keep K171 (ninS ne_ed_t (ninS ne_ed_mm nin0))
    have sz171 : n0 ≤ T171.heap.size := Nat.le_trans sz116 K171.1
    rcases hM_170 with hM_170 | hM_170
    · subst hM_170
      refine pA X171 hx (hd.at 90 rfl) rfl rfl ?_
      refine pF X171 hx hZ hown (wd hw 38 rfl) rfl f91.2.2.2.2.2.1 (hd.at 91 rfl) fun T172 X172 e172 => ?_
      refine pi X172 hx (hd.at 92 rfl) rfl ?_
      refine rI X172 hx hZ e172 f41 2 (.int 3) rfl (hd.at 93 rfl) ?_
      refine ps X172 hx #[.val (.ref ed), .val (.ref u), .val (.ref ct), .val (.ref gd), .val (.int 4), .val (.int 4), .val (.long nn), .second, .val (.double 4613937818241073152), .second, .val (.double FP.dconst1), .second, .val (.int 4), .val (.int 3)] (hd.at 94 rfl) rfl ?_
      refine pG X172 hx 161 (hd.at 95 rfl) ?_
      refine pi X172 hx (hd.at 81 rfl) rfl ?_
      refine pC X172 hx (-1) (hd.at 82 rfl) rfl ?_
      refine pcN X172 hx (hd.at 83 rfl) ((feq (by decide)).1) ?_
      refine pA X172 hx (hd.at 84 rfl) rfl rfl ?_
      refine pi X172 hx (hd.at 85 rfl) rfl ?_
      refine pA X172 hx (hd.at 86 rfl) rfl rfl ?_
      refine pF X172 hx hZ hown (wd hw 63 rfl) e172 f92.2.2.1 (hd.at 87 rfl) fun T173 X173 e173 => ?_
      refine pC X173 hx 1 (hd.at 88 rfl) rfl ?_
      obtain ⟨u174, u175, u176, u177, u178, u179, u180, u181, u182, u183, u184, u185, u186, u187⟩ := id BB171_0
      have f188 : OTM Z T171.heap t mm (2 : Int64) := ⟨u174, u179, u185⟩
      clear u175 u176 u177 u178 u180 u181 u182 u183 u184 u186 u187
      refine pgN (own_private X173 hx hZ (y := yN4) (rm := ⟨2, 0, 0, 26⟩) (W := 0) (a := ed) (argsL := [(.int 3), (.ref t), (.int 1)]) (rest := []) hown (wd hw 65 rfl) (wd hw 66 rfl) (wd hw 67 rfl) (wd hw 107 rfl) rfl (wd hw 7 rfl) (wd hw 68 rfl) (rmOz3 l Z a0 hw ed t (1 : Int32) T171.heap mm (2 : Int64) nx own_n4 f188 (by decide) rfl f91.2.2.2.2.2.1 f41) e173 f91.1 rfl (by rw [hml]; rfl) (lenOf own_pd12 rfl) rfl (by exact Nat.le_of_eq rfl) (hd.at 89 rfl) (by decide) (by decide) (by decide) (by decide)) fun T189 X189 e189 => ?_
      refine pA X189 hx (hd.at 90 rfl) rfl rfl ?_
      refine pF X189 hx hZ hown (wd hw 38 rfl) e189 f91.2.2.2.2.2.1 (hd.at 91 rfl) fun T190 X190 e190 => ?_
      refine pi X190 hx (hd.at 92 rfl) rfl ?_
      refine rI X190 hx hZ e190 f41 3 (.int (-1)) rfl (hd.at 93 rfl) ?_
      refine ps X190 hx #[.val (.ref ed), .val (.ref u), .val (.ref ct), .val (.ref gd), .val (.int 4), .val (.int 4), .val (.long nn), .second, .val (.double 4613937818241073152), .second, .val (.double FP.dconst1), .second, .val (.int 4), .val (.int (-1))] (hd.at 94 rfl) rfl ?_
      refine pG X190 hx 161 (hd.at 95 rfl) ?_
      refine pi X190 hx (hd.at 81 rfl) rfl ?_
      refine pC X190 hx (-1) (hd.at 82 rfl) rfl ?_
      refine pcY X190 hx 190 (hd.at 83 rfl) ((teq rfl).1) ?_
      refine pA X190 hx (hd.at 96 rfl) rfl rfl ?_
      refine pF X190 hx hZ hown (wd hw 63 rfl) e190 f92.2.2.1 (hd.at 97 rfl) fun T191 X191 e191 => ?_
      have hS_192 := (OOrd.cons g_t (allS ne_t_mm (allS ne_t_k1 (allS ne_t_k2 all0))) (OOrd.cons g_mm (allS n115 (allS n114 all0)) (OOrd.cons g_k1 (allS ne_k1_k2 all0) (OOrd.cons g_k2 all0 OOrd.nil))))
      have f193 : ORd Z T171.heap ed u ct gd px nx fu fc fg own_p4 own_n4 (FP.l2d nn) := ⟨f91.1, f91.2.1, f91.2.2.1, f91.2.2.2.1, f91.2.2.2.2.1, f91.2.2.2.2.2.1, f91.2.2.2.2.2.2.1, f91.2.2.2.2.2.2.2.1, f91.2.2.2.2.2.2.2.2.1, f91.2.2.2.2.2.2.2.2.2.1, f91.2.2.2.2.2.2.2.2.2.2.1, f91.2.2.2.2.2.2.2.2.2.2.2.1, f91.2.2.2.2.2.2.2.2.2.2.2.2, f38, f41⟩
      refine pgV (own_virtual X191 hx hZ (y := yN7) (z := yN7) (rm := ⟨9, 2, 4, 156⟩) (W := 0) (a := t) (argsL := []) (rest := []) hown (wd hw 79 rfl) (wd hw 80 rfl) (notFace_of_selects (args := #[]) (mvT hZ (wd hw 82 rfl))) (wd hw 82 rfl) (wd hw 81 rfl) (wd hw 42 rfl) (wd hw 83 rfl) (rmPl l Z a0 hw t T171.heap n0 mm k1 k2 ed sz_170 (2 : Int64) (fun r => r = (1 : Int32)) sz171 BB171_0 hS_192 (fun h1 fa fk K B' hS' => rmSc32 l Z a0 hw t h1 n0 mm fa fk k1 k2 ed sz_170 0 0 0 0 0 B' hS' (f193.keep K (ninS ne_ed_t nin0) (ninS ne_u_t nin0) (ninS ne_ct_t nin0) (ninS ne_gd_t nin0) (ninS ne_px_t nin0) (ninS ne_nx_t nin0)).1 (rmJE41 l Z a0 hw ed h1 u ct gd px nx fu fc fg (FP.l2d nn) (f193.keep K (ninS ne_ed_t nin0) (ninS ne_u_t nin0) (ninS ne_ct_t nin0) (ninS ne_gd_t nin0) (ninS ne_px_t nin0) (ninS ne_nx_t nin0)) hU hN hD))) e191 BB171_0.1 rfl (by rw [hml]; rfl) (lenOf own_pd15 rfl) rfl (by exact Nat.le_of_eq rfl) (hd.at 98 rfl) (by decide) (by decide) (by decide) (by decide)) fun T194 L194 X194 hQ194 => ?_
      obtain ⟨N194, K194, fa, fk, rx, d0x, d1x, ge_fa, ge_fk, ne_fa_fk, hrx, BB194_0⟩ := hQ194
      have ne_ct_fa : ct ≠ fa := Nat.ne_of_lt (Nat.lt_of_lt_of_le f91.2.2.2.2.2.2.2.2.2.2.2.1.lt ge_fa)
      have ne_ed_fa : ed ≠ fa := Nat.ne_of_lt (Nat.lt_of_lt_of_le f91.1.lt ge_fa)
      have ne_gd_fa : gd ≠ fa := Nat.ne_of_lt (Nat.lt_of_lt_of_le f91.2.2.2.2.2.2.2.2.2.2.2.2.lt ge_fa)
      have ne_k1_fa : k1 ≠ fa := Nat.ne_of_lt (Nat.lt_of_lt_of_le BB171_0.2.2.2.2.2.2.2.2.2.2.2.2.1.lt ge_fa)
      have ne_k2_fa : k2 ≠ fa := Nat.ne_of_lt (Nat.lt_of_lt_of_le BB171_0.2.2.2.2.2.2.2.2.2.2.2.2.2.lt ge_fa)
      have ne_mm_fa : mm ≠ fa := Nat.ne_of_lt (Nat.lt_of_lt_of_le BB171_0.2.2.2.2.2.2.2.2.2.2.2.1.lt ge_fa)
      have ne_nx_fa : nx ≠ fa := Nat.ne_of_lt (Nat.lt_of_lt_of_le f41.lt ge_fa)
      have ne_px_fa : px ≠ fa := Nat.ne_of_lt (Nat.lt_of_lt_of_le f38.lt ge_fa)
      have ne_t_fa : t ≠ fa := Nat.ne_of_lt (Nat.lt_of_lt_of_le BB171_0.1.lt ge_fa)
      have ne_u_fa : u ≠ fa := Nat.ne_of_lt (Nat.lt_of_lt_of_le f91.2.2.2.2.2.2.2.2.2.2.1.lt ge_fa)
      have g_fa : n0 ≤ fa := Nat.le_trans sz171 ge_fa
      have kz_fa := Nat.le_trans kp171.1 ge_fa
      have ne_ct_fk : ct ≠ fk := Nat.ne_of_lt (Nat.lt_of_lt_of_le f91.2.2.2.2.2.2.2.2.2.2.2.1.lt ge_fk)
      have ne_ed_fk : ed ≠ fk := Nat.ne_of_lt (Nat.lt_of_lt_of_le f91.1.lt ge_fk)
      have ne_gd_fk : gd ≠ fk := Nat.ne_of_lt (Nat.lt_of_lt_of_le f91.2.2.2.2.2.2.2.2.2.2.2.2.lt ge_fk)
      have ne_k1_fk : k1 ≠ fk := Nat.ne_of_lt (Nat.lt_of_lt_of_le BB171_0.2.2.2.2.2.2.2.2.2.2.2.2.1.lt ge_fk)
      have ne_k2_fk : k2 ≠ fk := Nat.ne_of_lt (Nat.lt_of_lt_of_le BB171_0.2.2.2.2.2.2.2.2.2.2.2.2.2.lt ge_fk)
      have ne_mm_fk : mm ≠ fk := Nat.ne_of_lt (Nat.lt_of_lt_of_le BB171_0.2.2.2.2.2.2.2.2.2.2.2.1.lt ge_fk)
      have ne_nx_fk : nx ≠ fk := Nat.ne_of_lt (Nat.lt_of_lt_of_le f41.lt ge_fk)
      have ne_px_fk : px ≠ fk := Nat.ne_of_lt (Nat.lt_of_lt_of_le f38.lt ge_fk)
      have ne_t_fk : t ≠ fk := Nat.ne_of_lt (Nat.lt_of_lt_of_le BB171_0.1.lt ge_fk)
      have ne_u_fk : u ≠ fk := Nat.ne_of_lt (Nat.lt_of_lt_of_le f91.2.2.2.2.2.2.2.2.2.2.1.lt ge_fk)
      have g_fk : n0 ≤ fk := Nat.le_trans sz171 ge_fk
      have kz_fk := Nat.le_trans kp171.1 ge_fk
      have fr194 := Fr.app fr171 N194
      have kp194 := kp171.trans K194 (allS (Or.inr kz_t) all0)
      replace f38 := f38.keep K194 (ninS ne_px_t nin0)
      replace f41 := f41.keep K194 (ninS ne_nx_t nin0)
      replace f91 := f91.keep K194 (ninS ne_ed_t nin0) (ninS ne_u_t nin0) (ninS ne_ct_t nin0) (ninS ne_gd_t nin0)
      replace f92 := f92.keep K194 (ninS ne_ed_t nin0)
      have sz194 : n0 ≤ T194.heap.size := Nat.le_trans sz171 K194.1
      exact own_retV X194 hx hret hlk (hd.at 99 rfl) (by decide) (by decide) (by show _ ∧ _ ∧ Keep h0 T194.heap _ ∧ _; exact ⟨rfl, fr194, kp194, nx, kz_nx, f91.1, f91.2.1, f91.2.2.1, f91.2.2.2.1, f91.2.2.2.2.2.1, f91.2.2.2.2.2.2.2.2.2.2.1, f91.2.2.2.2.2.2.2.2.2.2.2.1, f91.2.2.2.2.2.2.2.2.2.2.2.2, f41⟩)
    · subst hM_170
      refine pA X171 hx (hd.at 90 rfl) rfl rfl ?_
      refine pF X171 hx hZ hown (wd hw 38 rfl) rfl f91.2.2.2.2.2.1 (hd.at 91 rfl) fun T195 X195 e195 => ?_
      refine pi X195 hx (hd.at 92 rfl) rfl ?_
      refine rI X195 hx hZ e195 f41 2 (.int 3) rfl (hd.at 93 rfl) ?_
      refine ps X195 hx #[.val (.ref ed), .val (.ref u), .val (.ref ct), .val (.ref gd), .val (.int 4), .val (.int 4), .val (.long nn), .second, .val (.double 4613937818241073152), .second, .val (.double FP.dconst1), .second, .val (.int 4), .val (.int 3)] (hd.at 94 rfl) rfl ?_
      refine pG X195 hx 161 (hd.at 95 rfl) ?_
      refine pi X195 hx (hd.at 81 rfl) rfl ?_
      refine pC X195 hx (-1) (hd.at 82 rfl) rfl ?_
      refine pcN X195 hx (hd.at 83 rfl) ((feq (by decide)).1) ?_
      refine pA X195 hx (hd.at 84 rfl) rfl rfl ?_
      refine pi X195 hx (hd.at 85 rfl) rfl ?_
      refine pA X195 hx (hd.at 86 rfl) rfl rfl ?_
      refine pF X195 hx hZ hown (wd hw 63 rfl) e195 f92.2.2.1 (hd.at 87 rfl) fun T196 X196 e196 => ?_
      refine pC X196 hx 1 (hd.at 88 rfl) rfl ?_
      obtain ⟨u197, u198, u199, u200, u201, u202, u203, u204, u205, u206, u207, u208, u209, u210⟩ := id BB171_0
      have f211 : OTM Z T171.heap t mm (6 : Int64) := ⟨u197, u202, u208⟩
      clear u198 u199 u200 u201 u203 u204 u205 u206 u207 u209 u210
      refine pgN (own_private X196 hx hZ (y := yN4) (rm := ⟨2, 0, 0, 26⟩) (W := 0) (a := ed) (argsL := [(.int 3), (.ref t), (.int 1)]) (rest := []) hown (wd hw 65 rfl) (wd hw 66 rfl) (wd hw 67 rfl) (wd hw 107 rfl) rfl (wd hw 7 rfl) (wd hw 68 rfl) (rmOz3 l Z a0 hw ed t (1 : Int32) T171.heap mm (6 : Int64) nx own_n4 f211 (by decide) rfl f91.2.2.2.2.2.1 f41) e196 f91.1 rfl (by rw [hml]; rfl) (lenOf own_pd12 rfl) rfl (by exact Nat.le_of_eq rfl) (hd.at 89 rfl) (by decide) (by decide) (by decide) (by decide)) fun T212 X212 e212 => ?_
      refine pA X212 hx (hd.at 90 rfl) rfl rfl ?_
      refine pF X212 hx hZ hown (wd hw 38 rfl) e212 f91.2.2.2.2.2.1 (hd.at 91 rfl) fun T213 X213 e213 => ?_
      refine pi X213 hx (hd.at 92 rfl) rfl ?_
      refine rI X213 hx hZ e213 f41 3 (.int (-1)) rfl (hd.at 93 rfl) ?_
      refine ps X213 hx #[.val (.ref ed), .val (.ref u), .val (.ref ct), .val (.ref gd), .val (.int 4), .val (.int 4), .val (.long nn), .second, .val (.double 4613937818241073152), .second, .val (.double FP.dconst1), .second, .val (.int 4), .val (.int (-1))] (hd.at 94 rfl) rfl ?_
      refine pG X213 hx 161 (hd.at 95 rfl) ?_
      refine pi X213 hx (hd.at 81 rfl) rfl ?_
      refine pC X213 hx (-1) (hd.at 82 rfl) rfl ?_
      refine pcY X213 hx 190 (hd.at 83 rfl) ((teq rfl).1) ?_
      refine pA X213 hx (hd.at 96 rfl) rfl rfl ?_
      refine pF X213 hx hZ hown (wd hw 63 rfl) e213 f92.2.2.1 (hd.at 97 rfl) fun T214 X214 e214 => ?_
      have hS_215 := (OOrd.cons g_t (allS ne_t_mm (allS ne_t_k1 (allS ne_t_k2 all0))) (OOrd.cons g_mm (allS n115 (allS n114 all0)) (OOrd.cons g_k1 (allS ne_k1_k2 all0) (OOrd.cons g_k2 all0 OOrd.nil))))
      have f216 : ORd Z T171.heap ed u ct gd px nx fu fc fg own_p4 own_n4 (FP.l2d nn) := ⟨f91.1, f91.2.1, f91.2.2.1, f91.2.2.2.1, f91.2.2.2.2.1, f91.2.2.2.2.2.1, f91.2.2.2.2.2.2.1, f91.2.2.2.2.2.2.2.1, f91.2.2.2.2.2.2.2.2.1, f91.2.2.2.2.2.2.2.2.2.1, f91.2.2.2.2.2.2.2.2.2.2.1, f91.2.2.2.2.2.2.2.2.2.2.2.1, f91.2.2.2.2.2.2.2.2.2.2.2.2, f38, f41⟩
      refine pgV (own_virtual X214 hx hZ (y := yN7) (z := yN7) (rm := ⟨9, 2, 4, 156⟩) (W := 0) (a := t) (argsL := []) (rest := []) hown (wd hw 79 rfl) (wd hw 80 rfl) (notFace_of_selects (args := #[]) (mvT hZ (wd hw 82 rfl))) (wd hw 82 rfl) (wd hw 81 rfl) (wd hw 42 rfl) (wd hw 83 rfl) (rmPl l Z a0 hw t T171.heap n0 mm k1 k2 ed sz_170 (6 : Int64) (fun _ => True) sz171 BB171_0 hS_215 (fun h1 fa fk K B' hS' => rmSc46 l Z a0 hw t h1 n0 mm fa fk k1 k2 ed sz_170 0 0 0 0 0 u ct gd px nx fu fc fg (FP.l2d nn) B' hS' (f216.keep K (ninS ne_ed_t nin0) (ninS ne_u_t nin0) (ninS ne_ct_t nin0) (ninS ne_gd_t nin0) (ninS ne_px_t nin0) (ninS ne_nx_t nin0)) hU hN hD)) e214 BB171_0.1 rfl (by rw [hml]; rfl) (lenOf own_pd15 rfl) rfl (by exact Nat.le_of_eq rfl) (hd.at 98 rfl) (by decide) (by decide) (by decide) (by decide)) fun T217 L217 X217 hQ217 => ?_
      obtain ⟨N217, K217, fa, fk, rx, d0x, d1x, ge_fa, ge_fk, ne_fa_fk, hrx, BB217_0⟩ := hQ217
      have ne_ct_fa : ct ≠ fa := Nat.ne_of_lt (Nat.lt_of_lt_of_le f91.2.2.2.2.2.2.2.2.2.2.2.1.lt ge_fa)
      have ne_ed_fa : ed ≠ fa := Nat.ne_of_lt (Nat.lt_of_lt_of_le f91.1.lt ge_fa)
      have ne_gd_fa : gd ≠ fa := Nat.ne_of_lt (Nat.lt_of_lt_of_le f91.2.2.2.2.2.2.2.2.2.2.2.2.lt ge_fa)
      have ne_k1_fa : k1 ≠ fa := Nat.ne_of_lt (Nat.lt_of_lt_of_le BB171_0.2.2.2.2.2.2.2.2.2.2.2.2.1.lt ge_fa)
      have ne_k2_fa : k2 ≠ fa := Nat.ne_of_lt (Nat.lt_of_lt_of_le BB171_0.2.2.2.2.2.2.2.2.2.2.2.2.2.lt ge_fa)
      have ne_mm_fa : mm ≠ fa := Nat.ne_of_lt (Nat.lt_of_lt_of_le BB171_0.2.2.2.2.2.2.2.2.2.2.2.1.lt ge_fa)
      have ne_nx_fa : nx ≠ fa := Nat.ne_of_lt (Nat.lt_of_lt_of_le f41.lt ge_fa)
      have ne_px_fa : px ≠ fa := Nat.ne_of_lt (Nat.lt_of_lt_of_le f38.lt ge_fa)
      have ne_t_fa : t ≠ fa := Nat.ne_of_lt (Nat.lt_of_lt_of_le BB171_0.1.lt ge_fa)
      have ne_u_fa : u ≠ fa := Nat.ne_of_lt (Nat.lt_of_lt_of_le f91.2.2.2.2.2.2.2.2.2.2.1.lt ge_fa)
      have g_fa : n0 ≤ fa := Nat.le_trans sz171 ge_fa
      have kz_fa := Nat.le_trans kp171.1 ge_fa
      have ne_ct_fk : ct ≠ fk := Nat.ne_of_lt (Nat.lt_of_lt_of_le f91.2.2.2.2.2.2.2.2.2.2.2.1.lt ge_fk)
      have ne_ed_fk : ed ≠ fk := Nat.ne_of_lt (Nat.lt_of_lt_of_le f91.1.lt ge_fk)
      have ne_gd_fk : gd ≠ fk := Nat.ne_of_lt (Nat.lt_of_lt_of_le f91.2.2.2.2.2.2.2.2.2.2.2.2.lt ge_fk)
      have ne_k1_fk : k1 ≠ fk := Nat.ne_of_lt (Nat.lt_of_lt_of_le BB171_0.2.2.2.2.2.2.2.2.2.2.2.2.1.lt ge_fk)
      have ne_k2_fk : k2 ≠ fk := Nat.ne_of_lt (Nat.lt_of_lt_of_le BB171_0.2.2.2.2.2.2.2.2.2.2.2.2.2.lt ge_fk)
      have ne_mm_fk : mm ≠ fk := Nat.ne_of_lt (Nat.lt_of_lt_of_le BB171_0.2.2.2.2.2.2.2.2.2.2.2.1.lt ge_fk)
      have ne_nx_fk : nx ≠ fk := Nat.ne_of_lt (Nat.lt_of_lt_of_le f41.lt ge_fk)
      have ne_px_fk : px ≠ fk := Nat.ne_of_lt (Nat.lt_of_lt_of_le f38.lt ge_fk)
      have ne_t_fk : t ≠ fk := Nat.ne_of_lt (Nat.lt_of_lt_of_le BB171_0.1.lt ge_fk)
      have ne_u_fk : u ≠ fk := Nat.ne_of_lt (Nat.lt_of_lt_of_le f91.2.2.2.2.2.2.2.2.2.2.1.lt ge_fk)
      have g_fk : n0 ≤ fk := Nat.le_trans sz171 ge_fk
      have kz_fk := Nat.le_trans kp171.1 ge_fk
      have fr217 := Fr.app fr171 N217
      have kp217 := kp171.trans K217 (allS (Or.inr kz_t) all0)
      replace f38 := f38.keep K217 (ninS ne_px_t nin0)
      replace f41 := f41.keep K217 (ninS ne_nx_t nin0)
      replace f91 := f91.keep K217 (ninS ne_ed_t nin0) (ninS ne_u_t nin0) (ninS ne_ct_t nin0) (ninS ne_gd_t nin0)
      replace f92 := f92.keep K217 (ninS ne_ed_t nin0)
      have sz217 : n0 ≤ T217.heap.size := Nat.le_trans sz171 K217.1
      exact own_retV X217 hx hret hlk (hd.at 99 rfl) (by decide) (by decide) (by show _ ∧ _ ∧ Keep h0 T217.heap _ ∧ _; exact ⟨rfl, fr217, kp217, nx, kz_nx, f91.1, f91.2.1, f91.2.2.1, f91.2.2.2.1, f91.2.2.2.2.2.1, f91.2.2.2.2.2.2.2.2.2.2.1, f91.2.2.2.2.2.2.2.2.2.2.2.1, f91.2.2.2.2.2.2.2.2.2.2.2.2, f41⟩)
set_option maxRecDepth 65536 in
set_option maxHeartbeats 40000000 in
theorem rmWr1 (l : Launch) (Z : State) (a0 : Array Value) (hw : ∀ d ∈ tables_1, d.before a0 Z = true) (ed : Addr) (o1 : Addr) (o2 : Addr) (o3 : Addr) (h0 : Heap) (n0 : Nat) (u ct gd nx : Addr) (fu fc : Nat → UInt64) (fg : Nat → Int32) (a1 a2 : Nat → UInt64) (a3 : Nat → Int32) (B : OWr Z h0 ed u ct gd nx fu fc fg own_n1) (A1 : OArr Z h0 o1 .double 4 (fun i => .double (a1 i))) (A2 : OArr Z h0 o2 .double 4 (fun i => .double (a2 i))) (A3 : OArr Z h0 o3 .boolean 4 (fun i => .int (a3 i))) (hG : ∀ i, nar .boolean (fg i) = fg i) (hS : OOrd n0 [ed, u, ct, gd, nx, o1, o2, o3]) :
    OMet l Z yN11 prog_72_method_3_code 6 (some .int) (⟨0, 0, 0, 0⟩ : Room) #[(.ref ed), (.ref o1), (.ref o2), (.ref o3)] h0 (fun v h L => v = some (.int (1 : Int32)) ∧ Fr n0 L ∧ Keep h0 h [o1, o2, o3] ∧ OArr Z h o1 .double 4 (fun i => .double ((own_q4 (fu 0) (a1 1) (a1 2) (a1 3)) i)) ∧ OArr Z h o2 .double 4 (fun i => .double ((own_q4 (fc 0) (a2 1) (a2 2) (a2 3)) i)) ∧ OArr Z h o3 .boolean 4 (fun i => .int ((own_q4 (fg 0) (a3 1) (a3 2) (a3 3)) i))) := by
  refine own_enter own_pn11 ?_
  intro p e s m below meth c T0 X0 hC e0 hnamed
  have hC0 := hC
  obtain ⟨hx, hZH, hby, hml, hown, hret, hlk, hnm⟩ := hC
  have hZ := hZH.wide
  have hown : s.vm.findClass "com/example/rankfold/rankfold/summaries/BucketEditor" = some m.cls := hown
  refine own_at (own_ef11_RRRR m ed o1 o2 o3) ?_
  have hd := D11.to hby
  have N0 := Fr.nil n0
  have kp0 := Keep.refl h0 [o1, o2, o3]
  refine pC X0 hx 0 (hd.at 0 rfl) rfl ?_
  refine ps X0 hx #[.val (.ref ed), .val (.ref o1), .val (.ref o2), .val (.ref o3), .val (.int 0), .unset] (hd.at 1 rfl) rfl ?_
  refine pC X0 hx 0 (hd.at 2 rfl) rfl ?_
  refine ps X0 hx #[.val (.ref ed), .val (.ref o1), .val (.ref o2), .val (.ref o3), .val (.int 0), .val (.int 0)] (hd.at 3 rfl) rfl ?_
  refine pi X0 hx (hd.at 4 rfl) rfl ?_
  refine pC X0 hx (-1) (hd.at 5 rfl) rfl ?_
  refine pcN X0 hx (hd.at 6 rfl) ((feq (by decide)).1) ?_
  refine pA X0 hx (hd.at 7 rfl) rfl rfl ?_
  refine pi X0 hx (hd.at 8 rfl) rfl ?_
  refine pA X0 hx (hd.at 9 rfl) rfl rfl ?_
  refine pF X0 hx hZ hown (wd hw 29 rfl) e0 B.2.1 (hd.at 10 rfl) fun T1 X1 e1 => ?_
  refine pi X1 hx (hd.at 11 rfl) rfl ?_
  refine rD X1 hx hZ e1 B.2.2.2.2.2.1 0 (.double (fu 0)) rfl (hd.at 12 rfl) ?_
  refine wD X1 hx hZ e1 A1 0 (hd.at 13 rfl) fun T2 h2 X2 e2 W2 V2 => ?_
  have f3 : OArr Z h2 o1 .double 4 (fun i => .double ((own_q4 (fu 0) (a1 1) (a1 2) (a1 3)) i)) := V2.congr (own_lt4 rfl rfl rfl rfl)
  have n4 := hS.ne 5 6
  have n5 := Ne.symm n4
  replace A2 := A2.other W2 n5
  have n6 := hS.ne 5 7
  have n7 := Ne.symm n6
  replace A3 := A3.other W2 n7
  have n8 := hS.ne 0 5
  have n9 := hS.ne 1 5
  have n10 := hS.ne 2 5
  have n11 := hS.ne 3 5
  have n12 := hS.ne 4 5
  have f13 := B.keep (Keep.of_wr W2) (ninS n8 nin0) (ninS n9 nin0) (ninS n10 nin0) (ninS n11 nin0) (ninS n12 nin0)
  have fr2 := Fr.snoc X2 N0 (hS.ge 5 rfl)
  have kp2 := kp0.wr W2 (Or.inl (List.mem_of_getElem? (i := 0) rfl))
  refine pA X2 hx (hd.at 14 rfl) rfl rfl ?_
  refine pi X2 hx (hd.at 15 rfl) rfl ?_
  refine pA X2 hx (hd.at 16 rfl) rfl rfl ?_
  refine pF X2 hx hZ hown (wd hw 31 rfl) e2 f13.2.2.1 (hd.at 17 rfl) fun T14 X14 e14 => ?_
  refine pi X14 hx (hd.at 18 rfl) rfl ?_
  refine rD X14 hx hZ e14 f13.2.2.2.2.2.2.1 0 (.double (fc 0)) rfl (hd.at 19 rfl) ?_
  refine wD X14 hx hZ e14 A2 0 (hd.at 20 rfl) fun T15 h15 X15 e15 W15 V15 => ?_
  have f16 : OArr Z h15 o2 .double 4 (fun i => .double ((own_q4 (fc 0) (a2 1) (a2 2) (a2 3)) i)) := V15.congr (own_lt4 rfl rfl rfl rfl)
  replace f3 := f3.other W15 n4
  have n17 := hS.ne 6 7
  have n18 := Ne.symm n17
  replace A3 := A3.other W15 n18
  have n19 := hS.ne 0 6
  have n20 := hS.ne 1 6
  have n21 := hS.ne 2 6
  have n22 := hS.ne 3 6
  have n23 := hS.ne 4 6
  replace f13 := f13.keep (Keep.of_wr W15) (ninS n19 nin0) (ninS n20 nin0) (ninS n21 nin0) (ninS n22 nin0) (ninS n23 nin0)
  have fr15 := Fr.snoc X15 fr2 (hS.ge 6 rfl)
  have kp15 := kp2.wr W15 (Or.inl (List.mem_of_getElem? (i := 1) rfl))
  refine pA X15 hx (hd.at 21 rfl) rfl rfl ?_
  refine pi X15 hx (hd.at 22 rfl) rfl ?_
  refine pA X15 hx (hd.at 23 rfl) rfl rfl ?_
  refine pF X15 hx hZ hown (wd hw 33 rfl) e15 f13.2.2.2.1 (hd.at 24 rfl) fun T24 X24 e24 => ?_
  refine pi X24 hx (hd.at 25 rfl) rfl ?_
  refine rZ X24 hx hZ e24 f13.2.2.2.2.2.2.2.1 0 (.int (fg 0)) rfl (hd.at 26 rfl) ?_
  refine wZ X24 hx hZ e24 A3 0 (hG 0) (hd.at 27 rfl) fun T25 h25 X25 e25 W25 V25 => ?_
  have f26 : OArr Z h25 o3 .boolean 4 (fun i => .int ((own_q4 (fg 0) (a3 1) (a3 2) (a3 3)) i)) := V25.congr (own_lt4 rfl rfl rfl rfl)
  replace f3 := f3.other W25 n6
  replace f16 := f16.other W25 n17
  have n27 := hS.ne 0 7
  have n28 := hS.ne 1 7
  have n29 := hS.ne 2 7
  have n30 := hS.ne 3 7
  have n31 := hS.ne 4 7
  replace f13 := f13.keep (Keep.of_wr W25) (ninS n27 nin0) (ninS n28 nin0) (ninS n29 nin0) (ninS n30 nin0) (ninS n31 nin0)
  have fr25 := Fr.snoc X25 fr15 (hS.ge 7 rfl)
  have kp25 := kp15.wr W25 (Or.inl (List.mem_of_getElem? (i := 2) rfl))
  refine pN X25 hx (1 : Int32) #[.val (.ref ed), .val (.ref o1), .val (.ref o2), .val (.ref o3), .val (.int 1), .val (.int 0)] (hd.at 28 rfl) rfl (by decide) rfl ?_
  refine pA X25 hx (hd.at 29 rfl) rfl rfl ?_
  refine pF X25 hx hZ hown (wd hw 38 rfl) e25 f13.2.2.2.2.1 (hd.at 30 rfl) fun T32 X32 e32 => ?_
  refine pi X32 hx (hd.at 31 rfl) rfl ?_
  refine rI X32 hx hZ e32 f13.2.2.2.2.2.2.2.2 0 (.int (-1)) rfl (hd.at 32 rfl) ?_
  refine ps X32 hx #[.val (.ref ed), .val (.ref o1), .val (.ref o2), .val (.ref o3), .val (.int 1), .val (.int (-1))] (hd.at 33 rfl) rfl ?_
  refine pG X32 hx 6 (hd.at 34 rfl) ?_
  refine pi X32 hx (hd.at 4 rfl) rfl ?_
  refine pC X32 hx (-1) (hd.at 5 rfl) rfl ?_
  refine pcY X32 hx 60 (hd.at 6 rfl) ((teq rfl).1) ?_
  refine pi X32 hx (hd.at 35 rfl) rfl ?_
  exact own_ret X32 hx (t := .int) hret hlk rfl (Or.inl ⟨rfl, by simp, _, rfl⟩) (hd.at 36 rfl) (by decide) (by decide) (by show _ ∧ _ ∧ Keep h0 T32.heap _ ∧ _; rw [e32]; exact ⟨rfl, fr25, kp25, f3, f16, f26⟩)
set_option maxRecDepth 65536 in
set_option maxHeartbeats 40000000 in
theorem rmWr2 (l : Launch) (Z : State) (a0 : Array Value) (hw : ∀ d ∈ tables_1, d.before a0 Z = true) (ed : Addr) (o1 : Addr) (o2 : Addr) (o3 : Addr) (h0 : Heap) (n0 : Nat) (u ct gd nx : Addr) (fu fc : Nat → UInt64) (fg : Nat → Int32) (a1 a2 : Nat → UInt64) (a3 : Nat → Int32) (B : OWr Z h0 ed u ct gd nx fu fc fg own_n2) (A1 : OArr Z h0 o1 .double 4 (fun i => .double (a1 i))) (A2 : OArr Z h0 o2 .double 4 (fun i => .double (a2 i))) (A3 : OArr Z h0 o3 .boolean 4 (fun i => .int (a3 i))) (hG : ∀ i, nar .boolean (fg i) = fg i) (hS : OOrd n0 [ed, u, ct, gd, nx, o1, o2, o3]) :
    OMet l Z yN11 prog_72_method_3_code 6 (some .int) (⟨0, 0, 0, 0⟩ : Room) #[(.ref ed), (.ref o1), (.ref o2), (.ref o3)] h0 (fun v h L => v = some (.int (2 : Int32)) ∧ Fr n0 L ∧ Keep h0 h [o1, o2, o3] ∧ OArr Z h o1 .double 4 (fun i => .double ((own_q4 (fu 0) (fu 1) (a1 2) (a1 3)) i)) ∧ OArr Z h o2 .double 4 (fun i => .double ((own_q4 (fc 0) (fc 1) (a2 2) (a2 3)) i)) ∧ OArr Z h o3 .boolean 4 (fun i => .int ((own_q4 (fg 0) (fg 1) (a3 2) (a3 3)) i))) := by
  refine own_enter own_pn11 ?_
  intro p e s m below meth c T0 X0 hC e0 hnamed
  have hC0 := hC
  obtain ⟨hx, hZH, hby, hml, hown, hret, hlk, hnm⟩ := hC
  have hZ := hZH.wide
  have hown : s.vm.findClass "com/example/rankfold/rankfold/summaries/BucketEditor" = some m.cls := hown
  refine own_at (own_ef11_RRRR m ed o1 o2 o3) ?_
  have hd := D11.to hby
  have N0 := Fr.nil n0
  have kp0 := Keep.refl h0 [o1, o2, o3]
  refine pC X0 hx 0 (hd.at 0 rfl) rfl ?_
  refine ps X0 hx #[.val (.ref ed), .val (.ref o1), .val (.ref o2), .val (.ref o3), .val (.int 0), .unset] (hd.at 1 rfl) rfl ?_
  refine pC X0 hx 0 (hd.at 2 rfl) rfl ?_
  refine ps X0 hx #[.val (.ref ed), .val (.ref o1), .val (.ref o2), .val (.ref o3), .val (.int 0), .val (.int 0)] (hd.at 3 rfl) rfl ?_
  refine pi X0 hx (hd.at 4 rfl) rfl ?_
  refine pC X0 hx (-1) (hd.at 5 rfl) rfl ?_
  refine pcN X0 hx (hd.at 6 rfl) ((feq (by decide)).1) ?_
  refine pA X0 hx (hd.at 7 rfl) rfl rfl ?_
  refine pi X0 hx (hd.at 8 rfl) rfl ?_
  refine pA X0 hx (hd.at 9 rfl) rfl rfl ?_
  refine pF X0 hx hZ hown (wd hw 29 rfl) e0 B.2.1 (hd.at 10 rfl) fun T1 X1 e1 => ?_
  refine pi X1 hx (hd.at 11 rfl) rfl ?_
  refine rD X1 hx hZ e1 B.2.2.2.2.2.1 0 (.double (fu 0)) rfl (hd.at 12 rfl) ?_
  refine wD X1 hx hZ e1 A1 0 (hd.at 13 rfl) fun T2 h2 X2 e2 W2 V2 => ?_
  have f3 : OArr Z h2 o1 .double 4 (fun i => .double ((own_q4 (fu 0) (a1 1) (a1 2) (a1 3)) i)) := V2.congr (own_lt4 rfl rfl rfl rfl)
  have n4 := hS.ne 5 6
  have n5 := Ne.symm n4
  replace A2 := A2.other W2 n5
  have n6 := hS.ne 5 7
  have n7 := Ne.symm n6
  replace A3 := A3.other W2 n7
  have n8 := hS.ne 0 5
  have n9 := hS.ne 1 5
  have n10 := hS.ne 2 5
  have n11 := hS.ne 3 5
  have n12 := hS.ne 4 5
  have f13 := B.keep (Keep.of_wr W2) (ninS n8 nin0) (ninS n9 nin0) (ninS n10 nin0) (ninS n11 nin0) (ninS n12 nin0)
  have fr2 := Fr.snoc X2 N0 (hS.ge 5 rfl)
  have kp2 := kp0.wr W2 (Or.inl (List.mem_of_getElem? (i := 0) rfl))
  refine pA X2 hx (hd.at 14 rfl) rfl rfl ?_
  refine pi X2 hx (hd.at 15 rfl) rfl ?_
  refine pA X2 hx (hd.at 16 rfl) rfl rfl ?_
  refine pF X2 hx hZ hown (wd hw 31 rfl) e2 f13.2.2.1 (hd.at 17 rfl) fun T14 X14 e14 => ?_
  refine pi X14 hx (hd.at 18 rfl) rfl ?_
  refine rD X14 hx hZ e14 f13.2.2.2.2.2.2.1 0 (.double (fc 0)) rfl (hd.at 19 rfl) ?_
  refine wD X14 hx hZ e14 A2 0 (hd.at 20 rfl) fun T15 h15 X15 e15 W15 V15 => ?_
  have f16 : OArr Z h15 o2 .double 4 (fun i => .double ((own_q4 (fc 0) (a2 1) (a2 2) (a2 3)) i)) := V15.congr (own_lt4 rfl rfl rfl rfl)
  replace f3 := f3.other W15 n4
  have n17 := hS.ne 6 7
  have n18 := Ne.symm n17
  replace A3 := A3.other W15 n18
  have n19 := hS.ne 0 6
  have n20 := hS.ne 1 6
  have n21 := hS.ne 2 6
  have n22 := hS.ne 3 6
  have n23 := hS.ne 4 6
  replace f13 := f13.keep (Keep.of_wr W15) (ninS n19 nin0) (ninS n20 nin0) (ninS n21 nin0) (ninS n22 nin0) (ninS n23 nin0)
  have fr15 := Fr.snoc X15 fr2 (hS.ge 6 rfl)
  have kp15 := kp2.wr W15 (Or.inl (List.mem_of_getElem? (i := 1) rfl))
  refine pA X15 hx (hd.at 21 rfl) rfl rfl ?_
  refine pi X15 hx (hd.at 22 rfl) rfl ?_
  refine pA X15 hx (hd.at 23 rfl) rfl rfl ?_
  refine pF X15 hx hZ hown (wd hw 33 rfl) e15 f13.2.2.2.1 (hd.at 24 rfl) fun T24 X24 e24 => ?_
  refine pi X24 hx (hd.at 25 rfl) rfl ?_
  refine rZ X24 hx hZ e24 f13.2.2.2.2.2.2.2.1 0 (.int (fg 0)) rfl (hd.at 26 rfl) ?_
  refine wZ X24 hx hZ e24 A3 0 (hG 0) (hd.at 27 rfl) fun T25 h25 X25 e25 W25 V25 => ?_
  have f26 : OArr Z h25 o3 .boolean 4 (fun i => .int ((own_q4 (fg 0) (a3 1) (a3 2) (a3 3)) i)) := V25.congr (own_lt4 rfl rfl rfl rfl)
  replace f3 := f3.other W25 n6
  replace f16 := f16.other W25 n17
  have n27 := hS.ne 0 7
  have n28 := hS.ne 1 7
  have n29 := hS.ne 2 7
  have n30 := hS.ne 3 7
  have n31 := hS.ne 4 7
  replace f13 := f13.keep (Keep.of_wr W25) (ninS n27 nin0) (ninS n28 nin0) (ninS n29 nin0) (ninS n30 nin0) (ninS n31 nin0)
  have fr25 := Fr.snoc X25 fr15 (hS.ge 7 rfl)
  have kp25 := kp15.wr W25 (Or.inl (List.mem_of_getElem? (i := 2) rfl))
  refine pN X25 hx (1 : Int32) #[.val (.ref ed), .val (.ref o1), .val (.ref o2), .val (.ref o3), .val (.int 1), .val (.int 0)] (hd.at 28 rfl) rfl (by decide) rfl ?_
  refine pA X25 hx (hd.at 29 rfl) rfl rfl ?_
  refine pF X25 hx hZ hown (wd hw 38 rfl) e25 f13.2.2.2.2.1 (hd.at 30 rfl) fun T32 X32 e32 => ?_
  refine pi X32 hx (hd.at 31 rfl) rfl ?_
  refine rI X32 hx hZ e32 f13.2.2.2.2.2.2.2.2 0 (.int 1) rfl (hd.at 32 rfl) ?_
  refine ps X32 hx #[.val (.ref ed), .val (.ref o1), .val (.ref o2), .val (.ref o3), .val (.int 1), .val (.int 1)] (hd.at 33 rfl) rfl ?_
  refine pG X32 hx 6 (hd.at 34 rfl) ?_
  refine pi X32 hx (hd.at 4 rfl) rfl ?_
  refine pC X32 hx (-1) (hd.at 5 rfl) rfl ?_
  refine pcN X32 hx (hd.at 6 rfl) ((feq (by decide)).1) ?_
  refine pA X32 hx (hd.at 7 rfl) rfl rfl ?_
  refine pi X32 hx (hd.at 8 rfl) rfl ?_
  refine pA X32 hx (hd.at 9 rfl) rfl rfl ?_
  refine pF X32 hx hZ hown (wd hw 29 rfl) e32 f13.2.1 (hd.at 10 rfl) fun T33 X33 e33 => ?_
  refine pi X33 hx (hd.at 11 rfl) rfl ?_
  refine rD X33 hx hZ e33 f13.2.2.2.2.2.1 1 (.double (fu 1)) rfl (hd.at 12 rfl) ?_
  refine wD X33 hx hZ e33 f3 1 (hd.at 13 rfl) fun T34 h34 X34 e34 W34 V34 => ?_
  have f35 : OArr Z h34 o1 .double 4 (fun i => .double ((own_q4 (fu 0) (fu 1) (a1 2) (a1 3)) i)) := V34.congr (own_lt4 rfl rfl rfl rfl)
  replace f16 := f16.other W34 n5
  replace f26 := f26.other W34 n7
  replace f13 := f13.keep (Keep.of_wr W34) (ninS n8 nin0) (ninS n9 nin0) (ninS n10 nin0) (ninS n11 nin0) (ninS n12 nin0)
  have fr34 := Fr.snoc X34 fr25 (hS.ge 5 rfl)
  have kp34 := kp25.wr W34 (Or.inl (List.mem_of_getElem? (i := 0) rfl))
  refine pA X34 hx (hd.at 14 rfl) rfl rfl ?_
  refine pi X34 hx (hd.at 15 rfl) rfl ?_
  refine pA X34 hx (hd.at 16 rfl) rfl rfl ?_
  refine pF X34 hx hZ hown (wd hw 31 rfl) e34 f13.2.2.1 (hd.at 17 rfl) fun T36 X36 e36 => ?_
  refine pi X36 hx (hd.at 18 rfl) rfl ?_
  refine rD X36 hx hZ e36 f13.2.2.2.2.2.2.1 1 (.double (fc 1)) rfl (hd.at 19 rfl) ?_
  refine wD X36 hx hZ e36 f16 1 (hd.at 20 rfl) fun T37 h37 X37 e37 W37 V37 => ?_
  have f38 : OArr Z h37 o2 .double 4 (fun i => .double ((own_q4 (fc 0) (fc 1) (a2 2) (a2 3)) i)) := V37.congr (own_lt4 rfl rfl rfl rfl)
  replace f35 := f35.other W37 n4
  replace f26 := f26.other W37 n18
  replace f13 := f13.keep (Keep.of_wr W37) (ninS n19 nin0) (ninS n20 nin0) (ninS n21 nin0) (ninS n22 nin0) (ninS n23 nin0)
  have fr37 := Fr.snoc X37 fr34 (hS.ge 6 rfl)
  have kp37 := kp34.wr W37 (Or.inl (List.mem_of_getElem? (i := 1) rfl))
  refine pA X37 hx (hd.at 21 rfl) rfl rfl ?_
  refine pi X37 hx (hd.at 22 rfl) rfl ?_
  refine pA X37 hx (hd.at 23 rfl) rfl rfl ?_
  refine pF X37 hx hZ hown (wd hw 33 rfl) e37 f13.2.2.2.1 (hd.at 24 rfl) fun T39 X39 e39 => ?_
  refine pi X39 hx (hd.at 25 rfl) rfl ?_
  refine rZ X39 hx hZ e39 f13.2.2.2.2.2.2.2.1 1 (.int (fg 1)) rfl (hd.at 26 rfl) ?_
  refine wZ X39 hx hZ e39 f26 1 (hG 1) (hd.at 27 rfl) fun T40 h40 X40 e40 W40 V40 => ?_
  have f41 : OArr Z h40 o3 .boolean 4 (fun i => .int ((own_q4 (fg 0) (fg 1) (a3 2) (a3 3)) i)) := V40.congr (own_lt4 rfl rfl rfl rfl)
  replace f35 := f35.other W40 n6
  replace f38 := f38.other W40 n17
  replace f13 := f13.keep (Keep.of_wr W40) (ninS n27 nin0) (ninS n28 nin0) (ninS n29 nin0) (ninS n30 nin0) (ninS n31 nin0)
  have fr40 := Fr.snoc X40 fr37 (hS.ge 7 rfl)
  have kp40 := kp37.wr W40 (Or.inl (List.mem_of_getElem? (i := 2) rfl))
  refine pN X40 hx (2 : Int32) #[.val (.ref ed), .val (.ref o1), .val (.ref o2), .val (.ref o3), .val (.int 2), .val (.int 1)] (hd.at 28 rfl) rfl (by decide) rfl ?_
  refine pA X40 hx (hd.at 29 rfl) rfl rfl ?_
  refine pF X40 hx hZ hown (wd hw 38 rfl) e40 f13.2.2.2.2.1 (hd.at 30 rfl) fun T42 X42 e42 => ?_
  refine pi X42 hx (hd.at 31 rfl) rfl ?_
  refine rI X42 hx hZ e42 f13.2.2.2.2.2.2.2.2 1 (.int (-1)) rfl (hd.at 32 rfl) ?_
  refine ps X42 hx #[.val (.ref ed), .val (.ref o1), .val (.ref o2), .val (.ref o3), .val (.int 2), .val (.int (-1))] (hd.at 33 rfl) rfl ?_
  refine pG X42 hx 6 (hd.at 34 rfl) ?_
  refine pi X42 hx (hd.at 4 rfl) rfl ?_
  refine pC X42 hx (-1) (hd.at 5 rfl) rfl ?_
  refine pcY X42 hx 60 (hd.at 6 rfl) ((teq rfl).1) ?_
  refine pi X42 hx (hd.at 35 rfl) rfl ?_
  exact own_ret X42 hx (t := .int) hret hlk rfl (Or.inl ⟨rfl, by simp, _, rfl⟩) (hd.at 36 rfl) (by decide) (by decide) (by show _ ∧ _ ∧ Keep h0 T42.heap _ ∧ _; rw [e42]; exact ⟨rfl, fr40, kp40, f35, f38, f41⟩)
set_option maxRecDepth 65536 in
set_option maxHeartbeats 40000000 in
theorem rmWr3 (l : Launch) (Z : State) (a0 : Array Value) (hw : ∀ d ∈ tables_1, d.before a0 Z = true) (ed : Addr) (o1 : Addr) (o2 : Addr) (o3 : Addr) (h0 : Heap) (n0 : Nat) (u ct gd nx : Addr) (fu fc : Nat → UInt64) (fg : Nat → Int32) (a1 a2 : Nat → UInt64) (a3 : Nat → Int32) (B : OWr Z h0 ed u ct gd nx fu fc fg own_n3) (A1 : OArr Z h0 o1 .double 4 (fun i => .double (a1 i))) (A2 : OArr Z h0 o2 .double 4 (fun i => .double (a2 i))) (A3 : OArr Z h0 o3 .boolean 4 (fun i => .int (a3 i))) (hG : ∀ i, nar .boolean (fg i) = fg i) (hS : OOrd n0 [ed, u, ct, gd, nx, o1, o2, o3]) :
    OMet l Z yN11 prog_72_method_3_code 6 (some .int) (⟨0, 0, 0, 0⟩ : Room) #[(.ref ed), (.ref o1), (.ref o2), (.ref o3)] h0 (fun v h L => v = some (.int (3 : Int32)) ∧ Fr n0 L ∧ Keep h0 h [o1, o2, o3] ∧ OArr Z h o1 .double 4 (fun i => .double ((own_q4 (fu 0) (fu 1) (fu 2) (a1 3)) i)) ∧ OArr Z h o2 .double 4 (fun i => .double ((own_q4 (fc 0) (fc 1) (fc 2) (a2 3)) i)) ∧ OArr Z h o3 .boolean 4 (fun i => .int ((own_q4 (fg 0) (fg 1) (fg 2) (a3 3)) i))) := by
  refine own_enter own_pn11 ?_
  intro p e s m below meth c T0 X0 hC e0 hnamed
  have hC0 := hC
  obtain ⟨hx, hZH, hby, hml, hown, hret, hlk, hnm⟩ := hC
  have hZ := hZH.wide
  have hown : s.vm.findClass "com/example/rankfold/rankfold/summaries/BucketEditor" = some m.cls := hown
  refine own_at (own_ef11_RRRR m ed o1 o2 o3) ?_
  have hd := D11.to hby
  have N0 := Fr.nil n0
  have kp0 := Keep.refl h0 [o1, o2, o3]
  refine pC X0 hx 0 (hd.at 0 rfl) rfl ?_
  refine ps X0 hx #[.val (.ref ed), .val (.ref o1), .val (.ref o2), .val (.ref o3), .val (.int 0), .unset] (hd.at 1 rfl) rfl ?_
  refine pC X0 hx 0 (hd.at 2 rfl) rfl ?_
  refine ps X0 hx #[.val (.ref ed), .val (.ref o1), .val (.ref o2), .val (.ref o3), .val (.int 0), .val (.int 0)] (hd.at 3 rfl) rfl ?_
  refine pi X0 hx (hd.at 4 rfl) rfl ?_
  refine pC X0 hx (-1) (hd.at 5 rfl) rfl ?_
  refine pcN X0 hx (hd.at 6 rfl) ((feq (by decide)).1) ?_
  refine pA X0 hx (hd.at 7 rfl) rfl rfl ?_
  refine pi X0 hx (hd.at 8 rfl) rfl ?_
  refine pA X0 hx (hd.at 9 rfl) rfl rfl ?_
  refine pF X0 hx hZ hown (wd hw 29 rfl) e0 B.2.1 (hd.at 10 rfl) fun T1 X1 e1 => ?_
  refine pi X1 hx (hd.at 11 rfl) rfl ?_
  refine rD X1 hx hZ e1 B.2.2.2.2.2.1 0 (.double (fu 0)) rfl (hd.at 12 rfl) ?_
  refine wD X1 hx hZ e1 A1 0 (hd.at 13 rfl) fun T2 h2 X2 e2 W2 V2 => ?_
  have f3 : OArr Z h2 o1 .double 4 (fun i => .double ((own_q4 (fu 0) (a1 1) (a1 2) (a1 3)) i)) := V2.congr (own_lt4 rfl rfl rfl rfl)
  have n4 := hS.ne 5 6
  have n5 := Ne.symm n4
  replace A2 := A2.other W2 n5
  have n6 := hS.ne 5 7
  have n7 := Ne.symm n6
  replace A3 := A3.other W2 n7
  have n8 := hS.ne 0 5
  have n9 := hS.ne 1 5
  have n10 := hS.ne 2 5
  have n11 := hS.ne 3 5
  have n12 := hS.ne 4 5
  have f13 := B.keep (Keep.of_wr W2) (ninS n8 nin0) (ninS n9 nin0) (ninS n10 nin0) (ninS n11 nin0) (ninS n12 nin0)
  have fr2 := Fr.snoc X2 N0 (hS.ge 5 rfl)
  have kp2 := kp0.wr W2 (Or.inl (List.mem_of_getElem? (i := 0) rfl))
  refine pA X2 hx (hd.at 14 rfl) rfl rfl ?_
  refine pi X2 hx (hd.at 15 rfl) rfl ?_
  refine pA X2 hx (hd.at 16 rfl) rfl rfl ?_
  refine pF X2 hx hZ hown (wd hw 31 rfl) e2 f13.2.2.1 (hd.at 17 rfl) fun T14 X14 e14 => ?_
  refine pi X14 hx (hd.at 18 rfl) rfl ?_
  refine rD X14 hx hZ e14 f13.2.2.2.2.2.2.1 0 (.double (fc 0)) rfl (hd.at 19 rfl) ?_
  refine wD X14 hx hZ e14 A2 0 (hd.at 20 rfl) fun T15 h15 X15 e15 W15 V15 => ?_
  have f16 : OArr Z h15 o2 .double 4 (fun i => .double ((own_q4 (fc 0) (a2 1) (a2 2) (a2 3)) i)) := V15.congr (own_lt4 rfl rfl rfl rfl)
  replace f3 := f3.other W15 n4
  have n17 := hS.ne 6 7
  have n18 := Ne.symm n17
  replace A3 := A3.other W15 n18
  have n19 := hS.ne 0 6
  have n20 := hS.ne 1 6
  have n21 := hS.ne 2 6
  have n22 := hS.ne 3 6
  have n23 := hS.ne 4 6
  replace f13 := f13.keep (Keep.of_wr W15) (ninS n19 nin0) (ninS n20 nin0) (ninS n21 nin0) (ninS n22 nin0) (ninS n23 nin0)
  have fr15 := Fr.snoc X15 fr2 (hS.ge 6 rfl)
  have kp15 := kp2.wr W15 (Or.inl (List.mem_of_getElem? (i := 1) rfl))
  refine pA X15 hx (hd.at 21 rfl) rfl rfl ?_
  refine pi X15 hx (hd.at 22 rfl) rfl ?_
  refine pA X15 hx (hd.at 23 rfl) rfl rfl ?_
  refine pF X15 hx hZ hown (wd hw 33 rfl) e15 f13.2.2.2.1 (hd.at 24 rfl) fun T24 X24 e24 => ?_
  refine pi X24 hx (hd.at 25 rfl) rfl ?_
  refine rZ X24 hx hZ e24 f13.2.2.2.2.2.2.2.1 0 (.int (fg 0)) rfl (hd.at 26 rfl) ?_
  refine wZ X24 hx hZ e24 A3 0 (hG 0) (hd.at 27 rfl) fun T25 h25 X25 e25 W25 V25 => ?_
  have f26 : OArr Z h25 o3 .boolean 4 (fun i => .int ((own_q4 (fg 0) (a3 1) (a3 2) (a3 3)) i)) := V25.congr (own_lt4 rfl rfl rfl rfl)
  replace f3 := f3.other W25 n6
  replace f16 := f16.other W25 n17
  have n27 := hS.ne 0 7
  have n28 := hS.ne 1 7
  have n29 := hS.ne 2 7
  have n30 := hS.ne 3 7
  have n31 := hS.ne 4 7
  replace f13 := f13.keep (Keep.of_wr W25) (ninS n27 nin0) (ninS n28 nin0) (ninS n29 nin0) (ninS n30 nin0) (ninS n31 nin0)
  have fr25 := Fr.snoc X25 fr15 (hS.ge 7 rfl)
  have kp25 := kp15.wr W25 (Or.inl (List.mem_of_getElem? (i := 2) rfl))
  refine pN X25 hx (1 : Int32) #[.val (.ref ed), .val (.ref o1), .val (.ref o2), .val (.ref o3), .val (.int 1), .val (.int 0)] (hd.at 28 rfl) rfl (by decide) rfl ?_
  refine pA X25 hx (hd.at 29 rfl) rfl rfl ?_
  refine pF X25 hx hZ hown (wd hw 38 rfl) e25 f13.2.2.2.2.1 (hd.at 30 rfl) fun T32 X32 e32 => ?_
  refine pi X32 hx (hd.at 31 rfl) rfl ?_
  refine rI X32 hx hZ e32 f13.2.2.2.2.2.2.2.2 0 (.int 1) rfl (hd.at 32 rfl) ?_
  refine ps X32 hx #[.val (.ref ed), .val (.ref o1), .val (.ref o2), .val (.ref o3), .val (.int 1), .val (.int 1)] (hd.at 33 rfl) rfl ?_
  refine pG X32 hx 6 (hd.at 34 rfl) ?_
  refine pi X32 hx (hd.at 4 rfl) rfl ?_
  refine pC X32 hx (-1) (hd.at 5 rfl) rfl ?_
  refine pcN X32 hx (hd.at 6 rfl) ((feq (by decide)).1) ?_
  refine pA X32 hx (hd.at 7 rfl) rfl rfl ?_
  refine pi X32 hx (hd.at 8 rfl) rfl ?_
  refine pA X32 hx (hd.at 9 rfl) rfl rfl ?_
  refine pF X32 hx hZ hown (wd hw 29 rfl) e32 f13.2.1 (hd.at 10 rfl) fun T33 X33 e33 => ?_
  refine pi X33 hx (hd.at 11 rfl) rfl ?_
  refine rD X33 hx hZ e33 f13.2.2.2.2.2.1 1 (.double (fu 1)) rfl (hd.at 12 rfl) ?_
  refine wD X33 hx hZ e33 f3 1 (hd.at 13 rfl) fun T34 h34 X34 e34 W34 V34 => ?_
  have f35 : OArr Z h34 o1 .double 4 (fun i => .double ((own_q4 (fu 0) (fu 1) (a1 2) (a1 3)) i)) := V34.congr (own_lt4 rfl rfl rfl rfl)
  replace f16 := f16.other W34 n5
  replace f26 := f26.other W34 n7
  replace f13 := f13.keep (Keep.of_wr W34) (ninS n8 nin0) (ninS n9 nin0) (ninS n10 nin0) (ninS n11 nin0) (ninS n12 nin0)
  have fr34 := Fr.snoc X34 fr25 (hS.ge 5 rfl)
  have kp34 := kp25.wr W34 (Or.inl (List.mem_of_getElem? (i := 0) rfl))
  refine pA X34 hx (hd.at 14 rfl) rfl rfl ?_
  refine pi X34 hx (hd.at 15 rfl) rfl ?_
  refine pA X34 hx (hd.at 16 rfl) rfl rfl ?_
  refine pF X34 hx hZ hown (wd hw 31 rfl) e34 f13.2.2.1 (hd.at 17 rfl) fun T36 X36 e36 => ?_
  refine pi X36 hx (hd.at 18 rfl) rfl ?_
  refine rD X36 hx hZ e36 f13.2.2.2.2.2.2.1 1 (.double (fc 1)) rfl (hd.at 19 rfl) ?_
  refine wD X36 hx hZ e36 f16 1 (hd.at 20 rfl) fun T37 h37 X37 e37 W37 V37 => ?_
  have f38 : OArr Z h37 o2 .double 4 (fun i => .double ((own_q4 (fc 0) (fc 1) (a2 2) (a2 3)) i)) := V37.congr (own_lt4 rfl rfl rfl rfl)
  replace f35 := f35.other W37 n4
  replace f26 := f26.other W37 n18
  replace f13 := f13.keep (Keep.of_wr W37) (ninS n19 nin0) (ninS n20 nin0) (ninS n21 nin0) (ninS n22 nin0) (ninS n23 nin0)
  have fr37 := Fr.snoc X37 fr34 (hS.ge 6 rfl)
  have kp37 := kp34.wr W37 (Or.inl (List.mem_of_getElem? (i := 1) rfl))
  refine pA X37 hx (hd.at 21 rfl) rfl rfl ?_
  refine pi X37 hx (hd.at 22 rfl) rfl ?_
  refine pA X37 hx (hd.at 23 rfl) rfl rfl ?_
  refine pF X37 hx hZ hown (wd hw 33 rfl) e37 f13.2.2.2.1 (hd.at 24 rfl) fun T39 X39 e39 => ?_
  refine pi X39 hx (hd.at 25 rfl) rfl ?_
  refine rZ X39 hx hZ e39 f13.2.2.2.2.2.2.2.1 1 (.int (fg 1)) rfl (hd.at 26 rfl) ?_
  refine wZ X39 hx hZ e39 f26 1 (hG 1) (hd.at 27 rfl) fun T40 h40 X40 e40 W40 V40 => ?_
  have f41 : OArr Z h40 o3 .boolean 4 (fun i => .int ((own_q4 (fg 0) (fg 1) (a3 2) (a3 3)) i)) := V40.congr (own_lt4 rfl rfl rfl rfl)
  replace f35 := f35.other W40 n6
  replace f38 := f38.other W40 n17
  replace f13 := f13.keep (Keep.of_wr W40) (ninS n27 nin0) (ninS n28 nin0) (ninS n29 nin0) (ninS n30 nin0) (ninS n31 nin0)
  have fr40 := Fr.snoc X40 fr37 (hS.ge 7 rfl)
  have kp40 := kp37.wr W40 (Or.inl (List.mem_of_getElem? (i := 2) rfl))
  refine pN X40 hx (2 : Int32) #[.val (.ref ed), .val (.ref o1), .val (.ref o2), .val (.ref o3), .val (.int 2), .val (.int 1)] (hd.at 28 rfl) rfl (by decide) rfl ?_
  refine pA X40 hx (hd.at 29 rfl) rfl rfl ?_
  refine pF X40 hx hZ hown (wd hw 38 rfl) e40 f13.2.2.2.2.1 (hd.at 30 rfl) fun T42 X42 e42 => ?_
  refine pi X42 hx (hd.at 31 rfl) rfl ?_
  refine rI X42 hx hZ e42 f13.2.2.2.2.2.2.2.2 1 (.int 2) rfl (hd.at 32 rfl) ?_
  refine ps X42 hx #[.val (.ref ed), .val (.ref o1), .val (.ref o2), .val (.ref o3), .val (.int 2), .val (.int 2)] (hd.at 33 rfl) rfl ?_
  refine pG X42 hx 6 (hd.at 34 rfl) ?_
  refine pi X42 hx (hd.at 4 rfl) rfl ?_
  refine pC X42 hx (-1) (hd.at 5 rfl) rfl ?_
  refine pcN X42 hx (hd.at 6 rfl) ((feq (by decide)).1) ?_
  refine pA X42 hx (hd.at 7 rfl) rfl rfl ?_
  refine pi X42 hx (hd.at 8 rfl) rfl ?_
  refine pA X42 hx (hd.at 9 rfl) rfl rfl ?_
  refine pF X42 hx hZ hown (wd hw 29 rfl) e42 f13.2.1 (hd.at 10 rfl) fun T43 X43 e43 => ?_
  refine pi X43 hx (hd.at 11 rfl) rfl ?_
  refine rD X43 hx hZ e43 f13.2.2.2.2.2.1 2 (.double (fu 2)) rfl (hd.at 12 rfl) ?_
  refine wD X43 hx hZ e43 f35 2 (hd.at 13 rfl) fun T44 h44 X44 e44 W44 V44 => ?_
  have f45 : OArr Z h44 o1 .double 4 (fun i => .double ((own_q4 (fu 0) (fu 1) (fu 2) (a1 3)) i)) := V44.congr (own_lt4 rfl rfl rfl rfl)
  replace f38 := f38.other W44 n5
  replace f41 := f41.other W44 n7
  replace f13 := f13.keep (Keep.of_wr W44) (ninS n8 nin0) (ninS n9 nin0) (ninS n10 nin0) (ninS n11 nin0) (ninS n12 nin0)
  have fr44 := Fr.snoc X44 fr40 (hS.ge 5 rfl)
  have kp44 := kp40.wr W44 (Or.inl (List.mem_of_getElem? (i := 0) rfl))
  refine pA X44 hx (hd.at 14 rfl) rfl rfl ?_
  refine pi X44 hx (hd.at 15 rfl) rfl ?_
  refine pA X44 hx (hd.at 16 rfl) rfl rfl ?_
  refine pF X44 hx hZ hown (wd hw 31 rfl) e44 f13.2.2.1 (hd.at 17 rfl) fun T46 X46 e46 => ?_
  refine pi X46 hx (hd.at 18 rfl) rfl ?_
  refine rD X46 hx hZ e46 f13.2.2.2.2.2.2.1 2 (.double (fc 2)) rfl (hd.at 19 rfl) ?_
  refine wD X46 hx hZ e46 f38 2 (hd.at 20 rfl) fun T47 h47 X47 e47 W47 V47 => ?_
  have f48 : OArr Z h47 o2 .double 4 (fun i => .double ((own_q4 (fc 0) (fc 1) (fc 2) (a2 3)) i)) := V47.congr (own_lt4 rfl rfl rfl rfl)
  replace f45 := f45.other W47 n4
  replace f41 := f41.other W47 n18
  replace f13 := f13.keep (Keep.of_wr W47) (ninS n19 nin0) (ninS n20 nin0) (ninS n21 nin0) (ninS n22 nin0) (ninS n23 nin0)
  have fr47 := Fr.snoc X47 fr44 (hS.ge 6 rfl)
  have kp47 := kp44.wr W47 (Or.inl (List.mem_of_getElem? (i := 1) rfl))
  refine pA X47 hx (hd.at 21 rfl) rfl rfl ?_
  refine pi X47 hx (hd.at 22 rfl) rfl ?_
  refine pA X47 hx (hd.at 23 rfl) rfl rfl ?_
  refine pF X47 hx hZ hown (wd hw 33 rfl) e47 f13.2.2.2.1 (hd.at 24 rfl) fun T49 X49 e49 => ?_
  refine pi X49 hx (hd.at 25 rfl) rfl ?_
  refine rZ X49 hx hZ e49 f13.2.2.2.2.2.2.2.1 2 (.int (fg 2)) rfl (hd.at 26 rfl) ?_
  refine wZ X49 hx hZ e49 f41 2 (hG 2) (hd.at 27 rfl) fun T50 h50 X50 e50 W50 V50 => ?_
  have f51 : OArr Z h50 o3 .boolean 4 (fun i => .int ((own_q4 (fg 0) (fg 1) (fg 2) (a3 3)) i)) := V50.congr (own_lt4 rfl rfl rfl rfl)
  replace f45 := f45.other W50 n6
  replace f48 := f48.other W50 n17
  replace f13 := f13.keep (Keep.of_wr W50) (ninS n27 nin0) (ninS n28 nin0) (ninS n29 nin0) (ninS n30 nin0) (ninS n31 nin0)
  have fr50 := Fr.snoc X50 fr47 (hS.ge 7 rfl)
  have kp50 := kp47.wr W50 (Or.inl (List.mem_of_getElem? (i := 2) rfl))
  refine pN X50 hx (3 : Int32) #[.val (.ref ed), .val (.ref o1), .val (.ref o2), .val (.ref o3), .val (.int 3), .val (.int 2)] (hd.at 28 rfl) rfl (by decide) rfl ?_
  refine pA X50 hx (hd.at 29 rfl) rfl rfl ?_
  refine pF X50 hx hZ hown (wd hw 38 rfl) e50 f13.2.2.2.2.1 (hd.at 30 rfl) fun T52 X52 e52 => ?_
  refine pi X52 hx (hd.at 31 rfl) rfl ?_
  refine rI X52 hx hZ e52 f13.2.2.2.2.2.2.2.2 2 (.int (-1)) rfl (hd.at 32 rfl) ?_
  refine ps X52 hx #[.val (.ref ed), .val (.ref o1), .val (.ref o2), .val (.ref o3), .val (.int 3), .val (.int (-1))] (hd.at 33 rfl) rfl ?_
  refine pG X52 hx 6 (hd.at 34 rfl) ?_
  refine pi X52 hx (hd.at 4 rfl) rfl ?_
  refine pC X52 hx (-1) (hd.at 5 rfl) rfl ?_
  refine pcY X52 hx 60 (hd.at 6 rfl) ((teq rfl).1) ?_
  refine pi X52 hx (hd.at 35 rfl) rfl ?_
  exact own_ret X52 hx (t := .int) hret hlk rfl (Or.inl ⟨rfl, by simp, _, rfl⟩) (hd.at 36 rfl) (by decide) (by decide) (by show _ ∧ _ ∧ Keep h0 T52.heap _ ∧ _; rw [e52]; exact ⟨rfl, fr50, kp50, f45, f48, f51⟩)
set_option maxRecDepth 65536 in
set_option maxHeartbeats 40000000 in
theorem rmWr4 (l : Launch) (Z : State) (a0 : Array Value) (hw : ∀ d ∈ tables_1, d.before a0 Z = true) (ed : Addr) (o1 : Addr) (o2 : Addr) (o3 : Addr) (h0 : Heap) (n0 : Nat) (u ct gd nx : Addr) (fu fc : Nat → UInt64) (fg : Nat → Int32) (a1 a2 : Nat → UInt64) (a3 : Nat → Int32) (B : OWr Z h0 ed u ct gd nx fu fc fg own_n4) (A1 : OArr Z h0 o1 .double 4 (fun i => .double (a1 i))) (A2 : OArr Z h0 o2 .double 4 (fun i => .double (a2 i))) (A3 : OArr Z h0 o3 .boolean 4 (fun i => .int (a3 i))) (hG : ∀ i, nar .boolean (fg i) = fg i) (hS : OOrd n0 [ed, u, ct, gd, nx, o1, o2, o3]) :
    OMet l Z yN11 prog_72_method_3_code 6 (some .int) (⟨0, 0, 0, 0⟩ : Room) #[(.ref ed), (.ref o1), (.ref o2), (.ref o3)] h0 (fun v h L => v = some (.int (4 : Int32)) ∧ Fr n0 L ∧ Keep h0 h [o1, o2, o3] ∧ OArr Z h o1 .double 4 (fun i => .double ((own_q4 (fu 0) (fu 1) (fu 2) (fu 3)) i)) ∧ OArr Z h o2 .double 4 (fun i => .double ((own_q4 (fc 0) (fc 1) (fc 2) (fc 3)) i)) ∧ OArr Z h o3 .boolean 4 (fun i => .int ((own_q4 (fg 0) (fg 1) (fg 2) (fg 3)) i))) := by
  refine own_enter own_pn11 ?_
  intro p e s m below meth c T0 X0 hC e0 hnamed
  have hC0 := hC
  obtain ⟨hx, hZH, hby, hml, hown, hret, hlk, hnm⟩ := hC
  have hZ := hZH.wide
  have hown : s.vm.findClass "com/example/rankfold/rankfold/summaries/BucketEditor" = some m.cls := hown
  refine own_at (own_ef11_RRRR m ed o1 o2 o3) ?_
  have hd := D11.to hby
  have N0 := Fr.nil n0
  have kp0 := Keep.refl h0 [o1, o2, o3]
  refine pC X0 hx 0 (hd.at 0 rfl) rfl ?_
  refine ps X0 hx #[.val (.ref ed), .val (.ref o1), .val (.ref o2), .val (.ref o3), .val (.int 0), .unset] (hd.at 1 rfl) rfl ?_
  refine pC X0 hx 0 (hd.at 2 rfl) rfl ?_
  refine ps X0 hx #[.val (.ref ed), .val (.ref o1), .val (.ref o2), .val (.ref o3), .val (.int 0), .val (.int 0)] (hd.at 3 rfl) rfl ?_
  refine pi X0 hx (hd.at 4 rfl) rfl ?_
  refine pC X0 hx (-1) (hd.at 5 rfl) rfl ?_
  refine pcN X0 hx (hd.at 6 rfl) ((feq (by decide)).1) ?_
  refine pA X0 hx (hd.at 7 rfl) rfl rfl ?_
  refine pi X0 hx (hd.at 8 rfl) rfl ?_
  refine pA X0 hx (hd.at 9 rfl) rfl rfl ?_
  refine pF X0 hx hZ hown (wd hw 29 rfl) e0 B.2.1 (hd.at 10 rfl) fun T1 X1 e1 => ?_
  refine pi X1 hx (hd.at 11 rfl) rfl ?_
  refine rD X1 hx hZ e1 B.2.2.2.2.2.1 0 (.double (fu 0)) rfl (hd.at 12 rfl) ?_
  refine wD X1 hx hZ e1 A1 0 (hd.at 13 rfl) fun T2 h2 X2 e2 W2 V2 => ?_
  have f3 : OArr Z h2 o1 .double 4 (fun i => .double ((own_q4 (fu 0) (a1 1) (a1 2) (a1 3)) i)) := V2.congr (own_lt4 rfl rfl rfl rfl)
  have n4 := hS.ne 5 6
  have n5 := Ne.symm n4
  replace A2 := A2.other W2 n5
  have n6 := hS.ne 5 7
  have n7 := Ne.symm n6
  replace A3 := A3.other W2 n7
  have n8 := hS.ne 0 5
  have n9 := hS.ne 1 5
  have n10 := hS.ne 2 5
  have n11 := hS.ne 3 5
  have n12 := hS.ne 4 5
  have f13 := B.keep (Keep.of_wr W2) (ninS n8 nin0) (ninS n9 nin0) (ninS n10 nin0) (ninS n11 nin0) (ninS n12 nin0)
  have fr2 := Fr.snoc X2 N0 (hS.ge 5 rfl)
  have kp2 := kp0.wr W2 (Or.inl (List.mem_of_getElem? (i := 0) rfl))
  refine pA X2 hx (hd.at 14 rfl) rfl rfl ?_
  refine pi X2 hx (hd.at 15 rfl) rfl ?_
  refine pA X2 hx (hd.at 16 rfl) rfl rfl ?_
  refine pF X2 hx hZ hown (wd hw 31 rfl) e2 f13.2.2.1 (hd.at 17 rfl) fun T14 X14 e14 => ?_
  refine pi X14 hx (hd.at 18 rfl) rfl ?_
  refine rD X14 hx hZ e14 f13.2.2.2.2.2.2.1 0 (.double (fc 0)) rfl (hd.at 19 rfl) ?_
  refine wD X14 hx hZ e14 A2 0 (hd.at 20 rfl) fun T15 h15 X15 e15 W15 V15 => ?_
  have f16 : OArr Z h15 o2 .double 4 (fun i => .double ((own_q4 (fc 0) (a2 1) (a2 2) (a2 3)) i)) := V15.congr (own_lt4 rfl rfl rfl rfl)
  replace f3 := f3.other W15 n4
  have n17 := hS.ne 6 7
  have n18 := Ne.symm n17
  replace A3 := A3.other W15 n18
  have n19 := hS.ne 0 6
  have n20 := hS.ne 1 6
  have n21 := hS.ne 2 6
  have n22 := hS.ne 3 6
  have n23 := hS.ne 4 6
  replace f13 := f13.keep (Keep.of_wr W15) (ninS n19 nin0) (ninS n20 nin0) (ninS n21 nin0) (ninS n22 nin0) (ninS n23 nin0)
  have fr15 := Fr.snoc X15 fr2 (hS.ge 6 rfl)
  have kp15 := kp2.wr W15 (Or.inl (List.mem_of_getElem? (i := 1) rfl))
  refine pA X15 hx (hd.at 21 rfl) rfl rfl ?_
  refine pi X15 hx (hd.at 22 rfl) rfl ?_
  refine pA X15 hx (hd.at 23 rfl) rfl rfl ?_
  refine pF X15 hx hZ hown (wd hw 33 rfl) e15 f13.2.2.2.1 (hd.at 24 rfl) fun T24 X24 e24 => ?_
  refine pi X24 hx (hd.at 25 rfl) rfl ?_
  refine rZ X24 hx hZ e24 f13.2.2.2.2.2.2.2.1 0 (.int (fg 0)) rfl (hd.at 26 rfl) ?_
  refine wZ X24 hx hZ e24 A3 0 (hG 0) (hd.at 27 rfl) fun T25 h25 X25 e25 W25 V25 => ?_
  have f26 : OArr Z h25 o3 .boolean 4 (fun i => .int ((own_q4 (fg 0) (a3 1) (a3 2) (a3 3)) i)) := V25.congr (own_lt4 rfl rfl rfl rfl)
  replace f3 := f3.other W25 n6
  replace f16 := f16.other W25 n17
  have n27 := hS.ne 0 7
  have n28 := hS.ne 1 7
  have n29 := hS.ne 2 7
  have n30 := hS.ne 3 7
  have n31 := hS.ne 4 7
  replace f13 := f13.keep (Keep.of_wr W25) (ninS n27 nin0) (ninS n28 nin0) (ninS n29 nin0) (ninS n30 nin0) (ninS n31 nin0)
  have fr25 := Fr.snoc X25 fr15 (hS.ge 7 rfl)
  have kp25 := kp15.wr W25 (Or.inl (List.mem_of_getElem? (i := 2) rfl))
  refine pN X25 hx (1 : Int32) #[.val (.ref ed), .val (.ref o1), .val (.ref o2), .val (.ref o3), .val (.int 1), .val (.int 0)] (hd.at 28 rfl) rfl (by decide) rfl ?_
  refine pA X25 hx (hd.at 29 rfl) rfl rfl ?_
  refine pF X25 hx hZ hown (wd hw 38 rfl) e25 f13.2.2.2.2.1 (hd.at 30 rfl) fun T32 X32 e32 => ?_
  refine pi X32 hx (hd.at 31 rfl) rfl ?_
  refine rI X32 hx hZ e32 f13.2.2.2.2.2.2.2.2 0 (.int 1) rfl (hd.at 32 rfl) ?_
  refine ps X32 hx #[.val (.ref ed), .val (.ref o1), .val (.ref o2), .val (.ref o3), .val (.int 1), .val (.int 1)] (hd.at 33 rfl) rfl ?_
  refine pG X32 hx 6 (hd.at 34 rfl) ?_
  refine pi X32 hx (hd.at 4 rfl) rfl ?_
  refine pC X32 hx (-1) (hd.at 5 rfl) rfl ?_
  refine pcN X32 hx (hd.at 6 rfl) ((feq (by decide)).1) ?_
  refine pA X32 hx (hd.at 7 rfl) rfl rfl ?_
  refine pi X32 hx (hd.at 8 rfl) rfl ?_
  refine pA X32 hx (hd.at 9 rfl) rfl rfl ?_
  refine pF X32 hx hZ hown (wd hw 29 rfl) e32 f13.2.1 (hd.at 10 rfl) fun T33 X33 e33 => ?_
  refine pi X33 hx (hd.at 11 rfl) rfl ?_
  refine rD X33 hx hZ e33 f13.2.2.2.2.2.1 1 (.double (fu 1)) rfl (hd.at 12 rfl) ?_
  refine wD X33 hx hZ e33 f3 1 (hd.at 13 rfl) fun T34 h34 X34 e34 W34 V34 => ?_
  have f35 : OArr Z h34 o1 .double 4 (fun i => .double ((own_q4 (fu 0) (fu 1) (a1 2) (a1 3)) i)) := V34.congr (own_lt4 rfl rfl rfl rfl)
  replace f16 := f16.other W34 n5
  replace f26 := f26.other W34 n7
  replace f13 := f13.keep (Keep.of_wr W34) (ninS n8 nin0) (ninS n9 nin0) (ninS n10 nin0) (ninS n11 nin0) (ninS n12 nin0)
  have fr34 := Fr.snoc X34 fr25 (hS.ge 5 rfl)
  have kp34 := kp25.wr W34 (Or.inl (List.mem_of_getElem? (i := 0) rfl))
  refine pA X34 hx (hd.at 14 rfl) rfl rfl ?_
  refine pi X34 hx (hd.at 15 rfl) rfl ?_
  refine pA X34 hx (hd.at 16 rfl) rfl rfl ?_
  refine pF X34 hx hZ hown (wd hw 31 rfl) e34 f13.2.2.1 (hd.at 17 rfl) fun T36 X36 e36 => ?_
  refine pi X36 hx (hd.at 18 rfl) rfl ?_
  refine rD X36 hx hZ e36 f13.2.2.2.2.2.2.1 1 (.double (fc 1)) rfl (hd.at 19 rfl) ?_
  refine wD X36 hx hZ e36 f16 1 (hd.at 20 rfl) fun T37 h37 X37 e37 W37 V37 => ?_
  have f38 : OArr Z h37 o2 .double 4 (fun i => .double ((own_q4 (fc 0) (fc 1) (a2 2) (a2 3)) i)) := V37.congr (own_lt4 rfl rfl rfl rfl)
  replace f35 := f35.other W37 n4
  replace f26 := f26.other W37 n18
  replace f13 := f13.keep (Keep.of_wr W37) (ninS n19 nin0) (ninS n20 nin0) (ninS n21 nin0) (ninS n22 nin0) (ninS n23 nin0)
  have fr37 := Fr.snoc X37 fr34 (hS.ge 6 rfl)
  have kp37 := kp34.wr W37 (Or.inl (List.mem_of_getElem? (i := 1) rfl))
  refine pA X37 hx (hd.at 21 rfl) rfl rfl ?_
  refine pi X37 hx (hd.at 22 rfl) rfl ?_
  refine pA X37 hx (hd.at 23 rfl) rfl rfl ?_
  refine pF X37 hx hZ hown (wd hw 33 rfl) e37 f13.2.2.2.1 (hd.at 24 rfl) fun T39 X39 e39 => ?_
  refine pi X39 hx (hd.at 25 rfl) rfl ?_
  refine rZ X39 hx hZ e39 f13.2.2.2.2.2.2.2.1 1 (.int (fg 1)) rfl (hd.at 26 rfl) ?_
  refine wZ X39 hx hZ e39 f26 1 (hG 1) (hd.at 27 rfl) fun T40 h40 X40 e40 W40 V40 => ?_
  have f41 : OArr Z h40 o3 .boolean 4 (fun i => .int ((own_q4 (fg 0) (fg 1) (a3 2) (a3 3)) i)) := V40.congr (own_lt4 rfl rfl rfl rfl)
  replace f35 := f35.other W40 n6
  replace f38 := f38.other W40 n17
  replace f13 := f13.keep (Keep.of_wr W40) (ninS n27 nin0) (ninS n28 nin0) (ninS n29 nin0) (ninS n30 nin0) (ninS n31 nin0)
  have fr40 := Fr.snoc X40 fr37 (hS.ge 7 rfl)
  have kp40 := kp37.wr W40 (Or.inl (List.mem_of_getElem? (i := 2) rfl))
  refine pN X40 hx (2 : Int32) #[.val (.ref ed), .val (.ref o1), .val (.ref o2), .val (.ref o3), .val (.int 2), .val (.int 1)] (hd.at 28 rfl) rfl (by decide) rfl ?_
  refine pA X40 hx (hd.at 29 rfl) rfl rfl ?_
  refine pF X40 hx hZ hown (wd hw 38 rfl) e40 f13.2.2.2.2.1 (hd.at 30 rfl) fun T42 X42 e42 => ?_
  refine pi X42 hx (hd.at 31 rfl) rfl ?_
  refine rI X42 hx hZ e42 f13.2.2.2.2.2.2.2.2 1 (.int 2) rfl (hd.at 32 rfl) ?_
  refine ps X42 hx #[.val (.ref ed), .val (.ref o1), .val (.ref o2), .val (.ref o3), .val (.int 2), .val (.int 2)] (hd.at 33 rfl) rfl ?_
  refine pG X42 hx 6 (hd.at 34 rfl) ?_
  refine pi X42 hx (hd.at 4 rfl) rfl ?_
  refine pC X42 hx (-1) (hd.at 5 rfl) rfl ?_
  refine pcN X42 hx (hd.at 6 rfl) ((feq (by decide)).1) ?_
  refine pA X42 hx (hd.at 7 rfl) rfl rfl ?_
  refine pi X42 hx (hd.at 8 rfl) rfl ?_
  refine pA X42 hx (hd.at 9 rfl) rfl rfl ?_
  refine pF X42 hx hZ hown (wd hw 29 rfl) e42 f13.2.1 (hd.at 10 rfl) fun T43 X43 e43 => ?_
  refine pi X43 hx (hd.at 11 rfl) rfl ?_
  refine rD X43 hx hZ e43 f13.2.2.2.2.2.1 2 (.double (fu 2)) rfl (hd.at 12 rfl) ?_
  refine wD X43 hx hZ e43 f35 2 (hd.at 13 rfl) fun T44 h44 X44 e44 W44 V44 => ?_
  have f45 : OArr Z h44 o1 .double 4 (fun i => .double ((own_q4 (fu 0) (fu 1) (fu 2) (a1 3)) i)) := V44.congr (own_lt4 rfl rfl rfl rfl)
  replace f38 := f38.other W44 n5
  replace f41 := f41.other W44 n7
  replace f13 := f13.keep (Keep.of_wr W44) (ninS n8 nin0) (ninS n9 nin0) (ninS n10 nin0) (ninS n11 nin0) (ninS n12 nin0)
  have fr44 := Fr.snoc X44 fr40 (hS.ge 5 rfl)
  have kp44 := kp40.wr W44 (Or.inl (List.mem_of_getElem? (i := 0) rfl))
  refine pA X44 hx (hd.at 14 rfl) rfl rfl ?_
  refine pi X44 hx (hd.at 15 rfl) rfl ?_
  refine pA X44 hx (hd.at 16 rfl) rfl rfl ?_
  refine pF X44 hx hZ hown (wd hw 31 rfl) e44 f13.2.2.1 (hd.at 17 rfl) fun T46 X46 e46 => ?_
  refine pi X46 hx (hd.at 18 rfl) rfl ?_
  refine rD X46 hx hZ e46 f13.2.2.2.2.2.2.1 2 (.double (fc 2)) rfl (hd.at 19 rfl) ?_
  refine wD X46 hx hZ e46 f38 2 (hd.at 20 rfl) fun T47 h47 X47 e47 W47 V47 => ?_
  have f48 : OArr Z h47 o2 .double 4 (fun i => .double ((own_q4 (fc 0) (fc 1) (fc 2) (a2 3)) i)) := V47.congr (own_lt4 rfl rfl rfl rfl)
  replace f45 := f45.other W47 n4
  replace f41 := f41.other W47 n18
  replace f13 := f13.keep (Keep.of_wr W47) (ninS n19 nin0) (ninS n20 nin0) (ninS n21 nin0) (ninS n22 nin0) (ninS n23 nin0)
  have fr47 := Fr.snoc X47 fr44 (hS.ge 6 rfl)
  have kp47 := kp44.wr W47 (Or.inl (List.mem_of_getElem? (i := 1) rfl))
  refine pA X47 hx (hd.at 21 rfl) rfl rfl ?_
  refine pi X47 hx (hd.at 22 rfl) rfl ?_
  refine pA X47 hx (hd.at 23 rfl) rfl rfl ?_
  refine pF X47 hx hZ hown (wd hw 33 rfl) e47 f13.2.2.2.1 (hd.at 24 rfl) fun T49 X49 e49 => ?_
  refine pi X49 hx (hd.at 25 rfl) rfl ?_
  refine rZ X49 hx hZ e49 f13.2.2.2.2.2.2.2.1 2 (.int (fg 2)) rfl (hd.at 26 rfl) ?_
  refine wZ X49 hx hZ e49 f41 2 (hG 2) (hd.at 27 rfl) fun T50 h50 X50 e50 W50 V50 => ?_
  have f51 : OArr Z h50 o3 .boolean 4 (fun i => .int ((own_q4 (fg 0) (fg 1) (fg 2) (a3 3)) i)) := V50.congr (own_lt4 rfl rfl rfl rfl)
  replace f45 := f45.other W50 n6
  replace f48 := f48.other W50 n17
  replace f13 := f13.keep (Keep.of_wr W50) (ninS n27 nin0) (ninS n28 nin0) (ninS n29 nin0) (ninS n30 nin0) (ninS n31 nin0)
  have fr50 := Fr.snoc X50 fr47 (hS.ge 7 rfl)
  have kp50 := kp47.wr W50 (Or.inl (List.mem_of_getElem? (i := 2) rfl))
  refine pN X50 hx (3 : Int32) #[.val (.ref ed), .val (.ref o1), .val (.ref o2), .val (.ref o3), .val (.int 3), .val (.int 2)] (hd.at 28 rfl) rfl (by decide) rfl ?_
  refine pA X50 hx (hd.at 29 rfl) rfl rfl ?_
  refine pF X50 hx hZ hown (wd hw 38 rfl) e50 f13.2.2.2.2.1 (hd.at 30 rfl) fun T52 X52 e52 => ?_
  refine pi X52 hx (hd.at 31 rfl) rfl ?_
  refine rI X52 hx hZ e52 f13.2.2.2.2.2.2.2.2 2 (.int 3) rfl (hd.at 32 rfl) ?_
  refine ps X52 hx #[.val (.ref ed), .val (.ref o1), .val (.ref o2), .val (.ref o3), .val (.int 3), .val (.int 3)] (hd.at 33 rfl) rfl ?_
  refine pG X52 hx 6 (hd.at 34 rfl) ?_
  refine pi X52 hx (hd.at 4 rfl) rfl ?_
  refine pC X52 hx (-1) (hd.at 5 rfl) rfl ?_
  refine pcN X52 hx (hd.at 6 rfl) ((feq (by decide)).1) ?_
  refine pA X52 hx (hd.at 7 rfl) rfl rfl ?_
  refine pi X52 hx (hd.at 8 rfl) rfl ?_
  refine pA X52 hx (hd.at 9 rfl) rfl rfl ?_
  refine pF X52 hx hZ hown (wd hw 29 rfl) e52 f13.2.1 (hd.at 10 rfl) fun T53 X53 e53 => ?_
  refine pi X53 hx (hd.at 11 rfl) rfl ?_
  refine rD X53 hx hZ e53 f13.2.2.2.2.2.1 3 (.double (fu 3)) rfl (hd.at 12 rfl) ?_
  refine wD X53 hx hZ e53 f45 3 (hd.at 13 rfl) fun T54 h54 X54 e54 W54 V54 => ?_
  have f55 : OArr Z h54 o1 .double 4 (fun i => .double ((own_q4 (fu 0) (fu 1) (fu 2) (fu 3)) i)) := V54.congr (own_lt4 rfl rfl rfl rfl)
  replace f48 := f48.other W54 n5
  replace f51 := f51.other W54 n7
  replace f13 := f13.keep (Keep.of_wr W54) (ninS n8 nin0) (ninS n9 nin0) (ninS n10 nin0) (ninS n11 nin0) (ninS n12 nin0)
  have fr54 := Fr.snoc X54 fr50 (hS.ge 5 rfl)
  have kp54 := kp50.wr W54 (Or.inl (List.mem_of_getElem? (i := 0) rfl))
  refine pA X54 hx (hd.at 14 rfl) rfl rfl ?_
  refine pi X54 hx (hd.at 15 rfl) rfl ?_
  refine pA X54 hx (hd.at 16 rfl) rfl rfl ?_
  refine pF X54 hx hZ hown (wd hw 31 rfl) e54 f13.2.2.1 (hd.at 17 rfl) fun T56 X56 e56 => ?_
  refine pi X56 hx (hd.at 18 rfl) rfl ?_
  refine rD X56 hx hZ e56 f13.2.2.2.2.2.2.1 3 (.double (fc 3)) rfl (hd.at 19 rfl) ?_
  refine wD X56 hx hZ e56 f48 3 (hd.at 20 rfl) fun T57 h57 X57 e57 W57 V57 => ?_
  have f58 : OArr Z h57 o2 .double 4 (fun i => .double ((own_q4 (fc 0) (fc 1) (fc 2) (fc 3)) i)) := V57.congr (own_lt4 rfl rfl rfl rfl)
  replace f55 := f55.other W57 n4
  replace f51 := f51.other W57 n18
  replace f13 := f13.keep (Keep.of_wr W57) (ninS n19 nin0) (ninS n20 nin0) (ninS n21 nin0) (ninS n22 nin0) (ninS n23 nin0)
  have fr57 := Fr.snoc X57 fr54 (hS.ge 6 rfl)
  have kp57 := kp54.wr W57 (Or.inl (List.mem_of_getElem? (i := 1) rfl))
  refine pA X57 hx (hd.at 21 rfl) rfl rfl ?_
  refine pi X57 hx (hd.at 22 rfl) rfl ?_
  refine pA X57 hx (hd.at 23 rfl) rfl rfl ?_
  refine pF X57 hx hZ hown (wd hw 33 rfl) e57 f13.2.2.2.1 (hd.at 24 rfl) fun T59 X59 e59 => ?_
  refine pi X59 hx (hd.at 25 rfl) rfl ?_
  refine rZ X59 hx hZ e59 f13.2.2.2.2.2.2.2.1 3 (.int (fg 3)) rfl (hd.at 26 rfl) ?_
  refine wZ X59 hx hZ e59 f51 3 (hG 3) (hd.at 27 rfl) fun T60 h60 X60 e60 W60 V60 => ?_
  have f61 : OArr Z h60 o3 .boolean 4 (fun i => .int ((own_q4 (fg 0) (fg 1) (fg 2) (fg 3)) i)) := V60.congr (own_lt4 rfl rfl rfl rfl)
  replace f55 := f55.other W60 n6
  replace f58 := f58.other W60 n17
  replace f13 := f13.keep (Keep.of_wr W60) (ninS n27 nin0) (ninS n28 nin0) (ninS n29 nin0) (ninS n30 nin0) (ninS n31 nin0)
  have fr60 := Fr.snoc X60 fr57 (hS.ge 7 rfl)
  have kp60 := kp57.wr W60 (Or.inl (List.mem_of_getElem? (i := 2) rfl))
  refine pN X60 hx (4 : Int32) #[.val (.ref ed), .val (.ref o1), .val (.ref o2), .val (.ref o3), .val (.int 4), .val (.int 3)] (hd.at 28 rfl) rfl (by decide) rfl ?_
  refine pA X60 hx (hd.at 29 rfl) rfl rfl ?_
  refine pF X60 hx hZ hown (wd hw 38 rfl) e60 f13.2.2.2.2.1 (hd.at 30 rfl) fun T62 X62 e62 => ?_
  refine pi X62 hx (hd.at 31 rfl) rfl ?_
  refine rI X62 hx hZ e62 f13.2.2.2.2.2.2.2.2 3 (.int (-1)) rfl (hd.at 32 rfl) ?_
  refine ps X62 hx #[.val (.ref ed), .val (.ref o1), .val (.ref o2), .val (.ref o3), .val (.int 4), .val (.int (-1))] (hd.at 33 rfl) rfl ?_
  refine pG X62 hx 6 (hd.at 34 rfl) ?_
  refine pi X62 hx (hd.at 4 rfl) rfl ?_
  refine pC X62 hx (-1) (hd.at 5 rfl) rfl ?_
  refine pcY X62 hx 60 (hd.at 6 rfl) ((teq rfl).1) ?_
  refine pi X62 hx (hd.at 35 rfl) rfl ?_
  exact own_ret X62 hx (t := .int) hret hlk rfl (Or.inl ⟨rfl, by simp, _, rfl⟩) (hd.at 36 rfl) (by decide) (by decide) (by show _ ∧ _ ∧ Keep h0 T62.heap _ ∧ _; rw [e62]; exact ⟨rfl, fr60, kp60, f55, f58, f61⟩)
set_option maxRecDepth 65536 in
set_option maxHeartbeats 40000000 in
theorem rmWrJ (l : Launch) (Z : State) (a0 : Array Value) (hw : ∀ d ∈ tables_1, d.before a0 Z = true) (ed : Addr) (o1 : Addr) (o2 : Addr) (o3 : Addr) (h0 : Heap) (n0 : Nat) (u ct gd nx : Addr) (fu fc : Nat → UInt64) (fg : Nat → Int32) (a1 a2 : Nat → UInt64) (a3 : Nat → Int32) (B : OWr Z h0 ed u ct gd nx fu fc fg own_nJ) (A1 : OArr Z h0 o1 .double 4 (fun i => .double (a1 i))) (A2 : OArr Z h0 o2 .double 4 (fun i => .double (a2 i))) (A3 : OArr Z h0 o3 .boolean 4 (fun i => .int (a3 i))) (hG : ∀ i, nar .boolean (fg i) = fg i) (hS : OOrd n0 [ed, u, ct, gd, nx, o1, o2, o3]) :
    OMet l Z yN11 prog_72_method_3_code 6 (some .int) (⟨0, 0, 0, 0⟩ : Room) #[(.ref ed), (.ref o1), (.ref o2), (.ref o3)] h0 (fun v h L => v = some (.int (2 : Int32)) ∧ Fr n0 L ∧ Keep h0 h [o1, o2, o3] ∧ OArr Z h o1 .double 4 (fun i => .double ((own_q4 (fu 0) (fu 2) (a1 2) (a1 3)) i)) ∧ OArr Z h o2 .double 4 (fun i => .double ((own_q4 (fc 0) (fc 2) (a2 2) (a2 3)) i)) ∧ OArr Z h o3 .boolean 4 (fun i => .int ((own_q4 (fg 0) (fg 2) (a3 2) (a3 3)) i))) := by
  refine own_enter own_pn11 ?_
  intro p e s m below meth c T0 X0 hC e0 hnamed
  have hC0 := hC
  obtain ⟨hx, hZH, hby, hml, hown, hret, hlk, hnm⟩ := hC
  have hZ := hZH.wide
  have hown : s.vm.findClass "com/example/rankfold/rankfold/summaries/BucketEditor" = some m.cls := hown
  refine own_at (own_ef11_RRRR m ed o1 o2 o3) ?_
  have hd := D11.to hby
  have N0 := Fr.nil n0
  have kp0 := Keep.refl h0 [o1, o2, o3]
  refine pC X0 hx 0 (hd.at 0 rfl) rfl ?_
  refine ps X0 hx #[.val (.ref ed), .val (.ref o1), .val (.ref o2), .val (.ref o3), .val (.int 0), .unset] (hd.at 1 rfl) rfl ?_
  refine pC X0 hx 0 (hd.at 2 rfl) rfl ?_
  refine ps X0 hx #[.val (.ref ed), .val (.ref o1), .val (.ref o2), .val (.ref o3), .val (.int 0), .val (.int 0)] (hd.at 3 rfl) rfl ?_
  refine pi X0 hx (hd.at 4 rfl) rfl ?_
  refine pC X0 hx (-1) (hd.at 5 rfl) rfl ?_
  refine pcN X0 hx (hd.at 6 rfl) ((feq (by decide)).1) ?_
  refine pA X0 hx (hd.at 7 rfl) rfl rfl ?_
  refine pi X0 hx (hd.at 8 rfl) rfl ?_
  refine pA X0 hx (hd.at 9 rfl) rfl rfl ?_
  refine pF X0 hx hZ hown (wd hw 29 rfl) e0 B.2.1 (hd.at 10 rfl) fun T1 X1 e1 => ?_
  refine pi X1 hx (hd.at 11 rfl) rfl ?_
  refine rD X1 hx hZ e1 B.2.2.2.2.2.1 0 (.double (fu 0)) rfl (hd.at 12 rfl) ?_
  refine wD X1 hx hZ e1 A1 0 (hd.at 13 rfl) fun T2 h2 X2 e2 W2 V2 => ?_
  have f3 : OArr Z h2 o1 .double 4 (fun i => .double ((own_q4 (fu 0) (a1 1) (a1 2) (a1 3)) i)) := V2.congr (own_lt4 rfl rfl rfl rfl)
  have n4 := hS.ne 5 6
  have n5 := Ne.symm n4
  replace A2 := A2.other W2 n5
  have n6 := hS.ne 5 7
  have n7 := Ne.symm n6
  replace A3 := A3.other W2 n7
  have n8 := hS.ne 0 5
  have n9 := hS.ne 1 5
  have n10 := hS.ne 2 5
  have n11 := hS.ne 3 5
  have n12 := hS.ne 4 5
  have f13 := B.keep (Keep.of_wr W2) (ninS n8 nin0) (ninS n9 nin0) (ninS n10 nin0) (ninS n11 nin0) (ninS n12 nin0)
  have fr2 := Fr.snoc X2 N0 (hS.ge 5 rfl)
  have kp2 := kp0.wr W2 (Or.inl (List.mem_of_getElem? (i := 0) rfl))
  refine pA X2 hx (hd.at 14 rfl) rfl rfl ?_
  refine pi X2 hx (hd.at 15 rfl) rfl ?_
  refine pA X2 hx (hd.at 16 rfl) rfl rfl ?_
  refine pF X2 hx hZ hown (wd hw 31 rfl) e2 f13.2.2.1 (hd.at 17 rfl) fun T14 X14 e14 => ?_
  refine pi X14 hx (hd.at 18 rfl) rfl ?_
  refine rD X14 hx hZ e14 f13.2.2.2.2.2.2.1 0 (.double (fc 0)) rfl (hd.at 19 rfl) ?_
  refine wD X14 hx hZ e14 A2 0 (hd.at 20 rfl) fun T15 h15 X15 e15 W15 V15 => ?_
  have f16 : OArr Z h15 o2 .double 4 (fun i => .double ((own_q4 (fc 0) (a2 1) (a2 2) (a2 3)) i)) := V15.congr (own_lt4 rfl rfl rfl rfl)
  replace f3 := f3.other W15 n4
  have n17 := hS.ne 6 7
  have n18 := Ne.symm n17
  replace A3 := A3.other W15 n18
  have n19 := hS.ne 0 6
  have n20 := hS.ne 1 6
  have n21 := hS.ne 2 6
  have n22 := hS.ne 3 6
  have n23 := hS.ne 4 6
  replace f13 := f13.keep (Keep.of_wr W15) (ninS n19 nin0) (ninS n20 nin0) (ninS n21 nin0) (ninS n22 nin0) (ninS n23 nin0)
  have fr15 := Fr.snoc X15 fr2 (hS.ge 6 rfl)
  have kp15 := kp2.wr W15 (Or.inl (List.mem_of_getElem? (i := 1) rfl))
  refine pA X15 hx (hd.at 21 rfl) rfl rfl ?_
  refine pi X15 hx (hd.at 22 rfl) rfl ?_
  refine pA X15 hx (hd.at 23 rfl) rfl rfl ?_
  refine pF X15 hx hZ hown (wd hw 33 rfl) e15 f13.2.2.2.1 (hd.at 24 rfl) fun T24 X24 e24 => ?_
  refine pi X24 hx (hd.at 25 rfl) rfl ?_
  refine rZ X24 hx hZ e24 f13.2.2.2.2.2.2.2.1 0 (.int (fg 0)) rfl (hd.at 26 rfl) ?_
  refine wZ X24 hx hZ e24 A3 0 (hG 0) (hd.at 27 rfl) fun T25 h25 X25 e25 W25 V25 => ?_
  have f26 : OArr Z h25 o3 .boolean 4 (fun i => .int ((own_q4 (fg 0) (a3 1) (a3 2) (a3 3)) i)) := V25.congr (own_lt4 rfl rfl rfl rfl)
  replace f3 := f3.other W25 n6
  replace f16 := f16.other W25 n17
  have n27 := hS.ne 0 7
  have n28 := hS.ne 1 7
  have n29 := hS.ne 2 7
  have n30 := hS.ne 3 7
  have n31 := hS.ne 4 7
  replace f13 := f13.keep (Keep.of_wr W25) (ninS n27 nin0) (ninS n28 nin0) (ninS n29 nin0) (ninS n30 nin0) (ninS n31 nin0)
  have fr25 := Fr.snoc X25 fr15 (hS.ge 7 rfl)
  have kp25 := kp15.wr W25 (Or.inl (List.mem_of_getElem? (i := 2) rfl))
  refine pN X25 hx (1 : Int32) #[.val (.ref ed), .val (.ref o1), .val (.ref o2), .val (.ref o3), .val (.int 1), .val (.int 0)] (hd.at 28 rfl) rfl (by decide) rfl ?_
  refine pA X25 hx (hd.at 29 rfl) rfl rfl ?_
  refine pF X25 hx hZ hown (wd hw 38 rfl) e25 f13.2.2.2.2.1 (hd.at 30 rfl) fun T32 X32 e32 => ?_
  refine pi X32 hx (hd.at 31 rfl) rfl ?_
  refine rI X32 hx hZ e32 f13.2.2.2.2.2.2.2.2 0 (.int 2) rfl (hd.at 32 rfl) ?_
  refine ps X32 hx #[.val (.ref ed), .val (.ref o1), .val (.ref o2), .val (.ref o3), .val (.int 1), .val (.int 2)] (hd.at 33 rfl) rfl ?_
  refine pG X32 hx 6 (hd.at 34 rfl) ?_
  refine pi X32 hx (hd.at 4 rfl) rfl ?_
  refine pC X32 hx (-1) (hd.at 5 rfl) rfl ?_
  refine pcN X32 hx (hd.at 6 rfl) ((feq (by decide)).1) ?_
  refine pA X32 hx (hd.at 7 rfl) rfl rfl ?_
  refine pi X32 hx (hd.at 8 rfl) rfl ?_
  refine pA X32 hx (hd.at 9 rfl) rfl rfl ?_
  refine pF X32 hx hZ hown (wd hw 29 rfl) e32 f13.2.1 (hd.at 10 rfl) fun T33 X33 e33 => ?_
  refine pi X33 hx (hd.at 11 rfl) rfl ?_
  refine rD X33 hx hZ e33 f13.2.2.2.2.2.1 2 (.double (fu 2)) rfl (hd.at 12 rfl) ?_
  refine wD X33 hx hZ e33 f3 1 (hd.at 13 rfl) fun T34 h34 X34 e34 W34 V34 => ?_
  have f35 : OArr Z h34 o1 .double 4 (fun i => .double ((own_q4 (fu 0) (fu 2) (a1 2) (a1 3)) i)) := V34.congr (own_lt4 rfl rfl rfl rfl)
  replace f16 := f16.other W34 n5
  replace f26 := f26.other W34 n7
  replace f13 := f13.keep (Keep.of_wr W34) (ninS n8 nin0) (ninS n9 nin0) (ninS n10 nin0) (ninS n11 nin0) (ninS n12 nin0)
  have fr34 := Fr.snoc X34 fr25 (hS.ge 5 rfl)
  have kp34 := kp25.wr W34 (Or.inl (List.mem_of_getElem? (i := 0) rfl))
  refine pA X34 hx (hd.at 14 rfl) rfl rfl ?_
  refine pi X34 hx (hd.at 15 rfl) rfl ?_
  refine pA X34 hx (hd.at 16 rfl) rfl rfl ?_
  refine pF X34 hx hZ hown (wd hw 31 rfl) e34 f13.2.2.1 (hd.at 17 rfl) fun T36 X36 e36 => ?_
  refine pi X36 hx (hd.at 18 rfl) rfl ?_
  refine rD X36 hx hZ e36 f13.2.2.2.2.2.2.1 2 (.double (fc 2)) rfl (hd.at 19 rfl) ?_
  refine wD X36 hx hZ e36 f16 1 (hd.at 20 rfl) fun T37 h37 X37 e37 W37 V37 => ?_
  have f38 : OArr Z h37 o2 .double 4 (fun i => .double ((own_q4 (fc 0) (fc 2) (a2 2) (a2 3)) i)) := V37.congr (own_lt4 rfl rfl rfl rfl)
  replace f35 := f35.other W37 n4
  replace f26 := f26.other W37 n18
  replace f13 := f13.keep (Keep.of_wr W37) (ninS n19 nin0) (ninS n20 nin0) (ninS n21 nin0) (ninS n22 nin0) (ninS n23 nin0)
  have fr37 := Fr.snoc X37 fr34 (hS.ge 6 rfl)
  have kp37 := kp34.wr W37 (Or.inl (List.mem_of_getElem? (i := 1) rfl))
  refine pA X37 hx (hd.at 21 rfl) rfl rfl ?_
  refine pi X37 hx (hd.at 22 rfl) rfl ?_
  refine pA X37 hx (hd.at 23 rfl) rfl rfl ?_
  refine pF X37 hx hZ hown (wd hw 33 rfl) e37 f13.2.2.2.1 (hd.at 24 rfl) fun T39 X39 e39 => ?_
  refine pi X39 hx (hd.at 25 rfl) rfl ?_
  refine rZ X39 hx hZ e39 f13.2.2.2.2.2.2.2.1 2 (.int (fg 2)) rfl (hd.at 26 rfl) ?_
  refine wZ X39 hx hZ e39 f26 1 (hG 2) (hd.at 27 rfl) fun T40 h40 X40 e40 W40 V40 => ?_
  have f41 : OArr Z h40 o3 .boolean 4 (fun i => .int ((own_q4 (fg 0) (fg 2) (a3 2) (a3 3)) i)) := V40.congr (own_lt4 rfl rfl rfl rfl)
  replace f35 := f35.other W40 n6
  replace f38 := f38.other W40 n17
  replace f13 := f13.keep (Keep.of_wr W40) (ninS n27 nin0) (ninS n28 nin0) (ninS n29 nin0) (ninS n30 nin0) (ninS n31 nin0)
  have fr40 := Fr.snoc X40 fr37 (hS.ge 7 rfl)
  have kp40 := kp37.wr W40 (Or.inl (List.mem_of_getElem? (i := 2) rfl))
  refine pN X40 hx (2 : Int32) #[.val (.ref ed), .val (.ref o1), .val (.ref o2), .val (.ref o3), .val (.int 2), .val (.int 2)] (hd.at 28 rfl) rfl (by decide) rfl ?_
  refine pA X40 hx (hd.at 29 rfl) rfl rfl ?_
  refine pF X40 hx hZ hown (wd hw 38 rfl) e40 f13.2.2.2.2.1 (hd.at 30 rfl) fun T42 X42 e42 => ?_
  refine pi X42 hx (hd.at 31 rfl) rfl ?_
  refine rI X42 hx hZ e42 f13.2.2.2.2.2.2.2.2 2 (.int (-1)) rfl (hd.at 32 rfl) ?_
  refine ps X42 hx #[.val (.ref ed), .val (.ref o1), .val (.ref o2), .val (.ref o3), .val (.int 2), .val (.int (-1))] (hd.at 33 rfl) rfl ?_
  refine pG X42 hx 6 (hd.at 34 rfl) ?_
  refine pi X42 hx (hd.at 4 rfl) rfl ?_
  refine pC X42 hx (-1) (hd.at 5 rfl) rfl ?_
  refine pcY X42 hx 60 (hd.at 6 rfl) ((teq rfl).1) ?_
  refine pi X42 hx (hd.at 35 rfl) rfl ?_
  exact own_ret X42 hx (t := .int) hret hlk rfl (Or.inl ⟨rfl, by simp, _, rfl⟩) (hd.at 36 rfl) (by decide) (by decide) (by show _ ∧ _ ∧ Keep h0 T42.heap _ ∧ _; rw [e42]; exact ⟨rfl, fr40, kp40, f35, f38, f41⟩)
set_option maxRecDepth 65536 in
set_option maxHeartbeats 40000000 in
theorem rmSlA (l : Launch) (Z : State) (a0 : Array Value) (hw : ∀ d ∈ tables_1, d.before a0 Z = true) (o1 : Addr) (o2 : Addr) (o3 : Addr) (qi : Int32) (zz : Int32) (dd : UInt64) (cc : Int32) (gg : Int32) (h0 : Heap) (a1 a2 : Nat → UInt64) (a3 : Nat → Int32) (kk : Nat) (A1 : OArr Z h0 o1 .double 4 (fun i => .double (a1 i))) (A2 : OArr Z h0 o2 .double 4 (fun i => .double (a2 i))) (A3 : OArr Z h0 o3 .boolean 4 (fun i => .int (a3 i))) (hq0 : ¬ qi < 0) (hqk : qi.toNatClampNeg = kk) (hk : kk < 4) (hz : qi < zz) (hT : FP.dcmp (a1 kk) dd = some .eq) (hC : FP.dcmp (a2 kk) (FP.i2d cc) = some .eq) (hG : a3 kk = gg) :
    OMet l Z yN12 method_3_code 9 (some .boolean) (⟨0, 0, 0, 0⟩ : Room) #[(.ref o1), (.ref o2), (.ref o3), (.int qi), (.int zz), (.double dd), (.int cc), (.int gg)] h0 (fun v h L => v = some (.int (1 : Int32)) ∧ h = h0 ∧ L = []) := by
  refine own_enter own_pn12 ?_
  intro p e s m below meth c T0 X0 hC e0 hnamed
  have hC0 := hC
  obtain ⟨hx, hZH, hby, hml, hown, hret, hlk, hnm⟩ := hC
  have hZ := hZH.wide
  have hown : s.vm.findClass "com/example/rankfold/rankfold/summaries/BucketEditorWritePinLaw" = some m.cls := hown
  refine own_at (own_ef12_RRRIIDII m o1 o2 o3 qi zz dd cc gg) ?_
  have hd := D12.to hby
  refine pI X0 hx (hd.at 0 rfl) rfl ?_
  refine pi X0 hx (hd.at 1 rfl) rfl ?_
  refine pcN X0 hx (hd.at 2 rfl) ((tlt hz).2.1) ?_
  refine pA X0 hx (hd.at 3 rfl) rfl rfl ?_
  refine pI X0 hx (hd.at 4 rfl) rfl ?_
  refine rD X0 hx hZ e0 A1 kk (.double (a1 kk)) rfl (hd.at 5 rfl) ?_ hq0 hqk hk
  refine pd X0 hx (hd.at 6 rfl) rfl ?_
  refine o_dcmpl X0 hx (hd.at 7 rfl) ?_
  refine pfN X0 hx (hd.at 8 rfl) ((if0 _ _).trans (teq (by rw [hT]; rfl)).2) ?_
  refine pA X0 hx (hd.at 9 rfl) rfl rfl ?_
  refine pI X0 hx (hd.at 10 rfl) rfl ?_
  refine rD X0 hx hZ e0 A2 kk (.double (a2 kk)) rfl (hd.at 11 rfl) ?_ hq0 hqk hk
  refine pi X0 hx (hd.at 12 rfl) rfl ?_
  refine o_i2d X0 hx (hd.at 13 rfl) ?_
  refine o_dcmpl X0 hx (hd.at 14 rfl) ?_
  refine pfN X0 hx (hd.at 15 rfl) ((if0 _ _).trans (teq (by rw [hC]; rfl)).2) ?_
  refine pA X0 hx (hd.at 16 rfl) rfl rfl ?_
  refine pI X0 hx (hd.at 17 rfl) rfl ?_
  refine rZ X0 hx hZ e0 A3 kk (.int (a3 kk)) rfl (hd.at 18 rfl) ?_ hq0 hqk hk
  refine pi X0 hx (hd.at 19 rfl) rfl ?_
  refine pcN X0 hx (hd.at 20 rfl) ((teq hG).2) ?_
  refine pC X0 hx 1 (hd.at 21 rfl) rfl ?_
  refine pG X0 hx 38 (hd.at 22 rfl) ?_
  exact own_ret X0 hx (t := .boolean) hret hlk rfl (Or.inl ⟨rfl, by simp, _, rfl⟩) (hd.at 23 rfl) (by decide) (by decide) ⟨rfl, e0, rfl⟩
set_option maxRecDepth 65536 in
set_option maxHeartbeats 40000000 in
theorem rmSlB (l : Launch) (Z : State) (a0 : Array Value) (hw : ∀ d ∈ tables_1, d.before a0 Z = true) (o1 : Addr) (o2 : Addr) (o3 : Addr) (qi : Int32) (zz : Int32) (dd : UInt64) (cc : Int32) (gg : Int32) (h0 : Heap) (a1 a2 : Nat → UInt64) (a3 : Nat → Int32) (kk : Nat) (A1 : OArr Z h0 o1 .double 4 (fun i => .double (a1 i))) (A2 : OArr Z h0 o2 .double 4 (fun i => .double (a2 i))) (A3 : OArr Z h0 o3 .boolean 4 (fun i => .int (a3 i))) (hq0 : ¬ qi < 0) (hqk : qi.toNatClampNeg = kk) (hk : kk < 4) (hz : ¬ qi < zz) (hT : FP.dcmp (a1 kk) (4741671816366391296 : UInt64) = some .eq) (hC : FP.dcmp (a2 kk) (13830554455654793216 : UInt64) = some .eq) :
    OMet l Z yN12 method_3_code 9 (some .boolean) (⟨0, 0, 0, 0⟩ : Room) #[(.ref o1), (.ref o2), (.ref o3), (.int qi), (.int zz), (.double dd), (.int cc), (.int gg)] h0 (fun v h L => v = some (.int (1 : Int32)) ∧ h = h0 ∧ L = []) := by
  refine own_enter own_pn12 ?_
  intro p e s m below meth c T0 X0 hC e0 hnamed
  have hC0 := hC
  obtain ⟨hx, hZH, hby, hml, hown, hret, hlk, hnm⟩ := hC
  have hZ := hZH.wide
  have hown : s.vm.findClass "com/example/rankfold/rankfold/summaries/BucketEditorWritePinLaw" = some m.cls := hown
  refine own_at (own_ef12_RRRIIDII m o1 o2 o3 qi zz dd cc gg) ?_
  have hd := D12.to hby
  refine pI X0 hx (hd.at 0 rfl) rfl ?_
  refine pi X0 hx (hd.at 1 rfl) rfl ?_
  refine pcY X0 hx 39 (hd.at 2 rfl) ((flt hz).2.1) ?_
  refine pA X0 hx (hd.at 24 rfl) rfl rfl ?_
  refine pI X0 hx (hd.at 25 rfl) rfl ?_
  refine rD X0 hx hZ e0 A1 kk (.double (a1 kk)) rfl (hd.at 26 rfl) ?_ hq0 hqk hk
  refine pL (X0.ldc2DoubleC hx hown (mvT hZ (wd hw 3 rfl)) rfl (hd.at 27 rfl)) ?_
  refine o_dcmpl X0 hx (hd.at 28 rfl) ?_
  refine pfN X0 hx (hd.at 29 rfl) ((if0 _ _).trans (teq (by rw [hT]; rfl)).2) ?_
  refine pA X0 hx (hd.at 30 rfl) rfl rfl ?_
  refine pI X0 hx (hd.at 31 rfl) rfl ?_
  refine rD X0 hx hZ e0 A2 kk (.double (a2 kk)) rfl (hd.at 32 rfl) ?_ hq0 hqk hk
  refine pL (X0.ldc2DoubleC hx hown (mvT hZ (wd hw 4 rfl)) rfl (hd.at 33 rfl)) ?_
  refine o_dcmpl X0 hx (hd.at 34 rfl) ?_
  refine pfN X0 hx (hd.at 35 rfl) ((if0 _ _).trans (teq (by rw [hC]; rfl)).2) ?_
  refine pC X0 hx 1 (hd.at 36 rfl) rfl ?_
  refine pG X0 hx 64 (hd.at 37 rfl) ?_
  exact own_ret X0 hx (t := .boolean) hret hlk rfl (Or.inl ⟨rfl, by simp, _, rfl⟩) (hd.at 38 rfl) (by decide) (by decide) ⟨rfl, e0, rfl⟩
def own_b4 : Nat → UInt64 := own_q4 4741671816366391296 4741671816366391296 4741671816366391296 4741671816366391296
def own_m4 : Nat → UInt64 := own_q4 13830554455654793216 13830554455654793216 13830554455654793216 13830554455654793216
def own_z4 : Nat → Int32 := own_q4 0 0 0 0
def own_ci (c0 c1 c2 c3 : Int32) : Nat → UInt64 := own_q4 (FP.i2d c0) (FP.i2d c1) (FP.i2d c2) (FP.i2d c3)
theorem own_k4 (n : Int32) : n &&& 3 = 0 ∨ n &&& 3 = 1 ∨ n &&& 3 = 2 ∨ n &&& 3 = 3 := by
  have e : (n &&& 3).toInt = n.toInt % 2 ^ 2 := Jvm.Kit.i32_mask n 3 (k := 2) (by decide) (by decide)
  rcases (by omega : (n &&& 3).toInt = 0 ∨ (n &&& 3).toInt = 1 ∨ (n &&& 3).toInt = 2 ∨ (n &&& 3).toInt = 3) with q | q | q | q
  · exact Or.inl (Int32.toInt_inj.mp q)
  · exact Or.inr (Or.inl (Int32.toInt_inj.mp q))
  · exact Or.inr (Or.inr (Or.inl (Int32.toInt_inj.mp q)))
  · exact Or.inr (Or.inr (Or.inr (Int32.toInt_inj.mp q)))
theorem own_mk8 (y : Int32) : 0 ≤ (y &&& 255).toInt ∧ (y &&& 255).toInt < 256 := by
  have e : (y &&& 255).toInt = y.toInt % 2 ^ 8 := Jvm.Kit.i32_mask y 255 (k := 8) (by decide) (by decide)
  omega
theorem own_x8 (y : Int32) : 1 ≤ ((1 : Int32) + (y &&& 255)).toInt ∧ ((1 : Int32) + (y &&& 255)).toInt ≤ 256 := by
  have h := own_mk8 y
  have o : (1 : Int32).toInt = 1 := rfl
  have e : ((1 : Int32) + (y &&& 255)).toInt = (1 : Int32).toInt + (y &&& 255).toInt := Jvm.Kit.i32_add (by rw [o]; omega) (by rw [o]; omega)
  omega
theorem own_b5 (y : Int32) : -100000 < (y % 100000).toInt ∧ (y % 100000).toInt < 100000 := by
  have e : (y % 100000).toInt = y.toInt.tmod 100000 := Int32.toInt_mod y 100000
  rw [e]
  exact ⟨Int.lt_tmod_of_pos _ (by decide), Int.tmod_lt_of_pos _ (by decide)⟩
theorem own_next {k : Int} {t : UInt64} (d : FP.Core.DInt k t) (h1 : -200000 < k) (h2 : k < 200000) (y : Int32) : ∃ k', k + 1 ≤ k' ∧ k' ≤ k + 256 ∧ FP.Core.DInt k' (FP.dadd t (FP.i2d ((1 : Int32) + (y &&& 255)))) :=
  ⟨k + ((1 : Int32) + (y &&& 255)).toInt, by have := own_x8 y; omega, by have := own_x8 y; omega, FP.Core.dadd_int d (FP.Core.i2d_int _) (by have := own_x8 y; omega)⟩
theorem own_cmp {k : Int} : compare k k = .eq := by
  show compareOfLessAndEq k k = .eq
  unfold compareOfLessAndEq
  rw [if_neg (by omega), if_pos rfl]
theorem own_dd {k : Int} {t u : UInt64} (d : FP.Core.DInt k t) (d' : FP.Core.DInt k u) : FP.dcmp t u = some .eq := by
  have q : FP.dcmp t u = some (compare k k) := FP.Core.dcmp_int d d'
  rw [q, own_cmp]
theorem own_ii (c : Int32) : FP.dcmp (FP.i2d c) (FP.i2d c) = some .eq := own_dd (FP.Core.i2d_int c) (FP.Core.i2d_int c)
theorem own_jj {c1 c2 : Int32} (h1 : 0 ≤ c1.toInt ∧ c1.toInt < 256) (h2 : 0 ≤ c2.toInt ∧ c2.toInt < 256) : FP.dcmp (FP.dadd (FP.i2d c2) (FP.i2d c1)) (FP.i2d (c1 + c2)) = some .eq := by
  have e : (c1 + c2).toInt = c1.toInt + c2.toInt := Jvm.Kit.i32_add (by omega) (by omega)
  have q := FP.Core.i2d_int (c1 + c2)
  rw [e, Int.add_comm] at q
  exact own_dd (FP.Core.dadd_int (FP.Core.i2d_int c2) (FP.Core.i2d_int c1) (by omega)) q
theorem own_up {k0 k1 k2 k3 : Int} {t0 t1 t2 t3 : UInt64} (d0 : FP.Core.DInt k0 t0) (d1 : FP.Core.DInt k1 t1) (d2 : FP.Core.DInt k2 t2) (d3 : FP.Core.DInt k3 t3) (m0 : Mag64 1056 t0) (m1 : Mag64 1058 t1) (m2 : Mag64 1060 t2) (m3 : Mag64 1062 t3)
    (a1 : k0 + 1 ≤ k1) (b1 : k1 ≤ k0 + 256) (a2 : k1 + 1 ≤ k2) (b2 : k2 ≤ k1 + 256) (a3 : k2 + 1 ≤ k3) (b3 : k3 ≤ k2 + 256) : OUp (own_q4 t0 t1 t2 t3) := by
  refine ⟨fun i hi => ?_, fun i j hij hj => ?_⟩
  · rcases (by omega : i = 0 ∨ i = 1 ∨ i = 2 ∨ i = 3) with rfl | rfl | rfl | rfl
    · exact m0.mono (by decide)
    · exact m1.mono (by decide)
    · exact m2.mono (by decide)
    · exact m3
  · rcases (by omega : (i = 0 ∧ j = 1) ∨ (i = 0 ∧ j = 2) ∨ (i = 0 ∧ j = 3) ∨ (i = 1 ∧ j = 2) ∨ (i = 1 ∧ j = 3) ∨ (i = 2 ∧ j = 3)) with ⟨rfl, rfl⟩ | ⟨rfl, rfl⟩ | ⟨rfl, rfl⟩ | ⟨rfl, rfl⟩ | ⟨rfl, rfl⟩ | ⟨rfl, rfl⟩
    · exact ⟨k1 - k0, by omega, by omega, FP.Core.dsub_int d1 d0 (by omega)⟩
    · exact ⟨k2 - k0, by omega, by omega, FP.Core.dsub_int d2 d0 (by omega)⟩
    · exact ⟨k3 - k0, by omega, by omega, FP.Core.dsub_int d3 d0 (by omega)⟩
    · exact ⟨k2 - k1, by omega, by omega, FP.Core.dsub_int d2 d1 (by omega)⟩
    · exact ⟨k3 - k1, by omega, by omega, FP.Core.dsub_int d3 d1 (by omega)⟩
    · exact ⟨k3 - k2, by omega, by omega, FP.Core.dsub_int d3 d2 (by omega)⟩
theorem own_cn4 (c0 c1 c2 c3 : Int32) : OCn (own_ci c0 c1 c2 c3) := by
  intro i hi
  rcases (by omega : i = 0 ∨ i = 1 ∨ i = 2 ∨ i = 3) with rfl | rfl | rfl | rfl <;> exact (Jvm.Free.Fl.i2d_mag _).mono (by decide)
theorem own_nb1 {g : Int32} (b : g = 0 ∨ g = 1) : nar .boolean g = g := by rcases b with rfl | rfl <;> decide
theorem own_g4 {g0 g1 g2 g3 : Int32} (b0 : g0 = 0 ∨ g0 = 1) (b1 : g1 = 0 ∨ g1 = 1) (b2 : g2 = 0 ∨ g2 = 1) (b3 : g3 = 0 ∨ g3 = 1) : ∀ i, nar .boolean (own_q4 g0 g1 g2 g3 i) = own_q4 g0 g1 g2 g3 i
  | 0 => own_nb1 b0
  | 1 => own_nb1 b1
  | 2 => own_nb1 b2
  | _ + 3 => own_nb1 b3
theorem own_bb : FP.dcmp (4741671816366391296 : UInt64) 4741671816366391296 = some .eq := by decide +kernel
theorem own_nn1 : FP.dcmp (13830554455654793216 : UInt64) 13830554455654793216 = some .eq := by decide +kernel
def OCase (zz jj : Int32) : Prop := (zz = 1 ∧ jj = 0) ∨ (zz = 2 ∧ jj = 0) ∨ (zz = 3 ∧ jj = 0) ∨ (zz = 4 ∧ jj = 0) ∨ (zz = 3 ∧ jj = 1)
def OLaw (t0 t1 t2 t3 : UInt64) (c1 c2 zz jj : Int32) : Prop := OCase zz jj ∧ OUp (own_q4 t0 t1 t2 t3) ∧ FP.dcmp t0 t0 = some .eq ∧ FP.dcmp t1 t1 = some .eq ∧ FP.dcmp t2 t2 = some .eq ∧ FP.dcmp t3 t3 = some .eq ∧ (0 ≤ c1.toInt ∧ c1.toInt < 256) ∧ (0 ≤ c2.toInt ∧ c2.toInt < 256)
set_option maxRecDepth 65536 in
set_option maxHeartbeats 40000000 in
theorem lpL {l : Launch} {Z : State} {a0 : Array Value} (hw : ∀ d ∈ tables_1, d.before a0 Z = true) {p : Program} {e : Env} {s : State} {m : MethodId} {args : Array Value} {below : List Frame} {meth : Method} {c : Code} (hC : OCtx Z p s m meth c "com/example/rankfold/rankfold/summaries/BucketEditorWritePinLaw" "law" code maxLocals ret) {T0 : State} (X0 : Stand p l e room_1 s m args below meth c T0 [] 0 0) {h0 : Heap} (e0 : T0.heap = h0) (q0 q1 q2 q3 q4 zz jj : Int32) (t0 t1 t2 t3 : UInt64) (c0 c1 c2 c3 : Int32) (y0 : Int32) (y1 : Int32) (y2 : Int32) (y3 : Int32) (n0 : Nat) (Z0 : n0 ≤ h0.size) (H : OLaw t0 t1 t2 t3 c1 c2 zz jj) (b0 : y0 = 0 ∨ y0 = 1) (b1 : y1 = 0 ∨ y1 = 1) (b2 : y2 = 0 ∨ y2 = 1) (b3 : y3 = 0 ∨ y3 = 1) :
    OFin p e below s room_1.cells room_1.slots (fun v h L => v = some (.int (1 : Int32)) ∧ Fr n0 L) (T0.setTop (mkF m 172 #[.val (.int q0), .val (.int q1), .val (.int q2), .val (.int q3), .val (.int q4), .val (.int zz), .val (.int jj), .val (.double t0), .second, .val (.double t1), .second, .val (.double t2), .second, .val (.double t3), .second, .val (.int c0), .val (.int c1), .val (.int c2), .val (.int c3), .val (.int y0), .val (.int y1), .val (.int y2), .val (.int y3), .unset, .unset, .unset, .unset, .unset, .unset, .unset, .unset, .unset, .unset] [])) := by
  have hC0 := hC
  obtain ⟨hx, hZH, hby, hml, hown, hret, hlk, hnm⟩ := hC
  have hZ := hZH.wide
  have hd := D0.to hby
  have N0 := Fr.nil n0
  obtain ⟨hcase, hU, e_0, e_1, e_2, e_3, hc1, hc2⟩ := H
  have nb0 := own_nb1 b0
  have nb1 := own_nb1 b1
  have nb2 := own_nb1 b2
  have nb3 := own_nb1 b3
  refine pC X0 hx 4 (hd.at 0 rfl) rfl ?_
  refine pg4 (newP X0 hx hZ (wd hw 1 rfl) e0 rfl (hd.at 1 rfl) rfl (by decide) (cap := 4) (by decide) (by decide) (by decide) (by decide)) fun T1 h1 k1 X1 e1 E1 A1 => ?_
  obtain ⟨u, g1⟩ : ∃ z, z = h0.size := ⟨_, rfl⟩
  rw [← g1] at A1 ⊢
  have g_u : n0 ≤ u := Nat.le_trans Z0 (Nat.le_of_eq g1.symm)
  have f2 : Arv Z h1 u k1 .double (4 : Int32) [(.double 0), (.double 0), (.double 0), (.double 0)] (.double 0) := (Arv.new A1 (by decide)).pad (pad_rep [] (.double 0) 4)
  have sz1 : n0 ≤ h1.size := Nat.le_trans Z0 E1.1
  have f3 : OArr Z h1 u .double 4 (fun i => .double ((own_q4 (0 : UInt64) (0 : UInt64) (0 : UInt64) (0 : UInt64)) i)) := OArr.of f2 rfl (own_lt4 rfl rfl rfl rfl)
  refine o_dup X1 hx (hd.at 2 rfl) rfl ?_
  refine pC X1 hx 0 (hd.at 3 rfl) rfl ?_
  refine pd X1 hx (hd.at 4 rfl) rfl ?_
  refine wD X1 hx hZ e1 f3 0 (hd.at 5 rfl) fun T4 h4 X4 e4 W4 V4 => ?_
  have f5 : OArr Z h4 u .double 4 (fun i => .double ((own_q4 t0 (0 : UInt64) (0 : UInt64) (0 : UInt64)) i)) := V4.congr (own_lt4 rfl rfl rfl rfl)
  have sz4 : n0 ≤ h4.size := by rw [W4.size]; exact sz1
  have fr4 := Fr.snoc X4 N0 g_u
  refine o_dup X4 hx (hd.at 6 rfl) rfl ?_
  refine pC X4 hx 1 (hd.at 7 rfl) rfl ?_
  refine pd X4 hx (hd.at 8 rfl) rfl ?_
  refine wD X4 hx hZ e4 f5 1 (hd.at 9 rfl) fun T6 h6 X6 e6 W6 V6 => ?_
  have f7 : OArr Z h6 u .double 4 (fun i => .double ((own_q4 t0 t1 (0 : UInt64) (0 : UInt64)) i)) := V6.congr (own_lt4 rfl rfl rfl rfl)
  have sz6 : n0 ≤ h6.size := by rw [W6.size]; exact sz4
  have fr6 := Fr.snoc X6 fr4 g_u
  refine o_dup X6 hx (hd.at 10 rfl) rfl ?_
  refine pC X6 hx 2 (hd.at 11 rfl) rfl ?_
  refine pd X6 hx (hd.at 12 rfl) rfl ?_
  refine wD X6 hx hZ e6 f7 2 (hd.at 13 rfl) fun T8 h8 X8 e8 W8 V8 => ?_
  have f9 : OArr Z h8 u .double 4 (fun i => .double ((own_q4 t0 t1 t2 (0 : UInt64)) i)) := V8.congr (own_lt4 rfl rfl rfl rfl)
  have sz8 : n0 ≤ h8.size := by rw [W8.size]; exact sz6
  have fr8 := Fr.snoc X8 fr6 g_u
  refine o_dup X8 hx (hd.at 14 rfl) rfl ?_
  refine pC X8 hx 3 (hd.at 15 rfl) rfl ?_
  refine pd X8 hx (hd.at 16 rfl) rfl ?_
  refine wD X8 hx hZ e8 f9 3 (hd.at 17 rfl) fun T10 h10 X10 e10 W10 V10 => ?_
  have f11 : OArr Z h10 u .double 4 (fun i => .double ((own_q4 t0 t1 t2 t3) i)) := V10.congr (own_lt4 rfl rfl rfl rfl)
  have sz10 : n0 ≤ h10.size := by rw [W10.size]; exact sz8
  have fr10 := Fr.snoc X10 fr8 g_u
  refine pw X10 hx #[.val (.int q0), .val (.int q1), .val (.int q2), .val (.int q3), .val (.int q4), .val (.int zz), .val (.int jj), .val (.double t0), .second, .val (.double t1), .second, .val (.double t2), .second, .val (.double t3), .second, .val (.int c0), .val (.int c1), .val (.int c2), .val (.int c3), .val (.int y0), .val (.int y1), .val (.int y2), .val (.int y3), .val (.ref u), .unset, .unset, .unset, .unset, .unset, .unset, .unset, .unset, .unset] (hd.at 18 rfl) rfl rfl ?_
  refine pC X10 hx 4 (hd.at 19 rfl) rfl ?_
  refine pg4 (newP X10 hx hZ (wd hw 1 rfl) e10 rfl (hd.at 20 rfl) rfl (by decide) (cap := 4) (by decide) (by decide) (by decide) (by decide)) fun T12 h12 k12 X12 e12 E12 A12 => ?_
  obtain ⟨ct, g12⟩ : ∃ z, z = h10.size := ⟨_, rfl⟩
  rw [← g12] at A12 ⊢
  have ne_u_ct : u ≠ ct := Nat.ne_of_lt (Nat.lt_of_lt_of_le f11.lt (Nat.le_of_eq g12.symm))
  have g_ct : n0 ≤ ct := Nat.le_trans sz10 (Nat.le_of_eq g12.symm)
  replace f11 := f11.ext E12
  have f13 : Arv Z h12 ct k12 .double (4 : Int32) [(.double 0), (.double 0), (.double 0), (.double 0)] (.double 0) := (Arv.new A12 (by decide)).pad (pad_rep [] (.double 0) 4)
  have sz12 : n0 ≤ h12.size := Nat.le_trans sz10 E12.1
  have f14 : OArr Z h12 ct .double 4 (fun i => .double ((own_q4 (0 : UInt64) (0 : UInt64) (0 : UInt64) (0 : UInt64)) i)) := OArr.of f13 rfl (own_lt4 rfl rfl rfl rfl)
  refine o_dup X12 hx (hd.at 21 rfl) rfl ?_
  refine pC X12 hx 0 (hd.at 22 rfl) rfl ?_
  refine pi X12 hx (hd.at 23 rfl) rfl ?_
  refine o_i2d X12 hx (hd.at 24 rfl) ?_
  refine wD X12 hx hZ e12 f14 0 (hd.at 25 rfl) fun T15 h15 X15 e15 W15 V15 => ?_
  have f16 : OArr Z h15 ct .double 4 (fun i => .double ((own_q4 (FP.i2d c0) (0 : UInt64) (0 : UInt64) (0 : UInt64)) i)) := V15.congr (own_lt4 rfl rfl rfl rfl)
  replace f11 := f11.other W15 ne_u_ct
  have sz15 : n0 ≤ h15.size := by rw [W15.size]; exact sz12
  have fr15 := Fr.snoc X15 fr10 g_ct
  refine o_dup X15 hx (hd.at 26 rfl) rfl ?_
  refine pC X15 hx 1 (hd.at 27 rfl) rfl ?_
  refine pi X15 hx (hd.at 28 rfl) rfl ?_
  refine o_i2d X15 hx (hd.at 29 rfl) ?_
  refine wD X15 hx hZ e15 f16 1 (hd.at 30 rfl) fun T17 h17 X17 e17 W17 V17 => ?_
  have f18 : OArr Z h17 ct .double 4 (fun i => .double ((own_q4 (FP.i2d c0) (FP.i2d c1) (0 : UInt64) (0 : UInt64)) i)) := V17.congr (own_lt4 rfl rfl rfl rfl)
  replace f11 := f11.other W17 ne_u_ct
  have sz17 : n0 ≤ h17.size := by rw [W17.size]; exact sz15
  have fr17 := Fr.snoc X17 fr15 g_ct
  refine o_dup X17 hx (hd.at 31 rfl) rfl ?_
  refine pC X17 hx 2 (hd.at 32 rfl) rfl ?_
  refine pi X17 hx (hd.at 33 rfl) rfl ?_
  refine o_i2d X17 hx (hd.at 34 rfl) ?_
  refine wD X17 hx hZ e17 f18 2 (hd.at 35 rfl) fun T19 h19 X19 e19 W19 V19 => ?_
  have f20 : OArr Z h19 ct .double 4 (fun i => .double ((own_q4 (FP.i2d c0) (FP.i2d c1) (FP.i2d c2) (0 : UInt64)) i)) := V19.congr (own_lt4 rfl rfl rfl rfl)
  replace f11 := f11.other W19 ne_u_ct
  have sz19 : n0 ≤ h19.size := by rw [W19.size]; exact sz17
  have fr19 := Fr.snoc X19 fr17 g_ct
  refine o_dup X19 hx (hd.at 36 rfl) rfl ?_
  refine pC X19 hx 3 (hd.at 37 rfl) rfl ?_
  refine pi X19 hx (hd.at 38 rfl) rfl ?_
  refine o_i2d X19 hx (hd.at 39 rfl) ?_
  refine wD X19 hx hZ e19 f20 3 (hd.at 40 rfl) fun T21 h21 X21 e21 W21 V21 => ?_
  have f22 : OArr Z h21 ct .double 4 (fun i => .double ((own_q4 (FP.i2d c0) (FP.i2d c1) (FP.i2d c2) (FP.i2d c3)) i)) := V21.congr (own_lt4 rfl rfl rfl rfl)
  replace f11 := f11.other W21 ne_u_ct
  have sz21 : n0 ≤ h21.size := by rw [W21.size]; exact sz19
  have fr21 := Fr.snoc X21 fr19 g_ct
  refine pw X21 hx #[.val (.int q0), .val (.int q1), .val (.int q2), .val (.int q3), .val (.int q4), .val (.int zz), .val (.int jj), .val (.double t0), .second, .val (.double t1), .second, .val (.double t2), .second, .val (.double t3), .second, .val (.int c0), .val (.int c1), .val (.int c2), .val (.int c3), .val (.int y0), .val (.int y1), .val (.int y2), .val (.int y3), .val (.ref u), .val (.ref ct), .unset, .unset, .unset, .unset, .unset, .unset, .unset, .unset] (hd.at 41 rfl) rfl rfl ?_
  refine pC X21 hx 4 (hd.at 42 rfl) rfl ?_
  refine pg4 (newP X21 hx hZ (wd hw 2 rfl) e21 rfl (hd.at 43 rfl) rfl (by decide) (cap := 4) (by decide) (by decide) (by decide) (by decide)) fun T23 h23 k23 X23 e23 E23 A23 => ?_
  obtain ⟨gd, g23⟩ : ∃ z, z = h21.size := ⟨_, rfl⟩
  rw [← g23] at A23 ⊢
  have ne_ct_gd : ct ≠ gd := Nat.ne_of_lt (Nat.lt_of_lt_of_le f22.lt (Nat.le_of_eq g23.symm))
  have ne_u_gd : u ≠ gd := Nat.ne_of_lt (Nat.lt_of_lt_of_le f11.lt (Nat.le_of_eq g23.symm))
  have g_gd : n0 ≤ gd := Nat.le_trans sz21 (Nat.le_of_eq g23.symm)
  replace f11 := f11.ext E23
  replace f22 := f22.ext E23
  have f24 : Arv Z h23 gd k23 .boolean (4 : Int32) [(.int (0 : Int32)), (.int (0 : Int32)), (.int (0 : Int32)), (.int (0 : Int32))] (.int (0 : Int32)) := (Arv.new A23 (by decide)).pad (pad_rep [] (.int (0 : Int32)) 4)
  have sz23 : n0 ≤ h23.size := Nat.le_trans sz21 E23.1
  have f25 : OArr Z h23 gd .boolean 4 (fun i => .int ((own_q4 (0 : Int32) (0 : Int32) (0 : Int32) (0 : Int32)) i)) := OArr.of f24 rfl (own_lt4 rfl rfl rfl rfl)
  refine o_dup X23 hx (hd.at 44 rfl) rfl ?_
  refine pC X23 hx 0 (hd.at 45 rfl) rfl ?_
  refine pi X23 hx (hd.at 46 rfl) rfl ?_
  refine wZ X23 hx hZ e23 f25 0 (nb0) (hd.at 47 rfl) fun T26 h26 X26 e26 W26 V26 => ?_
  have f27 : OArr Z h26 gd .boolean 4 (fun i => .int ((own_q4 y0 (0 : Int32) (0 : Int32) (0 : Int32)) i)) := V26.congr (own_lt4 rfl rfl rfl rfl)
  replace f11 := f11.other W26 ne_u_gd
  replace f22 := f22.other W26 ne_ct_gd
  have sz26 : n0 ≤ h26.size := by rw [W26.size]; exact sz23
  have fr26 := Fr.snoc X26 fr21 g_gd
  refine o_dup X26 hx (hd.at 48 rfl) rfl ?_
  refine pC X26 hx 1 (hd.at 49 rfl) rfl ?_
  refine pi X26 hx (hd.at 50 rfl) rfl ?_
  refine wZ X26 hx hZ e26 f27 1 (nb1) (hd.at 51 rfl) fun T28 h28 X28 e28 W28 V28 => ?_
  have f29 : OArr Z h28 gd .boolean 4 (fun i => .int ((own_q4 y0 y1 (0 : Int32) (0 : Int32)) i)) := V28.congr (own_lt4 rfl rfl rfl rfl)
  replace f11 := f11.other W28 ne_u_gd
  replace f22 := f22.other W28 ne_ct_gd
  have sz28 : n0 ≤ h28.size := by rw [W28.size]; exact sz26
  have fr28 := Fr.snoc X28 fr26 g_gd
  refine o_dup X28 hx (hd.at 52 rfl) rfl ?_
  refine pC X28 hx 2 (hd.at 53 rfl) rfl ?_
  refine pi X28 hx (hd.at 54 rfl) rfl ?_
  refine wZ X28 hx hZ e28 f29 2 (nb2) (hd.at 55 rfl) fun T30 h30 X30 e30 W30 V30 => ?_
  have f31 : OArr Z h30 gd .boolean 4 (fun i => .int ((own_q4 y0 y1 y2 (0 : Int32)) i)) := V30.congr (own_lt4 rfl rfl rfl rfl)
  replace f11 := f11.other W30 ne_u_gd
  replace f22 := f22.other W30 ne_ct_gd
  have sz30 : n0 ≤ h30.size := by rw [W30.size]; exact sz28
  have fr30 := Fr.snoc X30 fr28 g_gd
  refine o_dup X30 hx (hd.at 56 rfl) rfl ?_
  refine pC X30 hx 3 (hd.at 57 rfl) rfl ?_
  refine pi X30 hx (hd.at 58 rfl) rfl ?_
  refine wZ X30 hx hZ e30 f31 3 (nb3) (hd.at 59 rfl) fun T32 h32 X32 e32 W32 V32 => ?_
  have f33 : OArr Z h32 gd .boolean 4 (fun i => .int ((own_q4 y0 y1 y2 y3) i)) := V32.congr (own_lt4 rfl rfl rfl rfl)
  replace f11 := f11.other W32 ne_u_gd
  replace f22 := f22.other W32 ne_ct_gd
  have sz32 : n0 ≤ h32.size := by rw [W32.size]; exact sz30
  have fr32 := Fr.snoc X32 fr30 g_gd
  refine pw X32 hx #[.val (.int q0), .val (.int q1), .val (.int q2), .val (.int q3), .val (.int q4), .val (.int zz), .val (.int jj), .val (.double t0), .second, .val (.double t1), .second, .val (.double t2), .second, .val (.double t3), .second, .val (.int c0), .val (.int c1), .val (.int c2), .val (.int c3), .val (.int y0), .val (.int y1), .val (.int y2), .val (.int y3), .val (.ref u), .val (.ref ct), .val (.ref gd), .unset, .unset, .unset, .unset, .unset, .unset, .unset] (hd.at 60 rfl) rfl rfl ?_
  refine pi X32 hx (hd.at 61 rfl) rfl ?_
  refine o_i2l X32 hx (hd.at 62 rfl) ?_
  refine pi X32 hx (hd.at 63 rfl) rfl ?_
  refine o_i2l X32 hx (hd.at 64 rfl) ?_
  refine o_ladd X32 hx (hd.at 65 rfl) ?_
  refine pi X32 hx (hd.at 66 rfl) rfl ?_
  refine o_i2l X32 hx (hd.at 67 rfl) ?_
  refine o_ladd X32 hx (hd.at 68 rfl) ?_
  refine pi X32 hx (hd.at 69 rfl) rfl ?_
  refine o_i2l X32 hx (hd.at 70 rfl) ?_
  refine o_ladd X32 hx (hd.at 71 rfl) ?_
  generalize hnn : ((((c0.toInt64) + (c1.toInt64)) + (c2.toInt64)) + (c3.toInt64)) = nn
  refine own_st (fun _ kS => XS.lstore X32.here hx rfl (hd.at 72 rfl) rfl (l' := #[.val (.int q0), .val (.int q1), .val (.int q2), .val (.int q3), .val (.int q4), .val (.int zz), .val (.int jj), .val (.double t0), .second, .val (.double t1), .second, .val (.double t2), .second, .val (.double t3), .second, .val (.int c0), .val (.int c1), .val (.int c2), .val (.int c3), .val (.int y0), .val (.int y1), .val (.int y2), .val (.int y3), .val (.ref u), .val (.ref ct), .val (.ref gd), .val (.long nn), .second, .unset, .unset, .unset, .unset, .unset]) rfl kS) ?_
  show OFin p e below s _ _ _ (T32.setTop (mkF m 268 #[.val (.int q0), .val (.int q1), .val (.int q2), .val (.int q3), .val (.int q4), .val (.int zz), .val (.int jj), .val (.double t0), .second, .val (.double t1), .second, .val (.double t2), .second, .val (.double t3), .second, .val (.int c0), .val (.int c1), .val (.int c2), .val (.int c3), .val (.int y0), .val (.int y1), .val (.int y2), .val (.int y3), .val (.ref u), .val (.ref ct), .val (.ref gd), .val (.long nn), .second, .unset, .unset, .unset, .unset, .unset] []))
  refine pC X32 hx 4 (hd.at 73 rfl) rfl ?_
  refine pg4 (newP X32 hx hZ (wd hw 1 rfl) e32 rfl (hd.at 74 rfl) rfl (by decide) (cap := 4) (by decide) (by decide) (by decide) (by decide)) fun T34 h34 k34 X34 e34 E34 A34 => ?_
  obtain ⟨o1, g34⟩ : ∃ z, z = h32.size := ⟨_, rfl⟩
  rw [← g34] at A34 ⊢
  have ne_ct_o1 : ct ≠ o1 := Nat.ne_of_lt (Nat.lt_of_lt_of_le f22.lt (Nat.le_of_eq g34.symm))
  have ne_gd_o1 : gd ≠ o1 := Nat.ne_of_lt (Nat.lt_of_lt_of_le f33.lt (Nat.le_of_eq g34.symm))
  have ne_u_o1 : u ≠ o1 := Nat.ne_of_lt (Nat.lt_of_lt_of_le f11.lt (Nat.le_of_eq g34.symm))
  have g_o1 : n0 ≤ o1 := Nat.le_trans sz32 (Nat.le_of_eq g34.symm)
  replace f11 := f11.ext E34
  replace f22 := f22.ext E34
  replace f33 := f33.ext E34
  have f35 : Arv Z h34 o1 k34 .double (4 : Int32) [(.double 0), (.double 0), (.double 0), (.double 0)] (.double 0) := (Arv.new A34 (by decide)).pad (pad_rep [] (.double 0) 4)
  have sz34 : n0 ≤ h34.size := Nat.le_trans sz32 E34.1
  have f36 : OArr Z h34 o1 .double 4 (fun i => .double ((own_q4 (0 : UInt64) (0 : UInt64) (0 : UInt64) (0 : UInt64)) i)) := OArr.of f35 rfl (own_lt4 rfl rfl rfl rfl)
  refine o_dup X34 hx (hd.at 75 rfl) rfl ?_
  refine pC X34 hx 0 (hd.at 76 rfl) rfl ?_
  refine pL (X34.ldc2DoubleC hx hown (mvT hZ (wd hw 3 rfl)) rfl (hd.at 77 rfl)) ?_
  refine wD X34 hx hZ e34 f36 0 (hd.at 78 rfl) fun T37 h37 X37 e37 W37 V37 => ?_
  have f38 : OArr Z h37 o1 .double 4 (fun i => .double ((own_q4 (4741671816366391296 : UInt64) (0 : UInt64) (0 : UInt64) (0 : UInt64)) i)) := V37.congr (own_lt4 rfl rfl rfl rfl)
  replace f11 := f11.other W37 ne_u_o1
  replace f22 := f22.other W37 ne_ct_o1
  replace f33 := f33.other W37 ne_gd_o1
  have sz37 : n0 ≤ h37.size := by rw [W37.size]; exact sz34
  have fr37 := Fr.snoc X37 fr32 g_o1
  refine o_dup X37 hx (hd.at 79 rfl) rfl ?_
  refine pC X37 hx 1 (hd.at 80 rfl) rfl ?_
  refine pL (X37.ldc2DoubleC hx hown (mvT hZ (wd hw 3 rfl)) rfl (hd.at 81 rfl)) ?_
  refine wD X37 hx hZ e37 f38 1 (hd.at 82 rfl) fun T39 h39 X39 e39 W39 V39 => ?_
  have f40 : OArr Z h39 o1 .double 4 (fun i => .double ((own_q4 (4741671816366391296 : UInt64) (4741671816366391296 : UInt64) (0 : UInt64) (0 : UInt64)) i)) := V39.congr (own_lt4 rfl rfl rfl rfl)
  replace f11 := f11.other W39 ne_u_o1
  replace f22 := f22.other W39 ne_ct_o1
  replace f33 := f33.other W39 ne_gd_o1
  have sz39 : n0 ≤ h39.size := by rw [W39.size]; exact sz37
  have fr39 := Fr.snoc X39 fr37 g_o1
  refine o_dup X39 hx (hd.at 83 rfl) rfl ?_
  refine pC X39 hx 2 (hd.at 84 rfl) rfl ?_
  refine pL (X39.ldc2DoubleC hx hown (mvT hZ (wd hw 3 rfl)) rfl (hd.at 85 rfl)) ?_
  refine wD X39 hx hZ e39 f40 2 (hd.at 86 rfl) fun T41 h41 X41 e41 W41 V41 => ?_
  have f42 : OArr Z h41 o1 .double 4 (fun i => .double ((own_q4 (4741671816366391296 : UInt64) (4741671816366391296 : UInt64) (4741671816366391296 : UInt64) (0 : UInt64)) i)) := V41.congr (own_lt4 rfl rfl rfl rfl)
  replace f11 := f11.other W41 ne_u_o1
  replace f22 := f22.other W41 ne_ct_o1
  replace f33 := f33.other W41 ne_gd_o1
  have sz41 : n0 ≤ h41.size := by rw [W41.size]; exact sz39
  have fr41 := Fr.snoc X41 fr39 g_o1
  refine o_dup X41 hx (hd.at 87 rfl) rfl ?_
  refine pC X41 hx 3 (hd.at 88 rfl) rfl ?_
  refine pL (X41.ldc2DoubleC hx hown (mvT hZ (wd hw 3 rfl)) rfl (hd.at 89 rfl)) ?_
  refine wD X41 hx hZ e41 f42 3 (hd.at 90 rfl) fun T43 h43 X43 e43 W43 V43 => ?_
  have f44 : OArr Z h43 o1 .double 4 (fun i => .double ((own_q4 (4741671816366391296 : UInt64) (4741671816366391296 : UInt64) (4741671816366391296 : UInt64) (4741671816366391296 : UInt64)) i)) := V43.congr (own_lt4 rfl rfl rfl rfl)
  replace f11 := f11.other W43 ne_u_o1
  replace f22 := f22.other W43 ne_ct_o1
  replace f33 := f33.other W43 ne_gd_o1
  have sz43 : n0 ≤ h43.size := by rw [W43.size]; exact sz41
  have fr43 := Fr.snoc X43 fr41 g_o1
  refine pw X43 hx #[.val (.int q0), .val (.int q1), .val (.int q2), .val (.int q3), .val (.int q4), .val (.int zz), .val (.int jj), .val (.double t0), .second, .val (.double t1), .second, .val (.double t2), .second, .val (.double t3), .second, .val (.int c0), .val (.int c1), .val (.int c2), .val (.int c3), .val (.int y0), .val (.int y1), .val (.int y2), .val (.int y3), .val (.ref u), .val (.ref ct), .val (.ref gd), .val (.long nn), .second, .val (.ref o1), .unset, .unset, .unset, .unset] (hd.at 91 rfl) rfl rfl ?_
  refine pC X43 hx 4 (hd.at 92 rfl) rfl ?_
  refine pg4 (newP X43 hx hZ (wd hw 1 rfl) e43 rfl (hd.at 93 rfl) rfl (by decide) (cap := 4) (by decide) (by decide) (by decide) (by decide)) fun T45 h45 k45 X45 e45 E45 A45 => ?_
  obtain ⟨o2, g45⟩ : ∃ z, z = h43.size := ⟨_, rfl⟩
  rw [← g45] at A45 ⊢
  have ne_ct_o2 : ct ≠ o2 := Nat.ne_of_lt (Nat.lt_of_lt_of_le f22.lt (Nat.le_of_eq g45.symm))
  have ne_gd_o2 : gd ≠ o2 := Nat.ne_of_lt (Nat.lt_of_lt_of_le f33.lt (Nat.le_of_eq g45.symm))
  have ne_o1_o2 : o1 ≠ o2 := Nat.ne_of_lt (Nat.lt_of_lt_of_le f44.lt (Nat.le_of_eq g45.symm))
  have ne_u_o2 : u ≠ o2 := Nat.ne_of_lt (Nat.lt_of_lt_of_le f11.lt (Nat.le_of_eq g45.symm))
  have g_o2 : n0 ≤ o2 := Nat.le_trans sz43 (Nat.le_of_eq g45.symm)
  replace f11 := f11.ext E45
  replace f22 := f22.ext E45
  replace f33 := f33.ext E45
  replace f44 := f44.ext E45
  have f46 : Arv Z h45 o2 k45 .double (4 : Int32) [(.double 0), (.double 0), (.double 0), (.double 0)] (.double 0) := (Arv.new A45 (by decide)).pad (pad_rep [] (.double 0) 4)
  have sz45 : n0 ≤ h45.size := Nat.le_trans sz43 E45.1
  have f47 : OArr Z h45 o2 .double 4 (fun i => .double ((own_q4 (0 : UInt64) (0 : UInt64) (0 : UInt64) (0 : UInt64)) i)) := OArr.of f46 rfl (own_lt4 rfl rfl rfl rfl)
  refine o_dup X45 hx (hd.at 94 rfl) rfl ?_
  refine pC X45 hx 0 (hd.at 95 rfl) rfl ?_
  refine pL (X45.ldc2DoubleC hx hown (mvT hZ (wd hw 4 rfl)) rfl (hd.at 96 rfl)) ?_
  refine wD X45 hx hZ e45 f47 0 (hd.at 97 rfl) fun T48 h48 X48 e48 W48 V48 => ?_
  have f49 : OArr Z h48 o2 .double 4 (fun i => .double ((own_q4 (13830554455654793216 : UInt64) (0 : UInt64) (0 : UInt64) (0 : UInt64)) i)) := V48.congr (own_lt4 rfl rfl rfl rfl)
  replace f11 := f11.other W48 ne_u_o2
  replace f22 := f22.other W48 ne_ct_o2
  replace f33 := f33.other W48 ne_gd_o2
  replace f44 := f44.other W48 ne_o1_o2
  have sz48 : n0 ≤ h48.size := by rw [W48.size]; exact sz45
  have fr48 := Fr.snoc X48 fr43 g_o2
  refine o_dup X48 hx (hd.at 98 rfl) rfl ?_
  refine pC X48 hx 1 (hd.at 99 rfl) rfl ?_
  refine pL (X48.ldc2DoubleC hx hown (mvT hZ (wd hw 4 rfl)) rfl (hd.at 100 rfl)) ?_
  refine wD X48 hx hZ e48 f49 1 (hd.at 101 rfl) fun T50 h50 X50 e50 W50 V50 => ?_
  have f51 : OArr Z h50 o2 .double 4 (fun i => .double ((own_q4 (13830554455654793216 : UInt64) (13830554455654793216 : UInt64) (0 : UInt64) (0 : UInt64)) i)) := V50.congr (own_lt4 rfl rfl rfl rfl)
  replace f11 := f11.other W50 ne_u_o2
  replace f22 := f22.other W50 ne_ct_o2
  replace f33 := f33.other W50 ne_gd_o2
  replace f44 := f44.other W50 ne_o1_o2
  have sz50 : n0 ≤ h50.size := by rw [W50.size]; exact sz48
  have fr50 := Fr.snoc X50 fr48 g_o2
  refine o_dup X50 hx (hd.at 102 rfl) rfl ?_
  refine pC X50 hx 2 (hd.at 103 rfl) rfl ?_
  refine pL (X50.ldc2DoubleC hx hown (mvT hZ (wd hw 4 rfl)) rfl (hd.at 104 rfl)) ?_
  refine wD X50 hx hZ e50 f51 2 (hd.at 105 rfl) fun T52 h52 X52 e52 W52 V52 => ?_
  have f53 : OArr Z h52 o2 .double 4 (fun i => .double ((own_q4 (13830554455654793216 : UInt64) (13830554455654793216 : UInt64) (13830554455654793216 : UInt64) (0 : UInt64)) i)) := V52.congr (own_lt4 rfl rfl rfl rfl)
  replace f11 := f11.other W52 ne_u_o2
  replace f22 := f22.other W52 ne_ct_o2
  replace f33 := f33.other W52 ne_gd_o2
  replace f44 := f44.other W52 ne_o1_o2
  have sz52 : n0 ≤ h52.size := by rw [W52.size]; exact sz50
  have fr52 := Fr.snoc X52 fr50 g_o2
  refine o_dup X52 hx (hd.at 106 rfl) rfl ?_
  refine pC X52 hx 3 (hd.at 107 rfl) rfl ?_
  refine pL (X52.ldc2DoubleC hx hown (mvT hZ (wd hw 4 rfl)) rfl (hd.at 108 rfl)) ?_
  refine wD X52 hx hZ e52 f53 3 (hd.at 109 rfl) fun T54 h54 X54 e54 W54 V54 => ?_
  have f55 : OArr Z h54 o2 .double 4 (fun i => .double ((own_q4 (13830554455654793216 : UInt64) (13830554455654793216 : UInt64) (13830554455654793216 : UInt64) (13830554455654793216 : UInt64)) i)) := V54.congr (own_lt4 rfl rfl rfl rfl)
  replace f11 := f11.other W54 ne_u_o2
  replace f22 := f22.other W54 ne_ct_o2
  replace f33 := f33.other W54 ne_gd_o2
  replace f44 := f44.other W54 ne_o1_o2
  have sz54 : n0 ≤ h54.size := by rw [W54.size]; exact sz52
  have fr54 := Fr.snoc X54 fr52 g_o2
  refine pw X54 hx #[.val (.int q0), .val (.int q1), .val (.int q2), .val (.int q3), .val (.int q4), .val (.int zz), .val (.int jj), .val (.double t0), .second, .val (.double t1), .second, .val (.double t2), .second, .val (.double t3), .second, .val (.int c0), .val (.int c1), .val (.int c2), .val (.int c3), .val (.int y0), .val (.int y1), .val (.int y2), .val (.int y3), .val (.ref u), .val (.ref ct), .val (.ref gd), .val (.long nn), .second, .val (.ref o1), .val (.ref o2), .unset, .unset, .unset] (hd.at 110 rfl) rfl rfl ?_
  refine pC X54 hx 4 (hd.at 111 rfl) rfl ?_
  refine pg4 (newP X54 hx hZ (wd hw 2 rfl) e54 rfl (hd.at 112 rfl) rfl (by decide) (cap := 4) (by decide) (by decide) (by decide) (by decide)) fun T56 h56 k56 X56 e56 E56 A56 => ?_
  obtain ⟨o3, g56⟩ : ∃ z, z = h54.size := ⟨_, rfl⟩
  rw [← g56] at A56 ⊢
  have ne_ct_o3 : ct ≠ o3 := Nat.ne_of_lt (Nat.lt_of_lt_of_le f22.lt (Nat.le_of_eq g56.symm))
  have ne_gd_o3 : gd ≠ o3 := Nat.ne_of_lt (Nat.lt_of_lt_of_le f33.lt (Nat.le_of_eq g56.symm))
  have ne_o1_o3 : o1 ≠ o3 := Nat.ne_of_lt (Nat.lt_of_lt_of_le f44.lt (Nat.le_of_eq g56.symm))
  have ne_o2_o3 : o2 ≠ o3 := Nat.ne_of_lt (Nat.lt_of_lt_of_le f55.lt (Nat.le_of_eq g56.symm))
  have ne_u_o3 : u ≠ o3 := Nat.ne_of_lt (Nat.lt_of_lt_of_le f11.lt (Nat.le_of_eq g56.symm))
  have g_o3 : n0 ≤ o3 := Nat.le_trans sz54 (Nat.le_of_eq g56.symm)
  replace f11 := f11.ext E56
  replace f22 := f22.ext E56
  replace f33 := f33.ext E56
  replace f44 := f44.ext E56
  replace f55 := f55.ext E56
  have f57 : Arv Z h56 o3 k56 .boolean (4 : Int32) [(.int (0 : Int32)), (.int (0 : Int32)), (.int (0 : Int32)), (.int (0 : Int32))] (.int (0 : Int32)) := (Arv.new A56 (by decide)).pad (pad_rep [] (.int (0 : Int32)) 4)
  have sz56 : n0 ≤ h56.size := Nat.le_trans sz54 E56.1
  have f58 : OArr Z h56 o3 .boolean 4 (fun i => .int ((own_q4 (0 : Int32) (0 : Int32) (0 : Int32) (0 : Int32)) i)) := OArr.of f57 rfl (own_lt4 rfl rfl rfl rfl)
  refine pw X56 hx #[.val (.int q0), .val (.int q1), .val (.int q2), .val (.int q3), .val (.int q4), .val (.int zz), .val (.int jj), .val (.double t0), .second, .val (.double t1), .second, .val (.double t2), .second, .val (.double t3), .second, .val (.int c0), .val (.int c1), .val (.int c2), .val (.int c3), .val (.int y0), .val (.int y1), .val (.int y2), .val (.int y3), .val (.ref u), .val (.ref ct), .val (.ref gd), .val (.long nn), .second, .val (.ref o1), .val (.ref o2), .val (.ref o3), .unset, .unset] (hd.at 113 rfl) rfl rfl ?_
  refine pg5 (newO X56 hx hZ hown (wd hw 5 rfl) (wd hw 6 rfl) (wd hw 7 rfl) e56 rfl (hd.at 114 rfl) (by decide) (by decide)) fun T59 h59 X59 e59 E59 A59 D59 _ => ?_
  obtain ⟨ed, g59⟩ : ∃ z, z = h56.size := ⟨_, rfl⟩
  rw [← g59] at A59 D59 ⊢
  have ne_ct_ed : ct ≠ ed := Nat.ne_of_lt (Nat.lt_of_lt_of_le f22.lt (Nat.le_of_eq g59.symm))
  have ne_gd_ed : gd ≠ ed := Nat.ne_of_lt (Nat.lt_of_lt_of_le f33.lt (Nat.le_of_eq g59.symm))
  have ne_o1_ed : o1 ≠ ed := Nat.ne_of_lt (Nat.lt_of_lt_of_le f44.lt (Nat.le_of_eq g59.symm))
  have ne_o2_ed : o2 ≠ ed := Nat.ne_of_lt (Nat.lt_of_lt_of_le f55.lt (Nat.le_of_eq g59.symm))
  have ne_o3_ed : o3 ≠ ed := Nat.ne_of_lt (Nat.lt_of_lt_of_le f58.lt (Nat.le_of_eq g59.symm))
  have ne_u_ed : u ≠ ed := Nat.ne_of_lt (Nat.lt_of_lt_of_le f11.lt (Nat.le_of_eq g59.symm))
  have g_ed : n0 ≤ ed := Nat.le_trans sz56 (Nat.le_of_eq g59.symm)
  replace f11 := f11.ext E59
  replace f22 := f22.ext E59
  replace f33 := f33.ext E59
  replace f44 := f44.ext E59
  replace f55 := f55.ext E59
  replace f58 := f58.ext E59
  have f60 : Fld Z h59 ed "com/example/rankfold/rankfold/summaries/BucketEditor" "freeSlot" "I" (.int 0) := D59 (Or.inl (wd hw 16 rfl)) (ty := .int) (by decide)
  have f61 : Fld Z h59 ed "com/example/rankfold/rankfold/summaries/BucketEditor" "maxBuckets" "I" (.int 0) := D59 (Or.inr (wd hw 18 rfl)) (ty := .int) (by decide)
  have f62 : Fld Z h59 ed "com/example/rankfold/rankfold/summaries/BucketEditor" "n" "D" (.double 0) := D59 (Or.inr (wd hw 20 rfl)) (ty := .double) (by decide)
  have f63 : Fld Z h59 ed "com/example/rankfold/rankfold/summaries/BucketEditor" "smallestMagnitude" "D" (.double 0) := D59 (Or.inr (wd hw 22 rfl)) (ty := .double) (by decide)
  have f64 : Fld Z h59 ed "com/example/rankfold/rankfold/summaries/BucketEditor" "splitFactor" "D" (.double 0) := D59 (Or.inl (wd hw 24 rfl)) (ty := .double) (by decide)
  have f65 : Fld Z h59 ed "com/example/rankfold/rankfold/summaries/BucketEditor" "size" "I" (.int 0) := D59 (Or.inl (wd hw 26 rfl)) (ty := .int) (by decide)
  have f66 : Fld Z h59 ed "com/example/rankfold/rankfold/summaries/BucketEditor" "slots" "I" (.int 0) := D59 (Or.inl (wd hw 28 rfl)) (ty := .int) (by decide)
  have f67 : Fld Z h59 ed "com/example/rankfold/rankfold/summaries/BucketEditor" "upper" "[D" .null := D59 (Or.inl (wd hw 30 rfl)) (ty := (.array .double)) (by decide)
  have f68 : Fld Z h59 ed "com/example/rankfold/rankfold/summaries/BucketEditor" "count" "[D" .null := D59 (Or.inl (wd hw 32 rfl)) (ty := (.array .double)) (by decide)
  have f69 : Fld Z h59 ed "com/example/rankfold/rankfold/summaries/BucketEditor" "guarded" "[Z" .null := D59 (Or.inl (wd hw 34 rfl)) (ty := (.array .boolean)) (by decide)
  have f70 : Fld Z h59 ed "com/example/rankfold/rankfold/summaries/BucketEditor" "previous" "[I" .null := D59 (Or.inl (wd hw 37 rfl)) (ty := (.array .int)) (by decide)
  have f71 : Fld Z h59 ed "com/example/rankfold/rankfold/summaries/BucketEditor" "next" "[I" .null := D59 (Or.inl (wd hw 39 rfl)) (ty := (.array .int)) (by decide)
  have f72 : Fld Z h59 ed "com/example/rankfold/rankfold/summaries/BucketEditor" "joins" "Lcom/example/rankfold/rankfold/summaries/Tournament;" .null := D59 (Or.inl (wd hw 64 rfl)) (ty := (.object "com/example/rankfold/rankfold/summaries/Tournament")) (by decide)
  have f73 : Fld Z h59 ed "com/example/rankfold/rankfold/summaries/BucketEditor" "anyJoins" "Lcom/example/rankfold/rankfold/summaries/Tournament;" .null := D59 (Or.inl (wd hw 183 rfl)) (ty := (.object "com/example/rankfold/rankfold/summaries/Tournament")) (by decide)
  have f74 : Fld Z h59 ed "com/example/rankfold/rankfold/summaries/BucketEditor" "splits" "Lcom/example/rankfold/rankfold/summaries/Tournament;" .null := D59 (Or.inl (wd hw 191 rfl)) (ty := (.object "com/example/rankfold/rankfold/summaries/Tournament")) (by decide)
  have sz59 : n0 ≤ h59.size := Nat.le_trans sz56 E59.1
  have f75 : OE0 Z h59 ed := ⟨A59, f60, f61, f62, f63, f64, f65, f66, f67, f68, f69, f70, f71, f72, f73, f74⟩
  refine o_dup X59 hx (hd.at 115 rfl) rfl ?_
  refine pa X59 hx (hd.at 116 rfl) rfl rfl ?_
  refine pa X59 hx (hd.at 117 rfl) rfl rfl ?_
  refine pa X59 hx (hd.at 118 rfl) rfl rfl ?_
  refine pi X59 hx (hd.at 119 rfl) rfl ?_
  refine pC X59 hx 4 (hd.at 120 rfl) rfl ?_
  refine pL (fun _ kS => XS.lload X59.here hx rfl (hd.at 121 rfl) rfl kS) ?_
  refine pL (X59.ldc2DoubleC hx hown (mvT hZ (wd hw 8 rfl)) rfl (hd.at 122 rfl)) ?_
  refine pL (own_dconst1 X59 hx rfl (hd.at 123 rfl)) ?_
  have n76 := Ne.symm ne_gd_ed
  have n77 := Ne.symm ne_ct_ed
  have n78 := Ne.symm ne_u_ed
  have hSi := (OOrd.cons g_ed (allS n78 (allS n77 (allS n76 all0))) (OOrd.cons g_u (allS ne_u_ct (allS ne_u_gd all0)) (OOrd.cons g_ct (allS ne_ct_gd all0) (OOrd.cons g_gd all0 OOrd.nil))))
  have hG := own_g4 b0 b1 b2 b3
  have hN := own_cn4 c0 c1 c2 c3
  rcases hcase with ⟨rfl, rfl⟩ | ⟨rfl, rfl⟩ | ⟨rfl, rfl⟩ | ⟨rfl, rfl⟩ | ⟨rfl, rfl⟩
  · refine pgV (own_init X59 hx hZ (y := yN1) (rm := ⟨12, 8, 25, 3100⟩) (W := 1) (a := ed) (argsL := [(.ref u), (.ref ct), (.ref gd), (.int 1), (.int 4), (.long nn), (.double 4613937818241073152), (.double FP.dconst1)]) (rest := [(.ref ed)]) rfl hown (wd hw 9 rfl) (wd hw 10 rfl) (wd hw 7 rfl) (wd hw 11 rfl) (rmIn1 l Z a0 hw ed u ct gd nn h59 n0 (own_q4 t0 t1 t2 t3) (own_ci c0 c1 c2 c3) (own_q4 y0 y1 y2 y3) sz59 f75 f11 f22 f33 hU hN hSi) e59 rfl (by rw [hml]; rfl) (lenOf own_pd16 rfl) rfl (by exact Nat.le_of_eq rfl) (hd.at 124 rfl) (by decide) (by decide) (by decide) (by decide)) fun T79 L79 X79 hQ79 => ?_
    obtain ⟨N79, K79, nx, ge_nx, BB79_0⟩ := hQ79
    have ne_ct_nx : ct ≠ nx := Nat.ne_of_lt (Nat.lt_of_lt_of_le f22.lt ge_nx)
    have ne_ed_nx : ed ≠ nx := Nat.ne_of_lt (Nat.lt_of_lt_of_le f75.1.lt ge_nx)
    have ne_gd_nx : gd ≠ nx := Nat.ne_of_lt (Nat.lt_of_lt_of_le f33.lt ge_nx)
    have ne_o1_nx : o1 ≠ nx := Nat.ne_of_lt (Nat.lt_of_lt_of_le f44.lt ge_nx)
    have ne_o2_nx : o2 ≠ nx := Nat.ne_of_lt (Nat.lt_of_lt_of_le f55.lt ge_nx)
    have ne_o3_nx : o3 ≠ nx := Nat.ne_of_lt (Nat.lt_of_lt_of_le f58.lt ge_nx)
    have ne_u_nx : u ≠ nx := Nat.ne_of_lt (Nat.lt_of_lt_of_le f11.lt ge_nx)
    have g_nx : n0 ≤ nx := Nat.le_trans sz59 ge_nx
    have fr79 := Fr.app fr54 N79
    replace f11 := f11.keep K79 (ninS ne_u_ed nin0)
    replace f22 := f22.keep K79 (ninS ne_ct_ed nin0)
    replace f33 := f33.keep K79 (ninS ne_gd_ed nin0)
    replace f44 := f44.keep K79 (ninS ne_o1_ed nin0)
    replace f55 := f55.keep K79 (ninS ne_o2_ed nin0)
    replace f58 := f58.keep K79 (ninS ne_o3_ed nin0)
    have sz79 : n0 ≤ T79.heap.size := Nat.le_trans sz59 K79.1
    refine pw X79 hx #[.val (.int q0), .val (.int q1), .val (.int q2), .val (.int q3), .val (.int q4), .val (.int 1), .val (.int 0), .val (.double t0), .second, .val (.double t1), .second, .val (.double t2), .second, .val (.double t3), .second, .val (.int c0), .val (.int c1), .val (.int c2), .val (.int c3), .val (.int y0), .val (.int y1), .val (.int y2), .val (.int y3), .val (.ref u), .val (.ref ct), .val (.ref gd), .val (.long nn), .second, .val (.ref o1), .val (.ref o2), .val (.ref o3), .val (.ref ed), .unset] (hd.at 125 rfl) rfl rfl ?_
    refine pi X79 hx (hd.at 126 rfl) rfl ?_
    refine pfY X79 hx 366 (hd.at 127 rfl) ((if0 _ _).trans (teq rfl).1) ?_
    refine pa X79 hx (hd.at 128 rfl) rfl rfl ?_
    refine pa X79 hx (hd.at 129 rfl) rfl rfl ?_
    refine pa X79 hx (hd.at 130 rfl) rfl rfl ?_
    refine pa X79 hx (hd.at 131 rfl) rfl rfl ?_
    have n80 := Ne.symm ne_o3_ed
    have n81 := Ne.symm ne_o2_ed
    have n82 := Ne.symm ne_o1_ed
    have n83 := Ne.symm ne_o3_nx
    have n84 := Ne.symm ne_o2_nx
    have n85 := Ne.symm ne_o1_nx
    refine pg3 (own_virtual X79 hx hZ (y := yN11) (z := yN11) (rm := ⟨0, 0, 0, 0⟩) (W := 0) (a := ed) (argsL := [(.ref o1), (.ref o2), (.ref o3)]) (rest := []) hown (wd hw 104 rfl) (wd hw 105 rfl) (notFace_of_selects (args := #[]) (mvT hZ (wd hw 107 rfl))) (wd hw 107 rfl) (wd hw 106 rfl) (wd hw 7 rfl) (wd hw 108 rfl) (rmWr1 l Z a0 hw ed o1 o2 o3 T79.heap n0 u ct gd nx (own_q4 t0 t1 t2 t3) (own_ci c0 c1 c2 c3) (own_q4 y0 y1 y2 y3) own_b4 own_m4 own_z4 BB79_0 f44 f55 f58 hG (OOrd.cons g_ed (allS n78 (allS n77 (allS n76 (allS ne_ed_nx (allS n82 (allS n81 (allS n80 all0))))))) (OOrd.cons g_u (allS ne_u_ct (allS ne_u_gd (allS ne_u_nx (allS ne_u_o1 (allS ne_u_o2 (allS ne_u_o3 all0)))))) (OOrd.cons g_ct (allS ne_ct_gd (allS ne_ct_nx (allS ne_ct_o1 (allS ne_ct_o2 (allS ne_ct_o3 all0))))) (OOrd.cons g_gd (allS ne_gd_nx (allS ne_gd_o1 (allS ne_gd_o2 (allS ne_gd_o3 all0)))) (OOrd.cons g_nx (allS n85 (allS n84 (allS n83 all0))) (OOrd.cons g_o1 (allS ne_o1_o2 (allS ne_o1_o3 all0)) (OOrd.cons g_o2 (allS ne_o2_o3 all0) (OOrd.cons g_o3 all0 OOrd.nil))))))))) rfl BB79_0.1 rfl (by rw [hml]; rfl) (lenOf own_pd17 rfl) rfl (by exact Nat.le_of_eq rfl) (hd.at 132 rfl) (by decide) (by decide) (by decide) (by decide)) fun v86 T86 L86 X86 hQ86 => ?_
    obtain ⟨rfl, N86, K86, A1, A2, A3⟩ := hQ86
    have fr86 := Fr.app fr79 N86
    replace f11 := f11.keep K86 (ninS ne_u_o1 (ninS ne_u_o2 (ninS ne_u_o3 nin0)))
    replace f22 := f22.keep K86 (ninS ne_ct_o1 (ninS ne_ct_o2 (ninS ne_ct_o3 nin0)))
    replace f33 := f33.keep K86 (ninS ne_gd_o1 (ninS ne_gd_o2 (ninS ne_gd_o3 nin0)))
    replace BB79_0 := BB79_0.keep K86 (ninS n82 (ninS n81 (ninS n80 nin0))) (ninS ne_u_o1 (ninS ne_u_o2 (ninS ne_u_o3 nin0))) (ninS ne_ct_o1 (ninS ne_ct_o2 (ninS ne_ct_o3 nin0))) (ninS ne_gd_o1 (ninS ne_gd_o2 (ninS ne_gd_o3 nin0))) (ninS n85 (ninS n84 (ninS n83 nin0)))
    have sz86 : n0 ≤ T86.heap.size := Nat.le_trans sz79 K86.1
    show OFin p e below s _ _ _ (T86.setTop (mkF m 377 #[.val (.int q0), .val (.int q1), .val (.int q2), .val (.int q3), .val (.int q4), .val (.int 1), .val (.int 0), .val (.double t0), .second, .val (.double t1), .second, .val (.double t2), .second, .val (.double t3), .second, .val (.int c0), .val (.int c1), .val (.int c2), .val (.int c3), .val (.int y0), .val (.int y1), .val (.int y2), .val (.int y3), .val (.ref u), .val (.ref ct), .val (.ref gd), .val (.long nn), .second, .val (.ref o1), .val (.ref o2), .val (.ref o3), .val (.ref ed), .unset] [(.int 1)]))
    refine ps X86 hx #[.val (.int q0), .val (.int q1), .val (.int q2), .val (.int q3), .val (.int q4), .val (.int 1), .val (.int 0), .val (.double t0), .second, .val (.double t1), .second, .val (.double t2), .second, .val (.double t3), .second, .val (.int c0), .val (.int c1), .val (.int c2), .val (.int c3), .val (.int y0), .val (.int y1), .val (.int y2), .val (.int y3), .val (.ref u), .val (.ref ct), .val (.ref gd), .val (.long nn), .second, .val (.ref o1), .val (.ref o2), .val (.ref o3), .val (.ref ed), .val (.int 1)] (hd.at 133 rfl) rfl ?_
    refine pi X86 hx (hd.at 134 rfl) rfl ?_
    refine pfY X86 hx 503 (hd.at 135 rfl) ((if0 _ _).trans (teq rfl).1) ?_
    refine pi X86 hx (hd.at 136 rfl) rfl ?_
    refine pi X86 hx (hd.at 137 rfl) rfl ?_
    refine pcN X86 hx (hd.at 138 rfl) ((teq rfl).2) ?_
    refine pa X86 hx (hd.at 139 rfl) rfl rfl ?_
    refine pa X86 hx (hd.at 140 rfl) rfl rfl ?_
    refine pa X86 hx (hd.at 141 rfl) rfl rfl ?_
    refine pC X86 hx 0 (hd.at 142 rfl) rfl ?_
    refine pi X86 hx (hd.at 143 rfl) rfl ?_
    refine pd X86 hx (hd.at 144 rfl) rfl ?_
    refine pi X86 hx (hd.at 145 rfl) rfl ?_
    refine pi X86 hx (hd.at 146 rfl) rfl ?_
    refine pgP (own_static X86 hx hZ (y := yN12) (rm := ⟨0, 0, 0, 0⟩) (W := 0) (argsL := [(.ref o1), (.ref o2), (.ref o3), (.int 0), (.int 1), (.double t0), (.int c0), (.int y0)]) (rest := []) hown (wd hw 109 rfl) (wd hw 110 rfl) (wd hw 111 rfl) (wd hw 112 rfl) (rmSlA l Z a0 hw o1 o2 o3 0 1 t0 c0 y0 T86.heap (own_q4 ((own_q4 t0 t1 t2 t3) 0) (own_b4 1) (own_b4 2) (own_b4 3)) (own_q4 ((own_ci c0 c1 c2 c3) 0) (own_m4 1) (own_m4 2) (own_m4 3)) (own_q4 ((own_q4 y0 y1 y2 y3) 0) (own_z4 1) (own_z4 2) (own_z4 3)) 0 A1 A2 A3 (by decide) (by decide) (by decide) (by decide) e_0 (own_ii c0) rfl) rfl rfl (by rw [hml]; rfl) (lenOf own_pd18 rfl) rfl (by exact Nat.le_of_eq rfl) (hd.at 147 rfl) (by decide) (by decide) (by decide) (by decide)) fun T87 X87 e87 => ?_
    refine pfN X87 hx (hd.at 148 rfl) ((if0 _ _).trans (feq (by decide)).1) ?_
    refine pa X87 hx (hd.at 149 rfl) rfl rfl ?_
    refine pa X87 hx (hd.at 150 rfl) rfl rfl ?_
    refine pa X87 hx (hd.at 151 rfl) rfl rfl ?_
    refine pC X87 hx 1 (hd.at 152 rfl) rfl ?_
    refine pi X87 hx (hd.at 153 rfl) rfl ?_
    refine pd X87 hx (hd.at 154 rfl) rfl ?_
    refine pi X87 hx (hd.at 155 rfl) rfl ?_
    refine pi X87 hx (hd.at 156 rfl) rfl ?_
    refine pgP (own_static X87 hx hZ (y := yN12) (rm := ⟨0, 0, 0, 0⟩) (W := 0) (argsL := [(.ref o1), (.ref o2), (.ref o3), (.int 1), (.int 1), (.double t1), (.int c1), (.int y1)]) (rest := []) hown (wd hw 109 rfl) (wd hw 110 rfl) (wd hw 111 rfl) (wd hw 112 rfl) (rmSlB l Z a0 hw o1 o2 o3 1 1 t1 c1 y1 T86.heap (own_q4 ((own_q4 t0 t1 t2 t3) 0) (own_b4 1) (own_b4 2) (own_b4 3)) (own_q4 ((own_ci c0 c1 c2 c3) 0) (own_m4 1) (own_m4 2) (own_m4 3)) (own_q4 ((own_q4 y0 y1 y2 y3) 0) (own_z4 1) (own_z4 2) (own_z4 3)) 1 A1 A2 A3 (by decide) (by decide) (by decide) (by decide) own_bb own_nn1) e87 rfl (by rw [hml]; rfl) (lenOf own_pd18 rfl) rfl (by exact Nat.le_of_eq rfl) (hd.at 157 rfl) (by decide) (by decide) (by decide) (by decide)) fun T88 X88 e88 => ?_
    refine pfN X88 hx (hd.at 158 rfl) ((if0 _ _).trans (feq (by decide)).1) ?_
    refine pa X88 hx (hd.at 159 rfl) rfl rfl ?_
    refine pa X88 hx (hd.at 160 rfl) rfl rfl ?_
    refine pa X88 hx (hd.at 161 rfl) rfl rfl ?_
    refine pC X88 hx 2 (hd.at 162 rfl) rfl ?_
    refine pi X88 hx (hd.at 163 rfl) rfl ?_
    refine pd X88 hx (hd.at 164 rfl) rfl ?_
    refine pi X88 hx (hd.at 165 rfl) rfl ?_
    refine pi X88 hx (hd.at 166 rfl) rfl ?_
    refine pgP (own_static X88 hx hZ (y := yN12) (rm := ⟨0, 0, 0, 0⟩) (W := 0) (argsL := [(.ref o1), (.ref o2), (.ref o3), (.int 2), (.int 1), (.double t2), (.int c2), (.int y2)]) (rest := []) hown (wd hw 109 rfl) (wd hw 110 rfl) (wd hw 111 rfl) (wd hw 112 rfl) (rmSlB l Z a0 hw o1 o2 o3 2 1 t2 c2 y2 T86.heap (own_q4 ((own_q4 t0 t1 t2 t3) 0) (own_b4 1) (own_b4 2) (own_b4 3)) (own_q4 ((own_ci c0 c1 c2 c3) 0) (own_m4 1) (own_m4 2) (own_m4 3)) (own_q4 ((own_q4 y0 y1 y2 y3) 0) (own_z4 1) (own_z4 2) (own_z4 3)) 2 A1 A2 A3 (by decide) (by decide) (by decide) (by decide) own_bb own_nn1) e88 rfl (by rw [hml]; rfl) (lenOf own_pd18 rfl) rfl (by exact Nat.le_of_eq rfl) (hd.at 167 rfl) (by decide) (by decide) (by decide) (by decide)) fun T89 X89 e89 => ?_
    refine pfN X89 hx (hd.at 168 rfl) ((if0 _ _).trans (feq (by decide)).1) ?_
    refine pa X89 hx (hd.at 169 rfl) rfl rfl ?_
    refine pa X89 hx (hd.at 170 rfl) rfl rfl ?_
    refine pa X89 hx (hd.at 171 rfl) rfl rfl ?_
    refine pC X89 hx 3 (hd.at 172 rfl) rfl ?_
    refine pi X89 hx (hd.at 173 rfl) rfl ?_
    refine pd X89 hx (hd.at 174 rfl) rfl ?_
    refine pi X89 hx (hd.at 175 rfl) rfl ?_
    refine pi X89 hx (hd.at 176 rfl) rfl ?_
    refine pgP (own_static X89 hx hZ (y := yN12) (rm := ⟨0, 0, 0, 0⟩) (W := 0) (argsL := [(.ref o1), (.ref o2), (.ref o3), (.int 3), (.int 1), (.double t3), (.int c3), (.int y3)]) (rest := []) hown (wd hw 109 rfl) (wd hw 110 rfl) (wd hw 111 rfl) (wd hw 112 rfl) (rmSlB l Z a0 hw o1 o2 o3 3 1 t3 c3 y3 T86.heap (own_q4 ((own_q4 t0 t1 t2 t3) 0) (own_b4 1) (own_b4 2) (own_b4 3)) (own_q4 ((own_ci c0 c1 c2 c3) 0) (own_m4 1) (own_m4 2) (own_m4 3)) (own_q4 ((own_q4 y0 y1 y2 y3) 0) (own_z4 1) (own_z4 2) (own_z4 3)) 3 A1 A2 A3 (by decide) (by decide) (by decide) (by decide) own_bb own_nn1) e89 rfl (by rw [hml]; rfl) (lenOf own_pd18 rfl) rfl (by exact Nat.le_of_eq rfl) (hd.at 177 rfl) (by decide) (by decide) (by decide) (by decide)) fun T90 X90 e90 => ?_
    refine pfN X90 hx (hd.at 178 rfl) ((if0 _ _).trans (feq (by decide)).1) ?_
    refine pC X90 hx 1 (hd.at 179 rfl) rfl ?_
    refine pG X90 hx 599 (hd.at 180 rfl) ?_
    exact own_ret X90 hx (t := .boolean) hret hlk rfl (Or.inl ⟨rfl, by simp, _, rfl⟩) (hd.at 181 rfl) (by decide) (by decide) ⟨rfl, fr86⟩
  · refine pgV (own_init X59 hx hZ (y := yN1) (rm := ⟨12, 8, 25, 3100⟩) (W := 1) (a := ed) (argsL := [(.ref u), (.ref ct), (.ref gd), (.int 2), (.int 4), (.long nn), (.double 4613937818241073152), (.double FP.dconst1)]) (rest := [(.ref ed)]) rfl hown (wd hw 9 rfl) (wd hw 10 rfl) (wd hw 7 rfl) (wd hw 11 rfl) (rmIn2 l Z a0 hw ed u ct gd nn h59 n0 (own_q4 t0 t1 t2 t3) (own_ci c0 c1 c2 c3) (own_q4 y0 y1 y2 y3) sz59 f75 f11 f22 f33 hU hN hSi) e59 rfl (by rw [hml]; rfl) (lenOf own_pd16 rfl) rfl (by exact Nat.le_of_eq rfl) (hd.at 124 rfl) (by decide) (by decide) (by decide) (by decide)) fun T91 L91 X91 hQ91 => ?_
    obtain ⟨N91, K91, nx, ge_nx, BB91_0⟩ := hQ91
    have ne_ct_nx : ct ≠ nx := Nat.ne_of_lt (Nat.lt_of_lt_of_le f22.lt ge_nx)
    have ne_ed_nx : ed ≠ nx := Nat.ne_of_lt (Nat.lt_of_lt_of_le f75.1.lt ge_nx)
    have ne_gd_nx : gd ≠ nx := Nat.ne_of_lt (Nat.lt_of_lt_of_le f33.lt ge_nx)
    have ne_o1_nx : o1 ≠ nx := Nat.ne_of_lt (Nat.lt_of_lt_of_le f44.lt ge_nx)
    have ne_o2_nx : o2 ≠ nx := Nat.ne_of_lt (Nat.lt_of_lt_of_le f55.lt ge_nx)
    have ne_o3_nx : o3 ≠ nx := Nat.ne_of_lt (Nat.lt_of_lt_of_le f58.lt ge_nx)
    have ne_u_nx : u ≠ nx := Nat.ne_of_lt (Nat.lt_of_lt_of_le f11.lt ge_nx)
    have g_nx : n0 ≤ nx := Nat.le_trans sz59 ge_nx
    have fr91 := Fr.app fr54 N91
    replace f11 := f11.keep K91 (ninS ne_u_ed nin0)
    replace f22 := f22.keep K91 (ninS ne_ct_ed nin0)
    replace f33 := f33.keep K91 (ninS ne_gd_ed nin0)
    replace f44 := f44.keep K91 (ninS ne_o1_ed nin0)
    replace f55 := f55.keep K91 (ninS ne_o2_ed nin0)
    replace f58 := f58.keep K91 (ninS ne_o3_ed nin0)
    have sz91 : n0 ≤ T91.heap.size := Nat.le_trans sz59 K91.1
    refine pw X91 hx #[.val (.int q0), .val (.int q1), .val (.int q2), .val (.int q3), .val (.int q4), .val (.int 2), .val (.int 0), .val (.double t0), .second, .val (.double t1), .second, .val (.double t2), .second, .val (.double t3), .second, .val (.int c0), .val (.int c1), .val (.int c2), .val (.int c3), .val (.int y0), .val (.int y1), .val (.int y2), .val (.int y3), .val (.ref u), .val (.ref ct), .val (.ref gd), .val (.long nn), .second, .val (.ref o1), .val (.ref o2), .val (.ref o3), .val (.ref ed), .unset] (hd.at 125 rfl) rfl rfl ?_
    refine pi X91 hx (hd.at 126 rfl) rfl ?_
    refine pfY X91 hx 366 (hd.at 127 rfl) ((if0 _ _).trans (teq rfl).1) ?_
    refine pa X91 hx (hd.at 128 rfl) rfl rfl ?_
    refine pa X91 hx (hd.at 129 rfl) rfl rfl ?_
    refine pa X91 hx (hd.at 130 rfl) rfl rfl ?_
    refine pa X91 hx (hd.at 131 rfl) rfl rfl ?_
    have n92 := Ne.symm ne_o3_ed
    have n93 := Ne.symm ne_o2_ed
    have n94 := Ne.symm ne_o1_ed
    have n95 := Ne.symm ne_o3_nx
    have n96 := Ne.symm ne_o2_nx
    have n97 := Ne.symm ne_o1_nx
    refine pg3 (own_virtual X91 hx hZ (y := yN11) (z := yN11) (rm := ⟨0, 0, 0, 0⟩) (W := 0) (a := ed) (argsL := [(.ref o1), (.ref o2), (.ref o3)]) (rest := []) hown (wd hw 104 rfl) (wd hw 105 rfl) (notFace_of_selects (args := #[]) (mvT hZ (wd hw 107 rfl))) (wd hw 107 rfl) (wd hw 106 rfl) (wd hw 7 rfl) (wd hw 108 rfl) (rmWr2 l Z a0 hw ed o1 o2 o3 T91.heap n0 u ct gd nx (own_q4 t0 t1 t2 t3) (own_ci c0 c1 c2 c3) (own_q4 y0 y1 y2 y3) own_b4 own_m4 own_z4 BB91_0 f44 f55 f58 hG (OOrd.cons g_ed (allS n78 (allS n77 (allS n76 (allS ne_ed_nx (allS n94 (allS n93 (allS n92 all0))))))) (OOrd.cons g_u (allS ne_u_ct (allS ne_u_gd (allS ne_u_nx (allS ne_u_o1 (allS ne_u_o2 (allS ne_u_o3 all0)))))) (OOrd.cons g_ct (allS ne_ct_gd (allS ne_ct_nx (allS ne_ct_o1 (allS ne_ct_o2 (allS ne_ct_o3 all0))))) (OOrd.cons g_gd (allS ne_gd_nx (allS ne_gd_o1 (allS ne_gd_o2 (allS ne_gd_o3 all0)))) (OOrd.cons g_nx (allS n97 (allS n96 (allS n95 all0))) (OOrd.cons g_o1 (allS ne_o1_o2 (allS ne_o1_o3 all0)) (OOrd.cons g_o2 (allS ne_o2_o3 all0) (OOrd.cons g_o3 all0 OOrd.nil))))))))) rfl BB91_0.1 rfl (by rw [hml]; rfl) (lenOf own_pd17 rfl) rfl (by exact Nat.le_of_eq rfl) (hd.at 132 rfl) (by decide) (by decide) (by decide) (by decide)) fun v98 T98 L98 X98 hQ98 => ?_
    obtain ⟨rfl, N98, K98, A1, A2, A3⟩ := hQ98
    have fr98 := Fr.app fr91 N98
    replace f11 := f11.keep K98 (ninS ne_u_o1 (ninS ne_u_o2 (ninS ne_u_o3 nin0)))
    replace f22 := f22.keep K98 (ninS ne_ct_o1 (ninS ne_ct_o2 (ninS ne_ct_o3 nin0)))
    replace f33 := f33.keep K98 (ninS ne_gd_o1 (ninS ne_gd_o2 (ninS ne_gd_o3 nin0)))
    replace BB91_0 := BB91_0.keep K98 (ninS n94 (ninS n93 (ninS n92 nin0))) (ninS ne_u_o1 (ninS ne_u_o2 (ninS ne_u_o3 nin0))) (ninS ne_ct_o1 (ninS ne_ct_o2 (ninS ne_ct_o3 nin0))) (ninS ne_gd_o1 (ninS ne_gd_o2 (ninS ne_gd_o3 nin0))) (ninS n97 (ninS n96 (ninS n95 nin0)))
    have sz98 : n0 ≤ T98.heap.size := Nat.le_trans sz91 K98.1
    show OFin p e below s _ _ _ (T98.setTop (mkF m 377 #[.val (.int q0), .val (.int q1), .val (.int q2), .val (.int q3), .val (.int q4), .val (.int 2), .val (.int 0), .val (.double t0), .second, .val (.double t1), .second, .val (.double t2), .second, .val (.double t3), .second, .val (.int c0), .val (.int c1), .val (.int c2), .val (.int c3), .val (.int y0), .val (.int y1), .val (.int y2), .val (.int y3), .val (.ref u), .val (.ref ct), .val (.ref gd), .val (.long nn), .second, .val (.ref o1), .val (.ref o2), .val (.ref o3), .val (.ref ed), .unset] [(.int 2)]))
    refine ps X98 hx #[.val (.int q0), .val (.int q1), .val (.int q2), .val (.int q3), .val (.int q4), .val (.int 2), .val (.int 0), .val (.double t0), .second, .val (.double t1), .second, .val (.double t2), .second, .val (.double t3), .second, .val (.int c0), .val (.int c1), .val (.int c2), .val (.int c3), .val (.int y0), .val (.int y1), .val (.int y2), .val (.int y3), .val (.ref u), .val (.ref ct), .val (.ref gd), .val (.long nn), .second, .val (.ref o1), .val (.ref o2), .val (.ref o3), .val (.ref ed), .val (.int 2)] (hd.at 133 rfl) rfl ?_
    refine pi X98 hx (hd.at 134 rfl) rfl ?_
    refine pfY X98 hx 503 (hd.at 135 rfl) ((if0 _ _).trans (teq rfl).1) ?_
    refine pi X98 hx (hd.at 136 rfl) rfl ?_
    refine pi X98 hx (hd.at 137 rfl) rfl ?_
    refine pcN X98 hx (hd.at 138 rfl) ((teq rfl).2) ?_
    refine pa X98 hx (hd.at 139 rfl) rfl rfl ?_
    refine pa X98 hx (hd.at 140 rfl) rfl rfl ?_
    refine pa X98 hx (hd.at 141 rfl) rfl rfl ?_
    refine pC X98 hx 0 (hd.at 142 rfl) rfl ?_
    refine pi X98 hx (hd.at 143 rfl) rfl ?_
    refine pd X98 hx (hd.at 144 rfl) rfl ?_
    refine pi X98 hx (hd.at 145 rfl) rfl ?_
    refine pi X98 hx (hd.at 146 rfl) rfl ?_
    refine pgP (own_static X98 hx hZ (y := yN12) (rm := ⟨0, 0, 0, 0⟩) (W := 0) (argsL := [(.ref o1), (.ref o2), (.ref o3), (.int 0), (.int 2), (.double t0), (.int c0), (.int y0)]) (rest := []) hown (wd hw 109 rfl) (wd hw 110 rfl) (wd hw 111 rfl) (wd hw 112 rfl) (rmSlA l Z a0 hw o1 o2 o3 0 2 t0 c0 y0 T98.heap (own_q4 ((own_q4 t0 t1 t2 t3) 0) ((own_q4 t0 t1 t2 t3) 1) (own_b4 2) (own_b4 3)) (own_q4 ((own_ci c0 c1 c2 c3) 0) ((own_ci c0 c1 c2 c3) 1) (own_m4 2) (own_m4 3)) (own_q4 ((own_q4 y0 y1 y2 y3) 0) ((own_q4 y0 y1 y2 y3) 1) (own_z4 2) (own_z4 3)) 0 A1 A2 A3 (by decide) (by decide) (by decide) (by decide) e_0 (own_ii c0) rfl) rfl rfl (by rw [hml]; rfl) (lenOf own_pd18 rfl) rfl (by exact Nat.le_of_eq rfl) (hd.at 147 rfl) (by decide) (by decide) (by decide) (by decide)) fun T99 X99 e99 => ?_
    refine pfN X99 hx (hd.at 148 rfl) ((if0 _ _).trans (feq (by decide)).1) ?_
    refine pa X99 hx (hd.at 149 rfl) rfl rfl ?_
    refine pa X99 hx (hd.at 150 rfl) rfl rfl ?_
    refine pa X99 hx (hd.at 151 rfl) rfl rfl ?_
    refine pC X99 hx 1 (hd.at 152 rfl) rfl ?_
    refine pi X99 hx (hd.at 153 rfl) rfl ?_
    refine pd X99 hx (hd.at 154 rfl) rfl ?_
    refine pi X99 hx (hd.at 155 rfl) rfl ?_
    refine pi X99 hx (hd.at 156 rfl) rfl ?_
    refine pgP (own_static X99 hx hZ (y := yN12) (rm := ⟨0, 0, 0, 0⟩) (W := 0) (argsL := [(.ref o1), (.ref o2), (.ref o3), (.int 1), (.int 2), (.double t1), (.int c1), (.int y1)]) (rest := []) hown (wd hw 109 rfl) (wd hw 110 rfl) (wd hw 111 rfl) (wd hw 112 rfl) (rmSlA l Z a0 hw o1 o2 o3 1 2 t1 c1 y1 T98.heap (own_q4 ((own_q4 t0 t1 t2 t3) 0) ((own_q4 t0 t1 t2 t3) 1) (own_b4 2) (own_b4 3)) (own_q4 ((own_ci c0 c1 c2 c3) 0) ((own_ci c0 c1 c2 c3) 1) (own_m4 2) (own_m4 3)) (own_q4 ((own_q4 y0 y1 y2 y3) 0) ((own_q4 y0 y1 y2 y3) 1) (own_z4 2) (own_z4 3)) 1 A1 A2 A3 (by decide) (by decide) (by decide) (by decide) e_1 (own_ii c1) rfl) e99 rfl (by rw [hml]; rfl) (lenOf own_pd18 rfl) rfl (by exact Nat.le_of_eq rfl) (hd.at 157 rfl) (by decide) (by decide) (by decide) (by decide)) fun T100 X100 e100 => ?_
    refine pfN X100 hx (hd.at 158 rfl) ((if0 _ _).trans (feq (by decide)).1) ?_
    refine pa X100 hx (hd.at 159 rfl) rfl rfl ?_
    refine pa X100 hx (hd.at 160 rfl) rfl rfl ?_
    refine pa X100 hx (hd.at 161 rfl) rfl rfl ?_
    refine pC X100 hx 2 (hd.at 162 rfl) rfl ?_
    refine pi X100 hx (hd.at 163 rfl) rfl ?_
    refine pd X100 hx (hd.at 164 rfl) rfl ?_
    refine pi X100 hx (hd.at 165 rfl) rfl ?_
    refine pi X100 hx (hd.at 166 rfl) rfl ?_
    refine pgP (own_static X100 hx hZ (y := yN12) (rm := ⟨0, 0, 0, 0⟩) (W := 0) (argsL := [(.ref o1), (.ref o2), (.ref o3), (.int 2), (.int 2), (.double t2), (.int c2), (.int y2)]) (rest := []) hown (wd hw 109 rfl) (wd hw 110 rfl) (wd hw 111 rfl) (wd hw 112 rfl) (rmSlB l Z a0 hw o1 o2 o3 2 2 t2 c2 y2 T98.heap (own_q4 ((own_q4 t0 t1 t2 t3) 0) ((own_q4 t0 t1 t2 t3) 1) (own_b4 2) (own_b4 3)) (own_q4 ((own_ci c0 c1 c2 c3) 0) ((own_ci c0 c1 c2 c3) 1) (own_m4 2) (own_m4 3)) (own_q4 ((own_q4 y0 y1 y2 y3) 0) ((own_q4 y0 y1 y2 y3) 1) (own_z4 2) (own_z4 3)) 2 A1 A2 A3 (by decide) (by decide) (by decide) (by decide) own_bb own_nn1) e100 rfl (by rw [hml]; rfl) (lenOf own_pd18 rfl) rfl (by exact Nat.le_of_eq rfl) (hd.at 167 rfl) (by decide) (by decide) (by decide) (by decide)) fun T101 X101 e101 => ?_
    refine pfN X101 hx (hd.at 168 rfl) ((if0 _ _).trans (feq (by decide)).1) ?_
    refine pa X101 hx (hd.at 169 rfl) rfl rfl ?_
    refine pa X101 hx (hd.at 170 rfl) rfl rfl ?_
    refine pa X101 hx (hd.at 171 rfl) rfl rfl ?_
    refine pC X101 hx 3 (hd.at 172 rfl) rfl ?_
    refine pi X101 hx (hd.at 173 rfl) rfl ?_
    refine pd X101 hx (hd.at 174 rfl) rfl ?_
    refine pi X101 hx (hd.at 175 rfl) rfl ?_
    refine pi X101 hx (hd.at 176 rfl) rfl ?_
    refine pgP (own_static X101 hx hZ (y := yN12) (rm := ⟨0, 0, 0, 0⟩) (W := 0) (argsL := [(.ref o1), (.ref o2), (.ref o3), (.int 3), (.int 2), (.double t3), (.int c3), (.int y3)]) (rest := []) hown (wd hw 109 rfl) (wd hw 110 rfl) (wd hw 111 rfl) (wd hw 112 rfl) (rmSlB l Z a0 hw o1 o2 o3 3 2 t3 c3 y3 T98.heap (own_q4 ((own_q4 t0 t1 t2 t3) 0) ((own_q4 t0 t1 t2 t3) 1) (own_b4 2) (own_b4 3)) (own_q4 ((own_ci c0 c1 c2 c3) 0) ((own_ci c0 c1 c2 c3) 1) (own_m4 2) (own_m4 3)) (own_q4 ((own_q4 y0 y1 y2 y3) 0) ((own_q4 y0 y1 y2 y3) 1) (own_z4 2) (own_z4 3)) 3 A1 A2 A3 (by decide) (by decide) (by decide) (by decide) own_bb own_nn1) e101 rfl (by rw [hml]; rfl) (lenOf own_pd18 rfl) rfl (by exact Nat.le_of_eq rfl) (hd.at 177 rfl) (by decide) (by decide) (by decide) (by decide)) fun T102 X102 e102 => ?_
    refine pfN X102 hx (hd.at 178 rfl) ((if0 _ _).trans (feq (by decide)).1) ?_
    refine pC X102 hx 1 (hd.at 179 rfl) rfl ?_
    refine pG X102 hx 599 (hd.at 180 rfl) ?_
    exact own_ret X102 hx (t := .boolean) hret hlk rfl (Or.inl ⟨rfl, by simp, _, rfl⟩) (hd.at 181 rfl) (by decide) (by decide) ⟨rfl, fr98⟩
  · refine pgV (own_init X59 hx hZ (y := yN1) (rm := ⟨12, 8, 25, 3100⟩) (W := 1) (a := ed) (argsL := [(.ref u), (.ref ct), (.ref gd), (.int 3), (.int 4), (.long nn), (.double 4613937818241073152), (.double FP.dconst1)]) (rest := [(.ref ed)]) rfl hown (wd hw 9 rfl) (wd hw 10 rfl) (wd hw 7 rfl) (wd hw 11 rfl) (rmIn3 l Z a0 hw ed u ct gd nn h59 n0 (own_q4 t0 t1 t2 t3) (own_ci c0 c1 c2 c3) (own_q4 y0 y1 y2 y3) sz59 f75 f11 f22 f33 hU hN hSi) e59 rfl (by rw [hml]; rfl) (lenOf own_pd16 rfl) rfl (by exact Nat.le_of_eq rfl) (hd.at 124 rfl) (by decide) (by decide) (by decide) (by decide)) fun T103 L103 X103 hQ103 => ?_
    obtain ⟨N103, K103, px, nx, t, mm, fa, fk, k1, k2, M, sz, rr, d0, dq, hMr, hO, BB103_0, BB103_1, BB103_2⟩ := hQ103
    have ne_ct_px : ct ≠ px := Nat.ne_of_lt (Nat.lt_of_lt_of_le f22.lt (hO.ge 0 rfl))
    have ne_ed_px : ed ≠ px := Nat.ne_of_lt (Nat.lt_of_lt_of_le f75.1.lt (hO.ge 0 rfl))
    have ne_gd_px : gd ≠ px := Nat.ne_of_lt (Nat.lt_of_lt_of_le f33.lt (hO.ge 0 rfl))
    have ne_o1_px : o1 ≠ px := Nat.ne_of_lt (Nat.lt_of_lt_of_le f44.lt (hO.ge 0 rfl))
    have ne_o2_px : o2 ≠ px := Nat.ne_of_lt (Nat.lt_of_lt_of_le f55.lt (hO.ge 0 rfl))
    have ne_o3_px : o3 ≠ px := Nat.ne_of_lt (Nat.lt_of_lt_of_le f58.lt (hO.ge 0 rfl))
    have ne_u_px : u ≠ px := Nat.ne_of_lt (Nat.lt_of_lt_of_le f11.lt (hO.ge 0 rfl))
    have g_px : n0 ≤ px := Nat.le_trans sz59 (hO.ge 0 rfl)
    have ne_ct_nx : ct ≠ nx := Nat.ne_of_lt (Nat.lt_of_lt_of_le f22.lt (hO.ge 1 rfl))
    have ne_ed_nx : ed ≠ nx := Nat.ne_of_lt (Nat.lt_of_lt_of_le f75.1.lt (hO.ge 1 rfl))
    have ne_gd_nx : gd ≠ nx := Nat.ne_of_lt (Nat.lt_of_lt_of_le f33.lt (hO.ge 1 rfl))
    have ne_o1_nx : o1 ≠ nx := Nat.ne_of_lt (Nat.lt_of_lt_of_le f44.lt (hO.ge 1 rfl))
    have ne_o2_nx : o2 ≠ nx := Nat.ne_of_lt (Nat.lt_of_lt_of_le f55.lt (hO.ge 1 rfl))
    have ne_o3_nx : o3 ≠ nx := Nat.ne_of_lt (Nat.lt_of_lt_of_le f58.lt (hO.ge 1 rfl))
    have ne_u_nx : u ≠ nx := Nat.ne_of_lt (Nat.lt_of_lt_of_le f11.lt (hO.ge 1 rfl))
    have g_nx : n0 ≤ nx := Nat.le_trans sz59 (hO.ge 1 rfl)
    have ne_ct_t : ct ≠ t := Nat.ne_of_lt (Nat.lt_of_lt_of_le f22.lt (hO.ge 2 rfl))
    have ne_ed_t : ed ≠ t := Nat.ne_of_lt (Nat.lt_of_lt_of_le f75.1.lt (hO.ge 2 rfl))
    have ne_gd_t : gd ≠ t := Nat.ne_of_lt (Nat.lt_of_lt_of_le f33.lt (hO.ge 2 rfl))
    have ne_o1_t : o1 ≠ t := Nat.ne_of_lt (Nat.lt_of_lt_of_le f44.lt (hO.ge 2 rfl))
    have ne_o2_t : o2 ≠ t := Nat.ne_of_lt (Nat.lt_of_lt_of_le f55.lt (hO.ge 2 rfl))
    have ne_o3_t : o3 ≠ t := Nat.ne_of_lt (Nat.lt_of_lt_of_le f58.lt (hO.ge 2 rfl))
    have ne_u_t : u ≠ t := Nat.ne_of_lt (Nat.lt_of_lt_of_le f11.lt (hO.ge 2 rfl))
    have g_t : n0 ≤ t := Nat.le_trans sz59 (hO.ge 2 rfl)
    have ne_ct_mm : ct ≠ mm := Nat.ne_of_lt (Nat.lt_of_lt_of_le f22.lt (hO.ge 3 rfl))
    have ne_ed_mm : ed ≠ mm := Nat.ne_of_lt (Nat.lt_of_lt_of_le f75.1.lt (hO.ge 3 rfl))
    have ne_gd_mm : gd ≠ mm := Nat.ne_of_lt (Nat.lt_of_lt_of_le f33.lt (hO.ge 3 rfl))
    have ne_o1_mm : o1 ≠ mm := Nat.ne_of_lt (Nat.lt_of_lt_of_le f44.lt (hO.ge 3 rfl))
    have ne_o2_mm : o2 ≠ mm := Nat.ne_of_lt (Nat.lt_of_lt_of_le f55.lt (hO.ge 3 rfl))
    have ne_o3_mm : o3 ≠ mm := Nat.ne_of_lt (Nat.lt_of_lt_of_le f58.lt (hO.ge 3 rfl))
    have ne_u_mm : u ≠ mm := Nat.ne_of_lt (Nat.lt_of_lt_of_le f11.lt (hO.ge 3 rfl))
    have g_mm : n0 ≤ mm := Nat.le_trans sz59 (hO.ge 3 rfl)
    have ne_ct_fa : ct ≠ fa := Nat.ne_of_lt (Nat.lt_of_lt_of_le f22.lt (hO.ge 4 rfl))
    have ne_ed_fa : ed ≠ fa := Nat.ne_of_lt (Nat.lt_of_lt_of_le f75.1.lt (hO.ge 4 rfl))
    have ne_gd_fa : gd ≠ fa := Nat.ne_of_lt (Nat.lt_of_lt_of_le f33.lt (hO.ge 4 rfl))
    have ne_o1_fa : o1 ≠ fa := Nat.ne_of_lt (Nat.lt_of_lt_of_le f44.lt (hO.ge 4 rfl))
    have ne_o2_fa : o2 ≠ fa := Nat.ne_of_lt (Nat.lt_of_lt_of_le f55.lt (hO.ge 4 rfl))
    have ne_o3_fa : o3 ≠ fa := Nat.ne_of_lt (Nat.lt_of_lt_of_le f58.lt (hO.ge 4 rfl))
    have ne_u_fa : u ≠ fa := Nat.ne_of_lt (Nat.lt_of_lt_of_le f11.lt (hO.ge 4 rfl))
    have g_fa : n0 ≤ fa := Nat.le_trans sz59 (hO.ge 4 rfl)
    have ne_ct_fk : ct ≠ fk := Nat.ne_of_lt (Nat.lt_of_lt_of_le f22.lt (hO.ge 5 rfl))
    have ne_ed_fk : ed ≠ fk := Nat.ne_of_lt (Nat.lt_of_lt_of_le f75.1.lt (hO.ge 5 rfl))
    have ne_gd_fk : gd ≠ fk := Nat.ne_of_lt (Nat.lt_of_lt_of_le f33.lt (hO.ge 5 rfl))
    have ne_o1_fk : o1 ≠ fk := Nat.ne_of_lt (Nat.lt_of_lt_of_le f44.lt (hO.ge 5 rfl))
    have ne_o2_fk : o2 ≠ fk := Nat.ne_of_lt (Nat.lt_of_lt_of_le f55.lt (hO.ge 5 rfl))
    have ne_o3_fk : o3 ≠ fk := Nat.ne_of_lt (Nat.lt_of_lt_of_le f58.lt (hO.ge 5 rfl))
    have ne_u_fk : u ≠ fk := Nat.ne_of_lt (Nat.lt_of_lt_of_le f11.lt (hO.ge 5 rfl))
    have g_fk : n0 ≤ fk := Nat.le_trans sz59 (hO.ge 5 rfl)
    have ne_ct_k1 : ct ≠ k1 := Nat.ne_of_lt (Nat.lt_of_lt_of_le f22.lt (hO.ge 6 rfl))
    have ne_ed_k1 : ed ≠ k1 := Nat.ne_of_lt (Nat.lt_of_lt_of_le f75.1.lt (hO.ge 6 rfl))
    have ne_gd_k1 : gd ≠ k1 := Nat.ne_of_lt (Nat.lt_of_lt_of_le f33.lt (hO.ge 6 rfl))
    have ne_o1_k1 : o1 ≠ k1 := Nat.ne_of_lt (Nat.lt_of_lt_of_le f44.lt (hO.ge 6 rfl))
    have ne_o2_k1 : o2 ≠ k1 := Nat.ne_of_lt (Nat.lt_of_lt_of_le f55.lt (hO.ge 6 rfl))
    have ne_o3_k1 : o3 ≠ k1 := Nat.ne_of_lt (Nat.lt_of_lt_of_le f58.lt (hO.ge 6 rfl))
    have ne_u_k1 : u ≠ k1 := Nat.ne_of_lt (Nat.lt_of_lt_of_le f11.lt (hO.ge 6 rfl))
    have g_k1 : n0 ≤ k1 := Nat.le_trans sz59 (hO.ge 6 rfl)
    have ne_ct_k2 : ct ≠ k2 := Nat.ne_of_lt (Nat.lt_of_lt_of_le f22.lt (hO.ge 7 rfl))
    have ne_ed_k2 : ed ≠ k2 := Nat.ne_of_lt (Nat.lt_of_lt_of_le f75.1.lt (hO.ge 7 rfl))
    have ne_gd_k2 : gd ≠ k2 := Nat.ne_of_lt (Nat.lt_of_lt_of_le f33.lt (hO.ge 7 rfl))
    have ne_o1_k2 : o1 ≠ k2 := Nat.ne_of_lt (Nat.lt_of_lt_of_le f44.lt (hO.ge 7 rfl))
    have ne_o2_k2 : o2 ≠ k2 := Nat.ne_of_lt (Nat.lt_of_lt_of_le f55.lt (hO.ge 7 rfl))
    have ne_o3_k2 : o3 ≠ k2 := Nat.ne_of_lt (Nat.lt_of_lt_of_le f58.lt (hO.ge 7 rfl))
    have ne_u_k2 : u ≠ k2 := Nat.ne_of_lt (Nat.lt_of_lt_of_le f11.lt (hO.ge 7 rfl))
    have g_k2 : n0 ≤ k2 := Nat.le_trans sz59 (hO.ge 7 rfl)
    have fr103 := Fr.app fr54 N103
    replace f44 := f44.keep K103 (ninS ne_o1_ed nin0)
    replace f55 := f55.keep K103 (ninS ne_o2_ed nin0)
    replace f58 := f58.keep K103 (ninS ne_o3_ed nin0)
    replace f11 := f11.keep K103 (ninS ne_u_ed nin0)
    replace f22 := f22.keep K103 (ninS ne_ct_ed nin0)
    replace f33 := f33.keep K103 (ninS ne_gd_ed nin0)
    have sz103 : n0 ≤ T103.heap.size := Nat.le_trans sz59 K103.1
    have f104 : OWr Z T103.heap ed u ct gd nx (own_q4 t0 t1 t2 t3) (own_ci c0 c1 c2 c3) (own_q4 y0 y1 y2 y3) own_n3 := ⟨BB103_0.1, BB103_0.2.1, BB103_0.2.2.1, BB103_0.2.2.2.1, BB103_0.2.2.2.2.2.1, f11, f22, f33, BB103_0.2.2.2.2.2.2.2.2.2.2.2.2.2.2⟩
    refine pw X103 hx #[.val (.int q0), .val (.int q1), .val (.int q2), .val (.int q3), .val (.int q4), .val (.int 3), .val (.int 0), .val (.double t0), .second, .val (.double t1), .second, .val (.double t2), .second, .val (.double t3), .second, .val (.int c0), .val (.int c1), .val (.int c2), .val (.int c3), .val (.int y0), .val (.int y1), .val (.int y2), .val (.int y3), .val (.ref u), .val (.ref ct), .val (.ref gd), .val (.long nn), .second, .val (.ref o1), .val (.ref o2), .val (.ref o3), .val (.ref ed), .unset] (hd.at 125 rfl) rfl rfl ?_
    refine pi X103 hx (hd.at 126 rfl) rfl ?_
    refine pfY X103 hx 366 (hd.at 127 rfl) ((if0 _ _).trans (teq rfl).1) ?_
    refine pa X103 hx (hd.at 128 rfl) rfl rfl ?_
    refine pa X103 hx (hd.at 129 rfl) rfl rfl ?_
    refine pa X103 hx (hd.at 130 rfl) rfl rfl ?_
    refine pa X103 hx (hd.at 131 rfl) rfl rfl ?_
    have n105 := Ne.symm ne_o3_ed
    have n106 := Ne.symm ne_o2_ed
    have n107 := Ne.symm ne_o1_ed
    have n108 := Ne.symm ne_o3_nx
    have n109 := Ne.symm ne_o2_nx
    have n110 := Ne.symm ne_o1_nx
    refine pg3 (own_virtual X103 hx hZ (y := yN11) (z := yN11) (rm := ⟨0, 0, 0, 0⟩) (W := 0) (a := ed) (argsL := [(.ref o1), (.ref o2), (.ref o3)]) (rest := []) hown (wd hw 104 rfl) (wd hw 105 rfl) (notFace_of_selects (args := #[]) (mvT hZ (wd hw 107 rfl))) (wd hw 107 rfl) (wd hw 106 rfl) (wd hw 7 rfl) (wd hw 108 rfl) (rmWr3 l Z a0 hw ed o1 o2 o3 T103.heap n0 u ct gd nx (own_q4 t0 t1 t2 t3) (own_ci c0 c1 c2 c3) (own_q4 y0 y1 y2 y3) own_b4 own_m4 own_z4 f104 f44 f55 f58 hG (OOrd.cons g_ed (allS n78 (allS n77 (allS n76 (allS ne_ed_nx (allS n107 (allS n106 (allS n105 all0))))))) (OOrd.cons g_u (allS ne_u_ct (allS ne_u_gd (allS ne_u_nx (allS ne_u_o1 (allS ne_u_o2 (allS ne_u_o3 all0)))))) (OOrd.cons g_ct (allS ne_ct_gd (allS ne_ct_nx (allS ne_ct_o1 (allS ne_ct_o2 (allS ne_ct_o3 all0))))) (OOrd.cons g_gd (allS ne_gd_nx (allS ne_gd_o1 (allS ne_gd_o2 (allS ne_gd_o3 all0)))) (OOrd.cons g_nx (allS n110 (allS n109 (allS n108 all0))) (OOrd.cons g_o1 (allS ne_o1_o2 (allS ne_o1_o3 all0)) (OOrd.cons g_o2 (allS ne_o2_o3 all0) (OOrd.cons g_o3 all0 OOrd.nil))))))))) rfl f104.1 rfl (by rw [hml]; rfl) (lenOf own_pd17 rfl) rfl (by exact Nat.le_of_eq rfl) (hd.at 132 rfl) (by decide) (by decide) (by decide) (by decide)) fun v111 T111 L111 X111 hQ111 => ?_
    obtain ⟨rfl, N111, K111, A1, A2, A3⟩ := hQ111
    have fr111 := Fr.app fr103 N111
    replace f104 := f104.keep K111 (ninS n107 (ninS n106 (ninS n105 nin0))) (ninS ne_u_o1 (ninS ne_u_o2 (ninS ne_u_o3 nin0))) (ninS ne_ct_o1 (ninS ne_ct_o2 (ninS ne_ct_o3 nin0))) (ninS ne_gd_o1 (ninS ne_gd_o2 (ninS ne_gd_o3 nin0))) (ninS n110 (ninS n109 (ninS n108 nin0)))
    have sz111 : n0 ≤ T111.heap.size := Nat.le_trans sz103 K111.1
    show OFin p e below s _ _ _ (T111.setTop (mkF m 377 #[.val (.int q0), .val (.int q1), .val (.int q2), .val (.int q3), .val (.int q4), .val (.int 3), .val (.int 0), .val (.double t0), .second, .val (.double t1), .second, .val (.double t2), .second, .val (.double t3), .second, .val (.int c0), .val (.int c1), .val (.int c2), .val (.int c3), .val (.int y0), .val (.int y1), .val (.int y2), .val (.int y3), .val (.ref u), .val (.ref ct), .val (.ref gd), .val (.long nn), .second, .val (.ref o1), .val (.ref o2), .val (.ref o3), .val (.ref ed), .unset] [(.int 3)]))
    refine ps X111 hx #[.val (.int q0), .val (.int q1), .val (.int q2), .val (.int q3), .val (.int q4), .val (.int 3), .val (.int 0), .val (.double t0), .second, .val (.double t1), .second, .val (.double t2), .second, .val (.double t3), .second, .val (.int c0), .val (.int c1), .val (.int c2), .val (.int c3), .val (.int y0), .val (.int y1), .val (.int y2), .val (.int y3), .val (.ref u), .val (.ref ct), .val (.ref gd), .val (.long nn), .second, .val (.ref o1), .val (.ref o2), .val (.ref o3), .val (.ref ed), .val (.int 3)] (hd.at 133 rfl) rfl ?_
    refine pi X111 hx (hd.at 134 rfl) rfl ?_
    refine pfY X111 hx 503 (hd.at 135 rfl) ((if0 _ _).trans (teq rfl).1) ?_
    refine pi X111 hx (hd.at 136 rfl) rfl ?_
    refine pi X111 hx (hd.at 137 rfl) rfl ?_
    refine pcN X111 hx (hd.at 138 rfl) ((teq rfl).2) ?_
    refine pa X111 hx (hd.at 139 rfl) rfl rfl ?_
    refine pa X111 hx (hd.at 140 rfl) rfl rfl ?_
    refine pa X111 hx (hd.at 141 rfl) rfl rfl ?_
    refine pC X111 hx 0 (hd.at 142 rfl) rfl ?_
    refine pi X111 hx (hd.at 143 rfl) rfl ?_
    refine pd X111 hx (hd.at 144 rfl) rfl ?_
    refine pi X111 hx (hd.at 145 rfl) rfl ?_
    refine pi X111 hx (hd.at 146 rfl) rfl ?_
    refine pgP (own_static X111 hx hZ (y := yN12) (rm := ⟨0, 0, 0, 0⟩) (W := 0) (argsL := [(.ref o1), (.ref o2), (.ref o3), (.int 0), (.int 3), (.double t0), (.int c0), (.int y0)]) (rest := []) hown (wd hw 109 rfl) (wd hw 110 rfl) (wd hw 111 rfl) (wd hw 112 rfl) (rmSlA l Z a0 hw o1 o2 o3 0 3 t0 c0 y0 T111.heap (own_q4 ((own_q4 t0 t1 t2 t3) 0) ((own_q4 t0 t1 t2 t3) 1) ((own_q4 t0 t1 t2 t3) 2) (own_b4 3)) (own_q4 ((own_ci c0 c1 c2 c3) 0) ((own_ci c0 c1 c2 c3) 1) ((own_ci c0 c1 c2 c3) 2) (own_m4 3)) (own_q4 ((own_q4 y0 y1 y2 y3) 0) ((own_q4 y0 y1 y2 y3) 1) ((own_q4 y0 y1 y2 y3) 2) (own_z4 3)) 0 A1 A2 A3 (by decide) (by decide) (by decide) (by decide) e_0 (own_ii c0) rfl) rfl rfl (by rw [hml]; rfl) (lenOf own_pd18 rfl) rfl (by exact Nat.le_of_eq rfl) (hd.at 147 rfl) (by decide) (by decide) (by decide) (by decide)) fun T112 X112 e112 => ?_
    refine pfN X112 hx (hd.at 148 rfl) ((if0 _ _).trans (feq (by decide)).1) ?_
    refine pa X112 hx (hd.at 149 rfl) rfl rfl ?_
    refine pa X112 hx (hd.at 150 rfl) rfl rfl ?_
    refine pa X112 hx (hd.at 151 rfl) rfl rfl ?_
    refine pC X112 hx 1 (hd.at 152 rfl) rfl ?_
    refine pi X112 hx (hd.at 153 rfl) rfl ?_
    refine pd X112 hx (hd.at 154 rfl) rfl ?_
    refine pi X112 hx (hd.at 155 rfl) rfl ?_
    refine pi X112 hx (hd.at 156 rfl) rfl ?_
    refine pgP (own_static X112 hx hZ (y := yN12) (rm := ⟨0, 0, 0, 0⟩) (W := 0) (argsL := [(.ref o1), (.ref o2), (.ref o3), (.int 1), (.int 3), (.double t1), (.int c1), (.int y1)]) (rest := []) hown (wd hw 109 rfl) (wd hw 110 rfl) (wd hw 111 rfl) (wd hw 112 rfl) (rmSlA l Z a0 hw o1 o2 o3 1 3 t1 c1 y1 T111.heap (own_q4 ((own_q4 t0 t1 t2 t3) 0) ((own_q4 t0 t1 t2 t3) 1) ((own_q4 t0 t1 t2 t3) 2) (own_b4 3)) (own_q4 ((own_ci c0 c1 c2 c3) 0) ((own_ci c0 c1 c2 c3) 1) ((own_ci c0 c1 c2 c3) 2) (own_m4 3)) (own_q4 ((own_q4 y0 y1 y2 y3) 0) ((own_q4 y0 y1 y2 y3) 1) ((own_q4 y0 y1 y2 y3) 2) (own_z4 3)) 1 A1 A2 A3 (by decide) (by decide) (by decide) (by decide) e_1 (own_ii c1) rfl) e112 rfl (by rw [hml]; rfl) (lenOf own_pd18 rfl) rfl (by exact Nat.le_of_eq rfl) (hd.at 157 rfl) (by decide) (by decide) (by decide) (by decide)) fun T113 X113 e113 => ?_
    refine pfN X113 hx (hd.at 158 rfl) ((if0 _ _).trans (feq (by decide)).1) ?_
    refine pa X113 hx (hd.at 159 rfl) rfl rfl ?_
    refine pa X113 hx (hd.at 160 rfl) rfl rfl ?_
    refine pa X113 hx (hd.at 161 rfl) rfl rfl ?_
    refine pC X113 hx 2 (hd.at 162 rfl) rfl ?_
    refine pi X113 hx (hd.at 163 rfl) rfl ?_
    refine pd X113 hx (hd.at 164 rfl) rfl ?_
    refine pi X113 hx (hd.at 165 rfl) rfl ?_
    refine pi X113 hx (hd.at 166 rfl) rfl ?_
    refine pgP (own_static X113 hx hZ (y := yN12) (rm := ⟨0, 0, 0, 0⟩) (W := 0) (argsL := [(.ref o1), (.ref o2), (.ref o3), (.int 2), (.int 3), (.double t2), (.int c2), (.int y2)]) (rest := []) hown (wd hw 109 rfl) (wd hw 110 rfl) (wd hw 111 rfl) (wd hw 112 rfl) (rmSlA l Z a0 hw o1 o2 o3 2 3 t2 c2 y2 T111.heap (own_q4 ((own_q4 t0 t1 t2 t3) 0) ((own_q4 t0 t1 t2 t3) 1) ((own_q4 t0 t1 t2 t3) 2) (own_b4 3)) (own_q4 ((own_ci c0 c1 c2 c3) 0) ((own_ci c0 c1 c2 c3) 1) ((own_ci c0 c1 c2 c3) 2) (own_m4 3)) (own_q4 ((own_q4 y0 y1 y2 y3) 0) ((own_q4 y0 y1 y2 y3) 1) ((own_q4 y0 y1 y2 y3) 2) (own_z4 3)) 2 A1 A2 A3 (by decide) (by decide) (by decide) (by decide) e_2 (own_ii c2) rfl) e113 rfl (by rw [hml]; rfl) (lenOf own_pd18 rfl) rfl (by exact Nat.le_of_eq rfl) (hd.at 167 rfl) (by decide) (by decide) (by decide) (by decide)) fun T114 X114 e114 => ?_
    refine pfN X114 hx (hd.at 168 rfl) ((if0 _ _).trans (feq (by decide)).1) ?_
    refine pa X114 hx (hd.at 169 rfl) rfl rfl ?_
    refine pa X114 hx (hd.at 170 rfl) rfl rfl ?_
    refine pa X114 hx (hd.at 171 rfl) rfl rfl ?_
    refine pC X114 hx 3 (hd.at 172 rfl) rfl ?_
    refine pi X114 hx (hd.at 173 rfl) rfl ?_
    refine pd X114 hx (hd.at 174 rfl) rfl ?_
    refine pi X114 hx (hd.at 175 rfl) rfl ?_
    refine pi X114 hx (hd.at 176 rfl) rfl ?_
    refine pgP (own_static X114 hx hZ (y := yN12) (rm := ⟨0, 0, 0, 0⟩) (W := 0) (argsL := [(.ref o1), (.ref o2), (.ref o3), (.int 3), (.int 3), (.double t3), (.int c3), (.int y3)]) (rest := []) hown (wd hw 109 rfl) (wd hw 110 rfl) (wd hw 111 rfl) (wd hw 112 rfl) (rmSlB l Z a0 hw o1 o2 o3 3 3 t3 c3 y3 T111.heap (own_q4 ((own_q4 t0 t1 t2 t3) 0) ((own_q4 t0 t1 t2 t3) 1) ((own_q4 t0 t1 t2 t3) 2) (own_b4 3)) (own_q4 ((own_ci c0 c1 c2 c3) 0) ((own_ci c0 c1 c2 c3) 1) ((own_ci c0 c1 c2 c3) 2) (own_m4 3)) (own_q4 ((own_q4 y0 y1 y2 y3) 0) ((own_q4 y0 y1 y2 y3) 1) ((own_q4 y0 y1 y2 y3) 2) (own_z4 3)) 3 A1 A2 A3 (by decide) (by decide) (by decide) (by decide) own_bb own_nn1) e114 rfl (by rw [hml]; rfl) (lenOf own_pd18 rfl) rfl (by exact Nat.le_of_eq rfl) (hd.at 177 rfl) (by decide) (by decide) (by decide) (by decide)) fun T115 X115 e115 => ?_
    refine pfN X115 hx (hd.at 178 rfl) ((if0 _ _).trans (feq (by decide)).1) ?_
    refine pC X115 hx 1 (hd.at 179 rfl) rfl ?_
    refine pG X115 hx 599 (hd.at 180 rfl) ?_
    exact own_ret X115 hx (t := .boolean) hret hlk rfl (Or.inl ⟨rfl, by simp, _, rfl⟩) (hd.at 181 rfl) (by decide) (by decide) ⟨rfl, fr111⟩
  · refine pgV (own_init X59 hx hZ (y := yN1) (rm := ⟨12, 8, 25, 3100⟩) (W := 1) (a := ed) (argsL := [(.ref u), (.ref ct), (.ref gd), (.int 4), (.int 4), (.long nn), (.double 4613937818241073152), (.double FP.dconst1)]) (rest := [(.ref ed)]) rfl hown (wd hw 9 rfl) (wd hw 10 rfl) (wd hw 7 rfl) (wd hw 11 rfl) (rmIn4 l Z a0 hw ed u ct gd nn h59 n0 (own_q4 t0 t1 t2 t3) (own_ci c0 c1 c2 c3) (own_q4 y0 y1 y2 y3) sz59 f75 f11 f22 f33 hU hN hSi) e59 rfl (by rw [hml]; rfl) (lenOf own_pd16 rfl) rfl (by exact Nat.le_of_eq rfl) (hd.at 124 rfl) (by decide) (by decide) (by decide) (by decide)) fun T116 L116 X116 hQ116 => ?_
    obtain ⟨N116, K116, nx, ge_nx, BB116_0⟩ := hQ116
    have ne_ct_nx : ct ≠ nx := Nat.ne_of_lt (Nat.lt_of_lt_of_le f22.lt ge_nx)
    have ne_ed_nx : ed ≠ nx := Nat.ne_of_lt (Nat.lt_of_lt_of_le f75.1.lt ge_nx)
    have ne_gd_nx : gd ≠ nx := Nat.ne_of_lt (Nat.lt_of_lt_of_le f33.lt ge_nx)
    have ne_o1_nx : o1 ≠ nx := Nat.ne_of_lt (Nat.lt_of_lt_of_le f44.lt ge_nx)
    have ne_o2_nx : o2 ≠ nx := Nat.ne_of_lt (Nat.lt_of_lt_of_le f55.lt ge_nx)
    have ne_o3_nx : o3 ≠ nx := Nat.ne_of_lt (Nat.lt_of_lt_of_le f58.lt ge_nx)
    have ne_u_nx : u ≠ nx := Nat.ne_of_lt (Nat.lt_of_lt_of_le f11.lt ge_nx)
    have g_nx : n0 ≤ nx := Nat.le_trans sz59 ge_nx
    have fr116 := Fr.app fr54 N116
    replace f11 := f11.keep K116 (ninS ne_u_ed nin0)
    replace f22 := f22.keep K116 (ninS ne_ct_ed nin0)
    replace f33 := f33.keep K116 (ninS ne_gd_ed nin0)
    replace f44 := f44.keep K116 (ninS ne_o1_ed nin0)
    replace f55 := f55.keep K116 (ninS ne_o2_ed nin0)
    replace f58 := f58.keep K116 (ninS ne_o3_ed nin0)
    have sz116 : n0 ≤ T116.heap.size := Nat.le_trans sz59 K116.1
    refine pw X116 hx #[.val (.int q0), .val (.int q1), .val (.int q2), .val (.int q3), .val (.int q4), .val (.int 4), .val (.int 0), .val (.double t0), .second, .val (.double t1), .second, .val (.double t2), .second, .val (.double t3), .second, .val (.int c0), .val (.int c1), .val (.int c2), .val (.int c3), .val (.int y0), .val (.int y1), .val (.int y2), .val (.int y3), .val (.ref u), .val (.ref ct), .val (.ref gd), .val (.long nn), .second, .val (.ref o1), .val (.ref o2), .val (.ref o3), .val (.ref ed), .unset] (hd.at 125 rfl) rfl rfl ?_
    refine pi X116 hx (hd.at 126 rfl) rfl ?_
    refine pfY X116 hx 366 (hd.at 127 rfl) ((if0 _ _).trans (teq rfl).1) ?_
    refine pa X116 hx (hd.at 128 rfl) rfl rfl ?_
    refine pa X116 hx (hd.at 129 rfl) rfl rfl ?_
    refine pa X116 hx (hd.at 130 rfl) rfl rfl ?_
    refine pa X116 hx (hd.at 131 rfl) rfl rfl ?_
    have n117 := Ne.symm ne_o3_ed
    have n118 := Ne.symm ne_o2_ed
    have n119 := Ne.symm ne_o1_ed
    have n120 := Ne.symm ne_o3_nx
    have n121 := Ne.symm ne_o2_nx
    have n122 := Ne.symm ne_o1_nx
    refine pg3 (own_virtual X116 hx hZ (y := yN11) (z := yN11) (rm := ⟨0, 0, 0, 0⟩) (W := 0) (a := ed) (argsL := [(.ref o1), (.ref o2), (.ref o3)]) (rest := []) hown (wd hw 104 rfl) (wd hw 105 rfl) (notFace_of_selects (args := #[]) (mvT hZ (wd hw 107 rfl))) (wd hw 107 rfl) (wd hw 106 rfl) (wd hw 7 rfl) (wd hw 108 rfl) (rmWr4 l Z a0 hw ed o1 o2 o3 T116.heap n0 u ct gd nx (own_q4 t0 t1 t2 t3) (own_ci c0 c1 c2 c3) (own_q4 y0 y1 y2 y3) own_b4 own_m4 own_z4 BB116_0 f44 f55 f58 hG (OOrd.cons g_ed (allS n78 (allS n77 (allS n76 (allS ne_ed_nx (allS n119 (allS n118 (allS n117 all0))))))) (OOrd.cons g_u (allS ne_u_ct (allS ne_u_gd (allS ne_u_nx (allS ne_u_o1 (allS ne_u_o2 (allS ne_u_o3 all0)))))) (OOrd.cons g_ct (allS ne_ct_gd (allS ne_ct_nx (allS ne_ct_o1 (allS ne_ct_o2 (allS ne_ct_o3 all0))))) (OOrd.cons g_gd (allS ne_gd_nx (allS ne_gd_o1 (allS ne_gd_o2 (allS ne_gd_o3 all0)))) (OOrd.cons g_nx (allS n122 (allS n121 (allS n120 all0))) (OOrd.cons g_o1 (allS ne_o1_o2 (allS ne_o1_o3 all0)) (OOrd.cons g_o2 (allS ne_o2_o3 all0) (OOrd.cons g_o3 all0 OOrd.nil))))))))) rfl BB116_0.1 rfl (by rw [hml]; rfl) (lenOf own_pd17 rfl) rfl (by exact Nat.le_of_eq rfl) (hd.at 132 rfl) (by decide) (by decide) (by decide) (by decide)) fun v123 T123 L123 X123 hQ123 => ?_
    obtain ⟨rfl, N123, K123, A1, A2, A3⟩ := hQ123
    have fr123 := Fr.app fr116 N123
    replace f11 := f11.keep K123 (ninS ne_u_o1 (ninS ne_u_o2 (ninS ne_u_o3 nin0)))
    replace f22 := f22.keep K123 (ninS ne_ct_o1 (ninS ne_ct_o2 (ninS ne_ct_o3 nin0)))
    replace f33 := f33.keep K123 (ninS ne_gd_o1 (ninS ne_gd_o2 (ninS ne_gd_o3 nin0)))
    replace BB116_0 := BB116_0.keep K123 (ninS n119 (ninS n118 (ninS n117 nin0))) (ninS ne_u_o1 (ninS ne_u_o2 (ninS ne_u_o3 nin0))) (ninS ne_ct_o1 (ninS ne_ct_o2 (ninS ne_ct_o3 nin0))) (ninS ne_gd_o1 (ninS ne_gd_o2 (ninS ne_gd_o3 nin0))) (ninS n122 (ninS n121 (ninS n120 nin0)))
    have sz123 : n0 ≤ T123.heap.size := Nat.le_trans sz116 K123.1
    show OFin p e below s _ _ _ (T123.setTop (mkF m 377 #[.val (.int q0), .val (.int q1), .val (.int q2), .val (.int q3), .val (.int q4), .val (.int 4), .val (.int 0), .val (.double t0), .second, .val (.double t1), .second, .val (.double t2), .second, .val (.double t3), .second, .val (.int c0), .val (.int c1), .val (.int c2), .val (.int c3), .val (.int y0), .val (.int y1), .val (.int y2), .val (.int y3), .val (.ref u), .val (.ref ct), .val (.ref gd), .val (.long nn), .second, .val (.ref o1), .val (.ref o2), .val (.ref o3), .val (.ref ed), .unset] [(.int 4)]))
    refine ps X123 hx #[.val (.int q0), .val (.int q1), .val (.int q2), .val (.int q3), .val (.int q4), .val (.int 4), .val (.int 0), .val (.double t0), .second, .val (.double t1), .second, .val (.double t2), .second, .val (.double t3), .second, .val (.int c0), .val (.int c1), .val (.int c2), .val (.int c3), .val (.int y0), .val (.int y1), .val (.int y2), .val (.int y3), .val (.ref u), .val (.ref ct), .val (.ref gd), .val (.long nn), .second, .val (.ref o1), .val (.ref o2), .val (.ref o3), .val (.ref ed), .val (.int 4)] (hd.at 133 rfl) rfl ?_
    refine pi X123 hx (hd.at 134 rfl) rfl ?_
    refine pfY X123 hx 503 (hd.at 135 rfl) ((if0 _ _).trans (teq rfl).1) ?_
    refine pi X123 hx (hd.at 136 rfl) rfl ?_
    refine pi X123 hx (hd.at 137 rfl) rfl ?_
    refine pcN X123 hx (hd.at 138 rfl) ((teq rfl).2) ?_
    refine pa X123 hx (hd.at 139 rfl) rfl rfl ?_
    refine pa X123 hx (hd.at 140 rfl) rfl rfl ?_
    refine pa X123 hx (hd.at 141 rfl) rfl rfl ?_
    refine pC X123 hx 0 (hd.at 142 rfl) rfl ?_
    refine pi X123 hx (hd.at 143 rfl) rfl ?_
    refine pd X123 hx (hd.at 144 rfl) rfl ?_
    refine pi X123 hx (hd.at 145 rfl) rfl ?_
    refine pi X123 hx (hd.at 146 rfl) rfl ?_
    refine pgP (own_static X123 hx hZ (y := yN12) (rm := ⟨0, 0, 0, 0⟩) (W := 0) (argsL := [(.ref o1), (.ref o2), (.ref o3), (.int 0), (.int 4), (.double t0), (.int c0), (.int y0)]) (rest := []) hown (wd hw 109 rfl) (wd hw 110 rfl) (wd hw 111 rfl) (wd hw 112 rfl) (rmSlA l Z a0 hw o1 o2 o3 0 4 t0 c0 y0 T123.heap (own_q4 ((own_q4 t0 t1 t2 t3) 0) ((own_q4 t0 t1 t2 t3) 1) ((own_q4 t0 t1 t2 t3) 2) ((own_q4 t0 t1 t2 t3) 3)) (own_q4 ((own_ci c0 c1 c2 c3) 0) ((own_ci c0 c1 c2 c3) 1) ((own_ci c0 c1 c2 c3) 2) ((own_ci c0 c1 c2 c3) 3)) (own_q4 ((own_q4 y0 y1 y2 y3) 0) ((own_q4 y0 y1 y2 y3) 1) ((own_q4 y0 y1 y2 y3) 2) ((own_q4 y0 y1 y2 y3) 3)) 0 A1 A2 A3 (by decide) (by decide) (by decide) (by decide) e_0 (own_ii c0) rfl) rfl rfl (by rw [hml]; rfl) (lenOf own_pd18 rfl) rfl (by exact Nat.le_of_eq rfl) (hd.at 147 rfl) (by decide) (by decide) (by decide) (by decide)) fun T124 X124 e124 => ?_
    refine pfN X124 hx (hd.at 148 rfl) ((if0 _ _).trans (feq (by decide)).1) ?_
    refine pa X124 hx (hd.at 149 rfl) rfl rfl ?_
    refine pa X124 hx (hd.at 150 rfl) rfl rfl ?_
    refine pa X124 hx (hd.at 151 rfl) rfl rfl ?_
    refine pC X124 hx 1 (hd.at 152 rfl) rfl ?_
    refine pi X124 hx (hd.at 153 rfl) rfl ?_
    refine pd X124 hx (hd.at 154 rfl) rfl ?_
    refine pi X124 hx (hd.at 155 rfl) rfl ?_
    refine pi X124 hx (hd.at 156 rfl) rfl ?_
    refine pgP (own_static X124 hx hZ (y := yN12) (rm := ⟨0, 0, 0, 0⟩) (W := 0) (argsL := [(.ref o1), (.ref o2), (.ref o3), (.int 1), (.int 4), (.double t1), (.int c1), (.int y1)]) (rest := []) hown (wd hw 109 rfl) (wd hw 110 rfl) (wd hw 111 rfl) (wd hw 112 rfl) (rmSlA l Z a0 hw o1 o2 o3 1 4 t1 c1 y1 T123.heap (own_q4 ((own_q4 t0 t1 t2 t3) 0) ((own_q4 t0 t1 t2 t3) 1) ((own_q4 t0 t1 t2 t3) 2) ((own_q4 t0 t1 t2 t3) 3)) (own_q4 ((own_ci c0 c1 c2 c3) 0) ((own_ci c0 c1 c2 c3) 1) ((own_ci c0 c1 c2 c3) 2) ((own_ci c0 c1 c2 c3) 3)) (own_q4 ((own_q4 y0 y1 y2 y3) 0) ((own_q4 y0 y1 y2 y3) 1) ((own_q4 y0 y1 y2 y3) 2) ((own_q4 y0 y1 y2 y3) 3)) 1 A1 A2 A3 (by decide) (by decide) (by decide) (by decide) e_1 (own_ii c1) rfl) e124 rfl (by rw [hml]; rfl) (lenOf own_pd18 rfl) rfl (by exact Nat.le_of_eq rfl) (hd.at 157 rfl) (by decide) (by decide) (by decide) (by decide)) fun T125 X125 e125 => ?_
    refine pfN X125 hx (hd.at 158 rfl) ((if0 _ _).trans (feq (by decide)).1) ?_
    refine pa X125 hx (hd.at 159 rfl) rfl rfl ?_
    refine pa X125 hx (hd.at 160 rfl) rfl rfl ?_
    refine pa X125 hx (hd.at 161 rfl) rfl rfl ?_
    refine pC X125 hx 2 (hd.at 162 rfl) rfl ?_
    refine pi X125 hx (hd.at 163 rfl) rfl ?_
    refine pd X125 hx (hd.at 164 rfl) rfl ?_
    refine pi X125 hx (hd.at 165 rfl) rfl ?_
    refine pi X125 hx (hd.at 166 rfl) rfl ?_
    refine pgP (own_static X125 hx hZ (y := yN12) (rm := ⟨0, 0, 0, 0⟩) (W := 0) (argsL := [(.ref o1), (.ref o2), (.ref o3), (.int 2), (.int 4), (.double t2), (.int c2), (.int y2)]) (rest := []) hown (wd hw 109 rfl) (wd hw 110 rfl) (wd hw 111 rfl) (wd hw 112 rfl) (rmSlA l Z a0 hw o1 o2 o3 2 4 t2 c2 y2 T123.heap (own_q4 ((own_q4 t0 t1 t2 t3) 0) ((own_q4 t0 t1 t2 t3) 1) ((own_q4 t0 t1 t2 t3) 2) ((own_q4 t0 t1 t2 t3) 3)) (own_q4 ((own_ci c0 c1 c2 c3) 0) ((own_ci c0 c1 c2 c3) 1) ((own_ci c0 c1 c2 c3) 2) ((own_ci c0 c1 c2 c3) 3)) (own_q4 ((own_q4 y0 y1 y2 y3) 0) ((own_q4 y0 y1 y2 y3) 1) ((own_q4 y0 y1 y2 y3) 2) ((own_q4 y0 y1 y2 y3) 3)) 2 A1 A2 A3 (by decide) (by decide) (by decide) (by decide) e_2 (own_ii c2) rfl) e125 rfl (by rw [hml]; rfl) (lenOf own_pd18 rfl) rfl (by exact Nat.le_of_eq rfl) (hd.at 167 rfl) (by decide) (by decide) (by decide) (by decide)) fun T126 X126 e126 => ?_
    refine pfN X126 hx (hd.at 168 rfl) ((if0 _ _).trans (feq (by decide)).1) ?_
    refine pa X126 hx (hd.at 169 rfl) rfl rfl ?_
    refine pa X126 hx (hd.at 170 rfl) rfl rfl ?_
    refine pa X126 hx (hd.at 171 rfl) rfl rfl ?_
    refine pC X126 hx 3 (hd.at 172 rfl) rfl ?_
    refine pi X126 hx (hd.at 173 rfl) rfl ?_
    refine pd X126 hx (hd.at 174 rfl) rfl ?_
    refine pi X126 hx (hd.at 175 rfl) rfl ?_
    refine pi X126 hx (hd.at 176 rfl) rfl ?_
    refine pgP (own_static X126 hx hZ (y := yN12) (rm := ⟨0, 0, 0, 0⟩) (W := 0) (argsL := [(.ref o1), (.ref o2), (.ref o3), (.int 3), (.int 4), (.double t3), (.int c3), (.int y3)]) (rest := []) hown (wd hw 109 rfl) (wd hw 110 rfl) (wd hw 111 rfl) (wd hw 112 rfl) (rmSlA l Z a0 hw o1 o2 o3 3 4 t3 c3 y3 T123.heap (own_q4 ((own_q4 t0 t1 t2 t3) 0) ((own_q4 t0 t1 t2 t3) 1) ((own_q4 t0 t1 t2 t3) 2) ((own_q4 t0 t1 t2 t3) 3)) (own_q4 ((own_ci c0 c1 c2 c3) 0) ((own_ci c0 c1 c2 c3) 1) ((own_ci c0 c1 c2 c3) 2) ((own_ci c0 c1 c2 c3) 3)) (own_q4 ((own_q4 y0 y1 y2 y3) 0) ((own_q4 y0 y1 y2 y3) 1) ((own_q4 y0 y1 y2 y3) 2) ((own_q4 y0 y1 y2 y3) 3)) 3 A1 A2 A3 (by decide) (by decide) (by decide) (by decide) e_3 (own_ii c3) rfl) e126 rfl (by rw [hml]; rfl) (lenOf own_pd18 rfl) rfl (by exact Nat.le_of_eq rfl) (hd.at 177 rfl) (by decide) (by decide) (by decide) (by decide)) fun T127 X127 e127 => ?_
    refine pfN X127 hx (hd.at 178 rfl) ((if0 _ _).trans (feq (by decide)).1) ?_
    refine pC X127 hx 1 (hd.at 179 rfl) rfl ?_
    refine pG X127 hx 599 (hd.at 180 rfl) ?_
    exact own_ret X127 hx (t := .boolean) hret hlk rfl (Or.inl ⟨rfl, by simp, _, rfl⟩) (hd.at 181 rfl) (by decide) (by decide) ⟨rfl, fr123⟩
  · refine pgV (own_init X59 hx hZ (y := yN1) (rm := ⟨12, 8, 25, 3100⟩) (W := 1) (a := ed) (argsL := [(.ref u), (.ref ct), (.ref gd), (.int 3), (.int 4), (.long nn), (.double 4613937818241073152), (.double FP.dconst1)]) (rest := [(.ref ed)]) rfl hown (wd hw 9 rfl) (wd hw 10 rfl) (wd hw 7 rfl) (wd hw 11 rfl) (rmIn3 l Z a0 hw ed u ct gd nn h59 n0 (own_q4 t0 t1 t2 t3) (own_ci c0 c1 c2 c3) (own_q4 y0 y1 y2 y3) sz59 f75 f11 f22 f33 hU hN hSi) e59 rfl (by rw [hml]; rfl) (lenOf own_pd16 rfl) rfl (by exact Nat.le_of_eq rfl) (hd.at 124 rfl) (by decide) (by decide) (by decide) (by decide)) fun T128 L128 X128 hQ128 => ?_
    obtain ⟨N128, K128, px, nx, t, mm, fa, fk, k1, k2, M, sz, rr, d0, dq, hMr, hO, BB128_0, BB128_1, BB128_2⟩ := hQ128
    have ne_ct_px : ct ≠ px := Nat.ne_of_lt (Nat.lt_of_lt_of_le f22.lt (hO.ge 0 rfl))
    have ne_ed_px : ed ≠ px := Nat.ne_of_lt (Nat.lt_of_lt_of_le f75.1.lt (hO.ge 0 rfl))
    have ne_gd_px : gd ≠ px := Nat.ne_of_lt (Nat.lt_of_lt_of_le f33.lt (hO.ge 0 rfl))
    have ne_o1_px : o1 ≠ px := Nat.ne_of_lt (Nat.lt_of_lt_of_le f44.lt (hO.ge 0 rfl))
    have ne_o2_px : o2 ≠ px := Nat.ne_of_lt (Nat.lt_of_lt_of_le f55.lt (hO.ge 0 rfl))
    have ne_o3_px : o3 ≠ px := Nat.ne_of_lt (Nat.lt_of_lt_of_le f58.lt (hO.ge 0 rfl))
    have ne_u_px : u ≠ px := Nat.ne_of_lt (Nat.lt_of_lt_of_le f11.lt (hO.ge 0 rfl))
    have g_px : n0 ≤ px := Nat.le_trans sz59 (hO.ge 0 rfl)
    have ne_ct_nx : ct ≠ nx := Nat.ne_of_lt (Nat.lt_of_lt_of_le f22.lt (hO.ge 1 rfl))
    have ne_ed_nx : ed ≠ nx := Nat.ne_of_lt (Nat.lt_of_lt_of_le f75.1.lt (hO.ge 1 rfl))
    have ne_gd_nx : gd ≠ nx := Nat.ne_of_lt (Nat.lt_of_lt_of_le f33.lt (hO.ge 1 rfl))
    have ne_o1_nx : o1 ≠ nx := Nat.ne_of_lt (Nat.lt_of_lt_of_le f44.lt (hO.ge 1 rfl))
    have ne_o2_nx : o2 ≠ nx := Nat.ne_of_lt (Nat.lt_of_lt_of_le f55.lt (hO.ge 1 rfl))
    have ne_o3_nx : o3 ≠ nx := Nat.ne_of_lt (Nat.lt_of_lt_of_le f58.lt (hO.ge 1 rfl))
    have ne_u_nx : u ≠ nx := Nat.ne_of_lt (Nat.lt_of_lt_of_le f11.lt (hO.ge 1 rfl))
    have g_nx : n0 ≤ nx := Nat.le_trans sz59 (hO.ge 1 rfl)
    have ne_ct_t : ct ≠ t := Nat.ne_of_lt (Nat.lt_of_lt_of_le f22.lt (hO.ge 2 rfl))
    have ne_ed_t : ed ≠ t := Nat.ne_of_lt (Nat.lt_of_lt_of_le f75.1.lt (hO.ge 2 rfl))
    have ne_gd_t : gd ≠ t := Nat.ne_of_lt (Nat.lt_of_lt_of_le f33.lt (hO.ge 2 rfl))
    have ne_o1_t : o1 ≠ t := Nat.ne_of_lt (Nat.lt_of_lt_of_le f44.lt (hO.ge 2 rfl))
    have ne_o2_t : o2 ≠ t := Nat.ne_of_lt (Nat.lt_of_lt_of_le f55.lt (hO.ge 2 rfl))
    have ne_o3_t : o3 ≠ t := Nat.ne_of_lt (Nat.lt_of_lt_of_le f58.lt (hO.ge 2 rfl))
    have ne_u_t : u ≠ t := Nat.ne_of_lt (Nat.lt_of_lt_of_le f11.lt (hO.ge 2 rfl))
    have g_t : n0 ≤ t := Nat.le_trans sz59 (hO.ge 2 rfl)
    have ne_ct_mm : ct ≠ mm := Nat.ne_of_lt (Nat.lt_of_lt_of_le f22.lt (hO.ge 3 rfl))
    have ne_ed_mm : ed ≠ mm := Nat.ne_of_lt (Nat.lt_of_lt_of_le f75.1.lt (hO.ge 3 rfl))
    have ne_gd_mm : gd ≠ mm := Nat.ne_of_lt (Nat.lt_of_lt_of_le f33.lt (hO.ge 3 rfl))
    have ne_o1_mm : o1 ≠ mm := Nat.ne_of_lt (Nat.lt_of_lt_of_le f44.lt (hO.ge 3 rfl))
    have ne_o2_mm : o2 ≠ mm := Nat.ne_of_lt (Nat.lt_of_lt_of_le f55.lt (hO.ge 3 rfl))
    have ne_o3_mm : o3 ≠ mm := Nat.ne_of_lt (Nat.lt_of_lt_of_le f58.lt (hO.ge 3 rfl))
    have ne_u_mm : u ≠ mm := Nat.ne_of_lt (Nat.lt_of_lt_of_le f11.lt (hO.ge 3 rfl))
    have g_mm : n0 ≤ mm := Nat.le_trans sz59 (hO.ge 3 rfl)
    have ne_ct_fa : ct ≠ fa := Nat.ne_of_lt (Nat.lt_of_lt_of_le f22.lt (hO.ge 4 rfl))
    have ne_ed_fa : ed ≠ fa := Nat.ne_of_lt (Nat.lt_of_lt_of_le f75.1.lt (hO.ge 4 rfl))
    have ne_gd_fa : gd ≠ fa := Nat.ne_of_lt (Nat.lt_of_lt_of_le f33.lt (hO.ge 4 rfl))
    have ne_o1_fa : o1 ≠ fa := Nat.ne_of_lt (Nat.lt_of_lt_of_le f44.lt (hO.ge 4 rfl))
    have ne_o2_fa : o2 ≠ fa := Nat.ne_of_lt (Nat.lt_of_lt_of_le f55.lt (hO.ge 4 rfl))
    have ne_o3_fa : o3 ≠ fa := Nat.ne_of_lt (Nat.lt_of_lt_of_le f58.lt (hO.ge 4 rfl))
    have ne_u_fa : u ≠ fa := Nat.ne_of_lt (Nat.lt_of_lt_of_le f11.lt (hO.ge 4 rfl))
    have g_fa : n0 ≤ fa := Nat.le_trans sz59 (hO.ge 4 rfl)
    have ne_ct_fk : ct ≠ fk := Nat.ne_of_lt (Nat.lt_of_lt_of_le f22.lt (hO.ge 5 rfl))
    have ne_ed_fk : ed ≠ fk := Nat.ne_of_lt (Nat.lt_of_lt_of_le f75.1.lt (hO.ge 5 rfl))
    have ne_gd_fk : gd ≠ fk := Nat.ne_of_lt (Nat.lt_of_lt_of_le f33.lt (hO.ge 5 rfl))
    have ne_o1_fk : o1 ≠ fk := Nat.ne_of_lt (Nat.lt_of_lt_of_le f44.lt (hO.ge 5 rfl))
    have ne_o2_fk : o2 ≠ fk := Nat.ne_of_lt (Nat.lt_of_lt_of_le f55.lt (hO.ge 5 rfl))
    have ne_o3_fk : o3 ≠ fk := Nat.ne_of_lt (Nat.lt_of_lt_of_le f58.lt (hO.ge 5 rfl))
    have ne_u_fk : u ≠ fk := Nat.ne_of_lt (Nat.lt_of_lt_of_le f11.lt (hO.ge 5 rfl))
    have g_fk : n0 ≤ fk := Nat.le_trans sz59 (hO.ge 5 rfl)
    have ne_ct_k1 : ct ≠ k1 := Nat.ne_of_lt (Nat.lt_of_lt_of_le f22.lt (hO.ge 6 rfl))
    have ne_ed_k1 : ed ≠ k1 := Nat.ne_of_lt (Nat.lt_of_lt_of_le f75.1.lt (hO.ge 6 rfl))
    have ne_gd_k1 : gd ≠ k1 := Nat.ne_of_lt (Nat.lt_of_lt_of_le f33.lt (hO.ge 6 rfl))
    have ne_o1_k1 : o1 ≠ k1 := Nat.ne_of_lt (Nat.lt_of_lt_of_le f44.lt (hO.ge 6 rfl))
    have ne_o2_k1 : o2 ≠ k1 := Nat.ne_of_lt (Nat.lt_of_lt_of_le f55.lt (hO.ge 6 rfl))
    have ne_o3_k1 : o3 ≠ k1 := Nat.ne_of_lt (Nat.lt_of_lt_of_le f58.lt (hO.ge 6 rfl))
    have ne_u_k1 : u ≠ k1 := Nat.ne_of_lt (Nat.lt_of_lt_of_le f11.lt (hO.ge 6 rfl))
    have g_k1 : n0 ≤ k1 := Nat.le_trans sz59 (hO.ge 6 rfl)
    have ne_ct_k2 : ct ≠ k2 := Nat.ne_of_lt (Nat.lt_of_lt_of_le f22.lt (hO.ge 7 rfl))
    have ne_ed_k2 : ed ≠ k2 := Nat.ne_of_lt (Nat.lt_of_lt_of_le f75.1.lt (hO.ge 7 rfl))
    have ne_gd_k2 : gd ≠ k2 := Nat.ne_of_lt (Nat.lt_of_lt_of_le f33.lt (hO.ge 7 rfl))
    have ne_o1_k2 : o1 ≠ k2 := Nat.ne_of_lt (Nat.lt_of_lt_of_le f44.lt (hO.ge 7 rfl))
    have ne_o2_k2 : o2 ≠ k2 := Nat.ne_of_lt (Nat.lt_of_lt_of_le f55.lt (hO.ge 7 rfl))
    have ne_o3_k2 : o3 ≠ k2 := Nat.ne_of_lt (Nat.lt_of_lt_of_le f58.lt (hO.ge 7 rfl))
    have ne_u_k2 : u ≠ k2 := Nat.ne_of_lt (Nat.lt_of_lt_of_le f11.lt (hO.ge 7 rfl))
    have g_k2 : n0 ≤ k2 := Nat.le_trans sz59 (hO.ge 7 rfl)
    have fr128 := Fr.app fr54 N128
    replace f44 := f44.keep K128 (ninS ne_o1_ed nin0)
    replace f55 := f55.keep K128 (ninS ne_o2_ed nin0)
    replace f58 := f58.keep K128 (ninS ne_o3_ed nin0)
    replace f11 := f11.keep K128 (ninS ne_u_ed nin0)
    replace f22 := f22.keep K128 (ninS ne_ct_ed nin0)
    replace f33 := f33.keep K128 (ninS ne_gd_ed nin0)
    have sz128 : n0 ≤ T128.heap.size := Nat.le_trans sz59 K128.1
    refine pw X128 hx #[.val (.int q0), .val (.int q1), .val (.int q2), .val (.int q3), .val (.int q4), .val (.int 3), .val (.int 1), .val (.double t0), .second, .val (.double t1), .second, .val (.double t2), .second, .val (.double t3), .second, .val (.int c0), .val (.int c1), .val (.int c2), .val (.int c3), .val (.int y0), .val (.int y1), .val (.int y2), .val (.int y3), .val (.ref u), .val (.ref ct), .val (.ref gd), .val (.long nn), .second, .val (.ref o1), .val (.ref o2), .val (.ref o3), .val (.ref ed), .unset] (hd.at 125 rfl) rfl rfl ?_
    refine pi X128 hx (hd.at 126 rfl) rfl ?_
    refine pfN X128 hx (hd.at 127 rfl) ((if0 _ _).trans (feq (by decide)).1) ?_
    refine pa X128 hx (hd.at 182 rfl) rfl rfl ?_
    refine pC X128 hx 2 (hd.at 183 rfl) rfl ?_
    have hD := Jvm.Free.Fl.l2d_mag nn
    have n129 := hO.ne 0 7
    have n130 := hO.ne 0 6
    have n131 := hO.ne 0 5
    have n132 := hO.ne 0 4
    have n133 := hO.ne 0 3
    have n134 := hO.ne 0 2
    have n135 := hO.ne 0 1
    have n136 := hO.ne 1 7
    have n137 := hO.ne 1 6
    have n138 := hO.ne 1 5
    have n139 := hO.ne 1 4
    have n140 := hO.ne 1 3
    have n141 := hO.ne 1 2
    have n142 := hO.ne 2 7
    have n143 := hO.ne 2 6
    have n144 := hO.ne 2 5
    have n145 := hO.ne 2 4
    have n146 := hO.ne 2 3
    have n147 := hO.ne 3 7
    have n148 := hO.ne 3 6
    have n149 := hO.ne 3 5
    have n150 := hO.ne 3 4
    have n151 := hO.ne 4 7
    have n152 := hO.ne 4 6
    have n153 := hO.ne 4 5
    have n154 := hO.ne 5 7
    have n155 := hO.ne 5 6
    have n156 := hO.ne 6 7
    have hSj := (OOrd.cons g_ed (allS n78 (allS n77 (allS n76 (allS ne_ed_px (allS ne_ed_nx (allS ne_ed_t (allS ne_ed_mm (allS ne_ed_fa (allS ne_ed_fk (allS ne_ed_k1 (allS ne_ed_k2 all0))))))))))) (OOrd.cons g_u (allS ne_u_ct (allS ne_u_gd (allS ne_u_px (allS ne_u_nx (allS ne_u_t (allS ne_u_mm (allS ne_u_fa (allS ne_u_fk (allS ne_u_k1 (allS ne_u_k2 all0)))))))))) (OOrd.cons g_ct (allS ne_ct_gd (allS ne_ct_px (allS ne_ct_nx (allS ne_ct_t (allS ne_ct_mm (allS ne_ct_fa (allS ne_ct_fk (allS ne_ct_k1 (allS ne_ct_k2 all0))))))))) (OOrd.cons g_gd (allS ne_gd_px (allS ne_gd_nx (allS ne_gd_t (allS ne_gd_mm (allS ne_gd_fa (allS ne_gd_fk (allS ne_gd_k1 (allS ne_gd_k2 all0)))))))) (OOrd.cons g_px (allS n135 (allS n134 (allS n133 (allS n132 (allS n131 (allS n130 (allS n129 all0))))))) (OOrd.cons g_nx (allS n141 (allS n140 (allS n139 (allS n138 (allS n137 (allS n136 all0)))))) (OOrd.cons g_t (allS n146 (allS n145 (allS n144 (allS n143 (allS n142 all0))))) (OOrd.cons g_mm (allS n150 (allS n149 (allS n148 (allS n147 all0)))) (OOrd.cons g_fa (allS n153 (allS n152 (allS n151 all0))) (OOrd.cons g_fk (allS n155 (allS n154 all0)) (OOrd.cons g_k1 (allS n156 all0) (OOrd.cons g_k2 all0 OOrd.nil))))))))))))
    rcases hMr with ⟨rfl, rfl⟩ | ⟨rfl, rfl⟩
    · refine pgV (own_virtual X128 hx hZ (y := yN26) (z := yN26) (rm := ⟨12, 6, 17, 3100⟩) (W := 0) (a := ed) (argsL := [(.int 2)]) (rest := []) hown (wd hw 172 rfl) (wd hw 173 rfl) (notFace_of_selects (args := #[]) (mvT hZ (wd hw 175 rfl))) (wd hw 175 rfl) (wd hw 174 rfl) (wd hw 7 rfl) (wd hw 176 rfl) (rmJDB l Z a0 hw ed T128.heap n0 u ct gd px nx (own_q4 t0 t1 t2 t3) (own_ci c0 c1 c2 c3) (own_q4 y0 y1 y2 y3) (FP.l2d nn) t mm fa fk k1 k2 sz 0 d0 dq sz128 BB128_0 hU hN hD BB128_1 BB128_2 hSj) rfl BB128_0.1 rfl (by rw [hml]; rfl) (lenOf own_pd10 rfl) rfl (by exact Nat.le_of_eq rfl) (hd.at 184 rfl) (by decide) (by decide) (by decide) (by decide)) fun T157 L157 X157 hQ157 => ?_
      obtain ⟨N157, K157, BB157_0⟩ := hQ157
      have fr157 := Fr.app fr128 N157
      have n158 := Ne.symm ne_ct_o1
      replace f44 := f44.keep K157 (ninS ne_o1_ed (ninS n158 (ninS ne_o1_nx (ninS ne_o1_px nin0))))
      have n159 := Ne.symm ne_ct_o2
      replace f55 := f55.keep K157 (ninS ne_o2_ed (ninS n159 (ninS ne_o2_nx (ninS ne_o2_px nin0))))
      have n160 := Ne.symm ne_ct_o3
      replace f58 := f58.keep K157 (ninS ne_o3_ed (ninS n160 (ninS ne_o3_nx (ninS ne_o3_px nin0))))
      have n161 := Ne.symm n134
      have n162 := Ne.symm n141
      have n163 := Ne.symm ne_ct_t
      have n164 := Ne.symm ne_ed_t
      have n165 := Ne.symm n133
      have n166 := Ne.symm n140
      have n167 := Ne.symm ne_ct_mm
      have n168 := Ne.symm ne_ed_mm
      have n169 := Ne.symm n130
      have n170 := Ne.symm n137
      have n171 := Ne.symm ne_ct_k1
      have n172 := Ne.symm ne_ed_k1
      have n173 := Ne.symm n129
      have n174 := Ne.symm n136
      have n175 := Ne.symm ne_ct_k2
      have n176 := Ne.symm ne_ed_k2
      have n177 := Ne.symm n132
      have n178 := Ne.symm n139
      have n179 := Ne.symm ne_ct_fa
      have n180 := Ne.symm ne_ed_fa
      have n181 := Ne.symm n131
      have n182 := Ne.symm n138
      have n183 := Ne.symm ne_ct_fk
      have n184 := Ne.symm ne_ed_fk
      replace BB128_2 := BB128_2.keep K157 (ninS n164 (ninS n163 (ninS n162 (ninS n161 nin0)))) (ninS n168 (ninS n167 (ninS n166 (ninS n165 nin0)))) (ninS n172 (ninS n171 (ninS n170 (ninS n169 nin0)))) (ninS n176 (ninS n175 (ninS n174 (ninS n173 nin0)))) (ninS n180 (ninS n179 (ninS n178 (ninS n177 nin0)))) (ninS n184 (ninS n183 (ninS n182 (ninS n181 nin0))))
      have sz157 : n0 ≤ T157.heap.size := Nat.le_trans sz128 K157.1
      refine pa X157 hx (hd.at 128 rfl) rfl rfl ?_
      refine pa X157 hx (hd.at 129 rfl) rfl rfl ?_
      refine pa X157 hx (hd.at 130 rfl) rfl rfl ?_
      refine pa X157 hx (hd.at 131 rfl) rfl rfl ?_
      have n185 := Ne.symm ne_o3_ed
      have n186 := Ne.symm ne_o2_ed
      have n187 := Ne.symm ne_o1_ed
      have n188 := Ne.symm ne_o3_nx
      have n189 := Ne.symm ne_o2_nx
      have n190 := Ne.symm ne_o1_nx
      refine pg3 (own_virtual X157 hx hZ (y := yN11) (z := yN11) (rm := ⟨0, 0, 0, 0⟩) (W := 0) (a := ed) (argsL := [(.ref o1), (.ref o2), (.ref o3)]) (rest := []) hown (wd hw 104 rfl) (wd hw 105 rfl) (notFace_of_selects (args := #[]) (mvT hZ (wd hw 107 rfl))) (wd hw 107 rfl) (wd hw 106 rfl) (wd hw 7 rfl) (wd hw 108 rfl) (rmWrJ l Z a0 hw ed o1 o2 o3 T157.heap n0 u ct gd nx (own_q4 t0 t1 t2 t3) (own_cJ (own_ci c0 c1 c2 c3)) (own_q4 y0 y1 y2 y3) own_b4 own_m4 own_z4 BB157_0 f44 f55 f58 hG (OOrd.cons g_ed (allS n78 (allS n77 (allS n76 (allS ne_ed_nx (allS n187 (allS n186 (allS n185 all0))))))) (OOrd.cons g_u (allS ne_u_ct (allS ne_u_gd (allS ne_u_nx (allS ne_u_o1 (allS ne_u_o2 (allS ne_u_o3 all0)))))) (OOrd.cons g_ct (allS ne_ct_gd (allS ne_ct_nx (allS ne_ct_o1 (allS ne_ct_o2 (allS ne_ct_o3 all0))))) (OOrd.cons g_gd (allS ne_gd_nx (allS ne_gd_o1 (allS ne_gd_o2 (allS ne_gd_o3 all0)))) (OOrd.cons g_nx (allS n190 (allS n189 (allS n188 all0))) (OOrd.cons g_o1 (allS ne_o1_o2 (allS ne_o1_o3 all0)) (OOrd.cons g_o2 (allS ne_o2_o3 all0) (OOrd.cons g_o3 all0 OOrd.nil))))))))) rfl BB157_0.1 rfl (by rw [hml]; rfl) (lenOf own_pd17 rfl) rfl (by exact Nat.le_of_eq rfl) (hd.at 132 rfl) (by decide) (by decide) (by decide) (by decide)) fun v191 T191 L191 X191 hQ191 => ?_
      obtain ⟨rfl, N191, K191, A1, A2, A3⟩ := hQ191
      have fr191 := Fr.app fr157 N191
      have n192 := Ne.symm ne_o3_t
      have n193 := Ne.symm ne_o2_t
      have n194 := Ne.symm ne_o1_t
      have n195 := Ne.symm ne_o3_mm
      have n196 := Ne.symm ne_o2_mm
      have n197 := Ne.symm ne_o1_mm
      have n198 := Ne.symm ne_o3_k1
      have n199 := Ne.symm ne_o2_k1
      have n200 := Ne.symm ne_o1_k1
      have n201 := Ne.symm ne_o3_k2
      have n202 := Ne.symm ne_o2_k2
      have n203 := Ne.symm ne_o1_k2
      have n204 := Ne.symm ne_o3_fa
      have n205 := Ne.symm ne_o2_fa
      have n206 := Ne.symm ne_o1_fa
      have n207 := Ne.symm ne_o3_fk
      have n208 := Ne.symm ne_o2_fk
      have n209 := Ne.symm ne_o1_fk
      replace BB128_2 := BB128_2.keep K191 (ninS n194 (ninS n193 (ninS n192 nin0))) (ninS n197 (ninS n196 (ninS n195 nin0))) (ninS n200 (ninS n199 (ninS n198 nin0))) (ninS n203 (ninS n202 (ninS n201 nin0))) (ninS n206 (ninS n205 (ninS n204 nin0))) (ninS n209 (ninS n208 (ninS n207 nin0)))
      replace BB157_0 := BB157_0.keep K191 (ninS n187 (ninS n186 (ninS n185 nin0))) (ninS ne_u_o1 (ninS ne_u_o2 (ninS ne_u_o3 nin0))) (ninS ne_ct_o1 (ninS ne_ct_o2 (ninS ne_ct_o3 nin0))) (ninS ne_gd_o1 (ninS ne_gd_o2 (ninS ne_gd_o3 nin0))) (ninS n190 (ninS n189 (ninS n188 nin0)))
      have sz191 : n0 ≤ T191.heap.size := Nat.le_trans sz157 K191.1
      show OFin p e below s _ _ _ (T191.setTop (mkF m 377 #[.val (.int q0), .val (.int q1), .val (.int q2), .val (.int q3), .val (.int q4), .val (.int 3), .val (.int 1), .val (.double t0), .second, .val (.double t1), .second, .val (.double t2), .second, .val (.double t3), .second, .val (.int c0), .val (.int c1), .val (.int c2), .val (.int c3), .val (.int y0), .val (.int y1), .val (.int y2), .val (.int y3), .val (.ref u), .val (.ref ct), .val (.ref gd), .val (.long nn), .second, .val (.ref o1), .val (.ref o2), .val (.ref o3), .val (.ref ed), .unset] [(.int 2)]))
      refine ps X191 hx #[.val (.int q0), .val (.int q1), .val (.int q2), .val (.int q3), .val (.int q4), .val (.int 3), .val (.int 1), .val (.double t0), .second, .val (.double t1), .second, .val (.double t2), .second, .val (.double t3), .second, .val (.int c0), .val (.int c1), .val (.int c2), .val (.int c3), .val (.int y0), .val (.int y1), .val (.int y2), .val (.int y3), .val (.ref u), .val (.ref ct), .val (.ref gd), .val (.long nn), .second, .val (.ref o1), .val (.ref o2), .val (.ref o3), .val (.ref ed), .val (.int 2)] (hd.at 133 rfl) rfl ?_
      refine pi X191 hx (hd.at 134 rfl) rfl ?_
      refine pfN X191 hx (hd.at 135 rfl) ((if0 _ _).trans (feq (by decide)).1) ?_
      refine pi X191 hx (hd.at 185 rfl) rfl ?_
      refine pC X191 hx 2 (hd.at 186 rfl) rfl ?_
      refine pcN X191 hx (hd.at 187 rfl) ((teq rfl).2) ?_
      refine pa X191 hx (hd.at 188 rfl) rfl rfl ?_
      refine pC X191 hx 0 (hd.at 189 rfl) rfl ?_
      refine rD X191 hx hZ rfl A1 0 (.double t0) rfl (hd.at 190 rfl) ?_
      refine pd X191 hx (hd.at 191 rfl) rfl ?_
      refine o_dcmpl X191 hx (hd.at 192 rfl) ?_
      refine pfN X191 hx (hd.at 193 rfl) ((if0 _ _).trans (teq (by rw [e_0]; rfl)).2) ?_
      refine pa X191 hx (hd.at 194 rfl) rfl rfl ?_
      refine pC X191 hx 0 (hd.at 195 rfl) rfl ?_
      refine rD X191 hx hZ rfl A2 0 (.double (FP.i2d c0)) rfl (hd.at 196 rfl) ?_
      refine pi X191 hx (hd.at 197 rfl) rfl ?_
      refine o_i2d X191 hx (hd.at 198 rfl) ?_
      refine o_dcmpl X191 hx (hd.at 199 rfl) ?_
      refine pfN X191 hx (hd.at 200 rfl) ((if0 _ _).trans (teq (by rw [own_ii]; rfl)).2) ?_
      refine pa X191 hx (hd.at 201 rfl) rfl rfl ?_
      refine pC X191 hx 0 (hd.at 202 rfl) rfl ?_
      refine rZ X191 hx hZ rfl A3 0 (.int y0) rfl (hd.at 203 rfl) ?_
      refine pi X191 hx (hd.at 204 rfl) rfl ?_
      refine pcN X191 hx (hd.at 205 rfl) ((teq rfl).2) ?_
      refine pa X191 hx (hd.at 206 rfl) rfl rfl ?_
      refine pC X191 hx 1 (hd.at 207 rfl) rfl ?_
      refine rD X191 hx hZ rfl A1 1 (.double t2) rfl (hd.at 208 rfl) ?_
      refine pd X191 hx (hd.at 209 rfl) rfl ?_
      refine o_dcmpl X191 hx (hd.at 210 rfl) ?_
      refine pfN X191 hx (hd.at 211 rfl) ((if0 _ _).trans (teq (by rw [e_2]; rfl)).2) ?_
      refine pa X191 hx (hd.at 212 rfl) rfl rfl ?_
      refine pC X191 hx 1 (hd.at 213 rfl) rfl ?_
      refine rD X191 hx hZ rfl A2 1 (.double ((own_cJ (own_ci c0 c1 c2 c3)) 2)) rfl (hd.at 214 rfl) ?_
      refine pi X191 hx (hd.at 215 rfl) rfl ?_
      refine pi X191 hx (hd.at 216 rfl) rfl ?_
      refine o_iadd X191 hx (hd.at 217 rfl) ?_
      refine o_i2d X191 hx (hd.at 218 rfl) ?_
      refine o_dcmpl X191 hx (hd.at 219 rfl) ?_
      refine pfN X191 hx (hd.at 220 rfl) ((if0 _ _).trans (teq (by rw [show (own_cJ (own_ci c0 c1 c2 c3)) 2 = FP.dadd (FP.i2d c2) (FP.i2d c1) from if_pos rfl, own_jj hc1 hc2]; rfl)).2) ?_
      refine pa X191 hx (hd.at 221 rfl) rfl rfl ?_
      refine pC X191 hx 1 (hd.at 222 rfl) rfl ?_
      refine rZ X191 hx hZ rfl A3 1 (.int y2) rfl (hd.at 223 rfl) ?_
      refine pi X191 hx (hd.at 224 rfl) rfl ?_
      refine pcN X191 hx (hd.at 225 rfl) ((teq rfl).2) ?_
      refine pa X191 hx (hd.at 226 rfl) rfl rfl ?_
      refine pC X191 hx 2 (hd.at 227 rfl) rfl ?_
      refine rD X191 hx hZ rfl A1 2 (.double 4741671816366391296) rfl (hd.at 228 rfl) ?_
      refine pL (X191.ldc2DoubleC hx hown (mvT hZ (wd hw 3 rfl)) rfl (hd.at 229 rfl)) ?_
      refine o_dcmpl X191 hx (hd.at 230 rfl) ?_
      refine pfN X191 hx (hd.at 231 rfl) ((if0 _ _).trans (teq (by rw [own_bb]; rfl)).2) ?_
      refine pa X191 hx (hd.at 232 rfl) rfl rfl ?_
      refine pC X191 hx 2 (hd.at 233 rfl) rfl ?_
      refine rD X191 hx hZ rfl A2 2 (.double 13830554455654793216) rfl (hd.at 234 rfl) ?_
      refine pL (X191.ldc2DoubleC hx hown (mvT hZ (wd hw 4 rfl)) rfl (hd.at 235 rfl)) ?_
      refine o_dcmpl X191 hx (hd.at 236 rfl) ?_
      refine pfN X191 hx (hd.at 237 rfl) ((if0 _ _).trans (teq (by rw [own_nn1]; rfl)).2) ?_
      refine pa X191 hx (hd.at 238 rfl) rfl rfl ?_
      refine pC X191 hx 3 (hd.at 239 rfl) rfl ?_
      refine rD X191 hx hZ rfl A1 3 (.double 4741671816366391296) rfl (hd.at 240 rfl) ?_
      refine pL (X191.ldc2DoubleC hx hown (mvT hZ (wd hw 3 rfl)) rfl (hd.at 241 rfl)) ?_
      refine o_dcmpl X191 hx (hd.at 242 rfl) ?_
      refine pfN X191 hx (hd.at 243 rfl) ((if0 _ _).trans (teq (by rw [own_bb]; rfl)).2) ?_
      refine pa X191 hx (hd.at 244 rfl) rfl rfl ?_
      refine pC X191 hx 3 (hd.at 245 rfl) rfl ?_
      refine rD X191 hx hZ rfl A2 3 (.double 13830554455654793216) rfl (hd.at 246 rfl) ?_
      refine pL (X191.ldc2DoubleC hx hown (mvT hZ (wd hw 4 rfl)) rfl (hd.at 247 rfl)) ?_
      refine o_dcmpl X191 hx (hd.at 248 rfl) ?_
      refine pfN X191 hx (hd.at 249 rfl) ((if0 _ _).trans (teq (by rw [own_nn1]; rfl)).2) ?_
      refine pC X191 hx 1 (hd.at 250 rfl) rfl ?_
      refine pG X191 hx 502 (hd.at 251 rfl) ?_
      exact own_ret X191 hx (t := .boolean) hret hlk rfl (Or.inl ⟨rfl, by simp, _, rfl⟩) (hd.at 252 rfl) (by decide) (by decide) ⟨rfl, fr191⟩
    · refine pgV (own_virtual X128 hx hZ (y := yN26) (z := yN26) (rm := ⟨12, 6, 17, 3100⟩) (W := 0) (a := ed) (argsL := [(.int 2)]) (rest := []) hown (wd hw 172 rfl) (wd hw 173 rfl) (notFace_of_selects (args := #[]) (mvT hZ (wd hw 175 rfl))) (wd hw 175 rfl) (wd hw 174 rfl) (wd hw 7 rfl) (wd hw 176 rfl) (rmJDA l Z a0 hw ed T128.heap n0 u ct gd px nx (own_q4 t0 t1 t2 t3) (own_ci c0 c1 c2 c3) (own_q4 y0 y1 y2 y3) (FP.l2d nn) t mm fa fk k1 k2 sz 0 d0 dq sz128 BB128_0 hU hN hD BB128_1 BB128_2 hSj) rfl BB128_0.1 rfl (by rw [hml]; rfl) (lenOf own_pd10 rfl) rfl (by exact Nat.le_of_eq rfl) (hd.at 184 rfl) (by decide) (by decide) (by decide) (by decide)) fun T210 L210 X210 hQ210 => ?_
      obtain ⟨N210, K210, BB210_0⟩ := hQ210
      have fr210 := Fr.app fr128 N210
      have n211 := Ne.symm ne_ct_o1
      replace f44 := f44.keep K210 (ninS ne_o1_ed (ninS n211 (ninS ne_o1_nx (ninS ne_o1_px (ninS ne_o1_t (ninS ne_o1_mm (ninS ne_o1_fa (ninS ne_o1_fk nin0))))))))
      have n212 := Ne.symm ne_ct_o2
      replace f55 := f55.keep K210 (ninS ne_o2_ed (ninS n212 (ninS ne_o2_nx (ninS ne_o2_px (ninS ne_o2_t (ninS ne_o2_mm (ninS ne_o2_fa (ninS ne_o2_fk nin0))))))))
      have n213 := Ne.symm ne_ct_o3
      replace f58 := f58.keep K210 (ninS ne_o3_ed (ninS n213 (ninS ne_o3_nx (ninS ne_o3_px (ninS ne_o3_t (ninS ne_o3_mm (ninS ne_o3_fa (ninS ne_o3_fk nin0))))))))
      have sz210 : n0 ≤ T210.heap.size := Nat.le_trans sz128 K210.1
      refine pa X210 hx (hd.at 128 rfl) rfl rfl ?_
      refine pa X210 hx (hd.at 129 rfl) rfl rfl ?_
      refine pa X210 hx (hd.at 130 rfl) rfl rfl ?_
      refine pa X210 hx (hd.at 131 rfl) rfl rfl ?_
      have n214 := Ne.symm ne_o3_ed
      have n215 := Ne.symm ne_o2_ed
      have n216 := Ne.symm ne_o1_ed
      have n217 := Ne.symm ne_o3_nx
      have n218 := Ne.symm ne_o2_nx
      have n219 := Ne.symm ne_o1_nx
      refine pg3 (own_virtual X210 hx hZ (y := yN11) (z := yN11) (rm := ⟨0, 0, 0, 0⟩) (W := 0) (a := ed) (argsL := [(.ref o1), (.ref o2), (.ref o3)]) (rest := []) hown (wd hw 104 rfl) (wd hw 105 rfl) (notFace_of_selects (args := #[]) (mvT hZ (wd hw 107 rfl))) (wd hw 107 rfl) (wd hw 106 rfl) (wd hw 7 rfl) (wd hw 108 rfl) (rmWrJ l Z a0 hw ed o1 o2 o3 T210.heap n0 u ct gd nx (own_q4 t0 t1 t2 t3) (own_cJ (own_ci c0 c1 c2 c3)) (own_q4 y0 y1 y2 y3) own_b4 own_m4 own_z4 BB210_0 f44 f55 f58 hG (OOrd.cons g_ed (allS n78 (allS n77 (allS n76 (allS ne_ed_nx (allS n216 (allS n215 (allS n214 all0))))))) (OOrd.cons g_u (allS ne_u_ct (allS ne_u_gd (allS ne_u_nx (allS ne_u_o1 (allS ne_u_o2 (allS ne_u_o3 all0)))))) (OOrd.cons g_ct (allS ne_ct_gd (allS ne_ct_nx (allS ne_ct_o1 (allS ne_ct_o2 (allS ne_ct_o3 all0))))) (OOrd.cons g_gd (allS ne_gd_nx (allS ne_gd_o1 (allS ne_gd_o2 (allS ne_gd_o3 all0)))) (OOrd.cons g_nx (allS n219 (allS n218 (allS n217 all0))) (OOrd.cons g_o1 (allS ne_o1_o2 (allS ne_o1_o3 all0)) (OOrd.cons g_o2 (allS ne_o2_o3 all0) (OOrd.cons g_o3 all0 OOrd.nil))))))))) rfl BB210_0.1 rfl (by rw [hml]; rfl) (lenOf own_pd17 rfl) rfl (by exact Nat.le_of_eq rfl) (hd.at 132 rfl) (by decide) (by decide) (by decide) (by decide)) fun v220 T220 L220 X220 hQ220 => ?_
      obtain ⟨rfl, N220, K220, A1, A2, A3⟩ := hQ220
      have fr220 := Fr.app fr210 N220
      replace BB210_0 := BB210_0.keep K220 (ninS n216 (ninS n215 (ninS n214 nin0))) (ninS ne_u_o1 (ninS ne_u_o2 (ninS ne_u_o3 nin0))) (ninS ne_ct_o1 (ninS ne_ct_o2 (ninS ne_ct_o3 nin0))) (ninS ne_gd_o1 (ninS ne_gd_o2 (ninS ne_gd_o3 nin0))) (ninS n219 (ninS n218 (ninS n217 nin0)))
      have sz220 : n0 ≤ T220.heap.size := Nat.le_trans sz210 K220.1
      show OFin p e below s _ _ _ (T220.setTop (mkF m 377 #[.val (.int q0), .val (.int q1), .val (.int q2), .val (.int q3), .val (.int q4), .val (.int 3), .val (.int 1), .val (.double t0), .second, .val (.double t1), .second, .val (.double t2), .second, .val (.double t3), .second, .val (.int c0), .val (.int c1), .val (.int c2), .val (.int c3), .val (.int y0), .val (.int y1), .val (.int y2), .val (.int y3), .val (.ref u), .val (.ref ct), .val (.ref gd), .val (.long nn), .second, .val (.ref o1), .val (.ref o2), .val (.ref o3), .val (.ref ed), .unset] [(.int 2)]))
      refine ps X220 hx #[.val (.int q0), .val (.int q1), .val (.int q2), .val (.int q3), .val (.int q4), .val (.int 3), .val (.int 1), .val (.double t0), .second, .val (.double t1), .second, .val (.double t2), .second, .val (.double t3), .second, .val (.int c0), .val (.int c1), .val (.int c2), .val (.int c3), .val (.int y0), .val (.int y1), .val (.int y2), .val (.int y3), .val (.ref u), .val (.ref ct), .val (.ref gd), .val (.long nn), .second, .val (.ref o1), .val (.ref o2), .val (.ref o3), .val (.ref ed), .val (.int 2)] (hd.at 133 rfl) rfl ?_
      refine pi X220 hx (hd.at 134 rfl) rfl ?_
      refine pfN X220 hx (hd.at 135 rfl) ((if0 _ _).trans (feq (by decide)).1) ?_
      refine pi X220 hx (hd.at 185 rfl) rfl ?_
      refine pC X220 hx 2 (hd.at 186 rfl) rfl ?_
      refine pcN X220 hx (hd.at 187 rfl) ((teq rfl).2) ?_
      refine pa X220 hx (hd.at 188 rfl) rfl rfl ?_
      refine pC X220 hx 0 (hd.at 189 rfl) rfl ?_
      refine rD X220 hx hZ rfl A1 0 (.double t0) rfl (hd.at 190 rfl) ?_
      refine pd X220 hx (hd.at 191 rfl) rfl ?_
      refine o_dcmpl X220 hx (hd.at 192 rfl) ?_
      refine pfN X220 hx (hd.at 193 rfl) ((if0 _ _).trans (teq (by rw [e_0]; rfl)).2) ?_
      refine pa X220 hx (hd.at 194 rfl) rfl rfl ?_
      refine pC X220 hx 0 (hd.at 195 rfl) rfl ?_
      refine rD X220 hx hZ rfl A2 0 (.double (FP.i2d c0)) rfl (hd.at 196 rfl) ?_
      refine pi X220 hx (hd.at 197 rfl) rfl ?_
      refine o_i2d X220 hx (hd.at 198 rfl) ?_
      refine o_dcmpl X220 hx (hd.at 199 rfl) ?_
      refine pfN X220 hx (hd.at 200 rfl) ((if0 _ _).trans (teq (by rw [own_ii]; rfl)).2) ?_
      refine pa X220 hx (hd.at 201 rfl) rfl rfl ?_
      refine pC X220 hx 0 (hd.at 202 rfl) rfl ?_
      refine rZ X220 hx hZ rfl A3 0 (.int y0) rfl (hd.at 203 rfl) ?_
      refine pi X220 hx (hd.at 204 rfl) rfl ?_
      refine pcN X220 hx (hd.at 205 rfl) ((teq rfl).2) ?_
      refine pa X220 hx (hd.at 206 rfl) rfl rfl ?_
      refine pC X220 hx 1 (hd.at 207 rfl) rfl ?_
      refine rD X220 hx hZ rfl A1 1 (.double t2) rfl (hd.at 208 rfl) ?_
      refine pd X220 hx (hd.at 209 rfl) rfl ?_
      refine o_dcmpl X220 hx (hd.at 210 rfl) ?_
      refine pfN X220 hx (hd.at 211 rfl) ((if0 _ _).trans (teq (by rw [e_2]; rfl)).2) ?_
      refine pa X220 hx (hd.at 212 rfl) rfl rfl ?_
      refine pC X220 hx 1 (hd.at 213 rfl) rfl ?_
      refine rD X220 hx hZ rfl A2 1 (.double ((own_cJ (own_ci c0 c1 c2 c3)) 2)) rfl (hd.at 214 rfl) ?_
      refine pi X220 hx (hd.at 215 rfl) rfl ?_
      refine pi X220 hx (hd.at 216 rfl) rfl ?_
      refine o_iadd X220 hx (hd.at 217 rfl) ?_
      refine o_i2d X220 hx (hd.at 218 rfl) ?_
      refine o_dcmpl X220 hx (hd.at 219 rfl) ?_
      refine pfN X220 hx (hd.at 220 rfl) ((if0 _ _).trans (teq (by rw [show (own_cJ (own_ci c0 c1 c2 c3)) 2 = FP.dadd (FP.i2d c2) (FP.i2d c1) from if_pos rfl, own_jj hc1 hc2]; rfl)).2) ?_
      refine pa X220 hx (hd.at 221 rfl) rfl rfl ?_
      refine pC X220 hx 1 (hd.at 222 rfl) rfl ?_
      refine rZ X220 hx hZ rfl A3 1 (.int y2) rfl (hd.at 223 rfl) ?_
      refine pi X220 hx (hd.at 224 rfl) rfl ?_
      refine pcN X220 hx (hd.at 225 rfl) ((teq rfl).2) ?_
      refine pa X220 hx (hd.at 226 rfl) rfl rfl ?_
      refine pC X220 hx 2 (hd.at 227 rfl) rfl ?_
      refine rD X220 hx hZ rfl A1 2 (.double 4741671816366391296) rfl (hd.at 228 rfl) ?_
      refine pL (X220.ldc2DoubleC hx hown (mvT hZ (wd hw 3 rfl)) rfl (hd.at 229 rfl)) ?_
      refine o_dcmpl X220 hx (hd.at 230 rfl) ?_
      refine pfN X220 hx (hd.at 231 rfl) ((if0 _ _).trans (teq (by rw [own_bb]; rfl)).2) ?_
      refine pa X220 hx (hd.at 232 rfl) rfl rfl ?_
      refine pC X220 hx 2 (hd.at 233 rfl) rfl ?_
      refine rD X220 hx hZ rfl A2 2 (.double 13830554455654793216) rfl (hd.at 234 rfl) ?_
      refine pL (X220.ldc2DoubleC hx hown (mvT hZ (wd hw 4 rfl)) rfl (hd.at 235 rfl)) ?_
      refine o_dcmpl X220 hx (hd.at 236 rfl) ?_
      refine pfN X220 hx (hd.at 237 rfl) ((if0 _ _).trans (teq (by rw [own_nn1]; rfl)).2) ?_
      refine pa X220 hx (hd.at 238 rfl) rfl rfl ?_
      refine pC X220 hx 3 (hd.at 239 rfl) rfl ?_
      refine rD X220 hx hZ rfl A1 3 (.double 4741671816366391296) rfl (hd.at 240 rfl) ?_
      refine pL (X220.ldc2DoubleC hx hown (mvT hZ (wd hw 3 rfl)) rfl (hd.at 241 rfl)) ?_
      refine o_dcmpl X220 hx (hd.at 242 rfl) ?_
      refine pfN X220 hx (hd.at 243 rfl) ((if0 _ _).trans (teq (by rw [own_bb]; rfl)).2) ?_
      refine pa X220 hx (hd.at 244 rfl) rfl rfl ?_
      refine pC X220 hx 3 (hd.at 245 rfl) rfl ?_
      refine rD X220 hx hZ rfl A2 3 (.double 13830554455654793216) rfl (hd.at 246 rfl) ?_
      refine pL (X220.ldc2DoubleC hx hown (mvT hZ (wd hw 4 rfl)) rfl (hd.at 247 rfl)) ?_
      refine o_dcmpl X220 hx (hd.at 248 rfl) ?_
      refine pfN X220 hx (hd.at 249 rfl) ((if0 _ _).trans (teq (by rw [own_nn1]; rfl)).2) ?_
      refine pC X220 hx 1 (hd.at 250 rfl) rfl ?_
      refine pG X220 hx 502 (hd.at 251 rfl) ?_
      exact own_ret X220 hx (t := .boolean) hret hlk rfl (Or.inl ⟨rfl, by simp, _, rfl⟩) (hd.at 252 rfl) (by decide) (by decide) ⟨rfl, fr220⟩
set_option maxRecDepth 65536 in
set_option maxHeartbeats 40000000 in
theorem lpG3 {l : Launch} {Z : State} {a0 : Array Value} (hw : ∀ d ∈ tables_1, d.before a0 Z = true) {p : Program} {e : Env} {s : State} {m : MethodId} {args : Array Value} {below : List Frame} {meth : Method} {c : Code} (hC : OCtx Z p s m meth c "com/example/rankfold/rankfold/summaries/BucketEditorWritePinLaw" "law" code maxLocals ret) {T0 : State} (X0 : Stand p l e room_1 s m args below meth c T0 [] 0 0) {h0 : Heap} (e0 : T0.heap = h0) (q0 q1 q2 q3 q4 zz jj : Int32) (t0 t1 t2 t3 : UInt64) (c0 c1 c2 c3 : Int32) (y0 : Int32) (y1 : Int32) (y2 : Int32) (n0 : Nat) (Z0 : n0 ≤ h0.size) (H : OLaw t0 t1 t2 t3 c1 c2 zz jj) (b0 : y0 = 0 ∨ y0 = 1) (b1 : y1 = 0 ∨ y1 = 1) (b2 : y2 = 0 ∨ y2 = 1) :
    OFin p e below s room_1.cells room_1.slots (fun v h L => v = some (.int (1 : Int32)) ∧ Fr n0 L) (T0.setTop (mkF m 157 #[.val (.int q0), .val (.int q1), .val (.int q2), .val (.int q3), .val (.int q4), .val (.int zz), .val (.int jj), .val (.double t0), .second, .val (.double t1), .second, .val (.double t2), .second, .val (.double t3), .second, .val (.int c0), .val (.int c1), .val (.int c2), .val (.int c3), .val (.int y0), .val (.int y1), .val (.int y2), .unset, .unset, .unset, .unset, .unset, .unset, .unset, .unset, .unset, .unset, .unset] [])) := by
  have hC0 := hC
  obtain ⟨hx, hZH, hby, hml, hown, hret, hlk, hnm⟩ := hC
  have hZ := hZH.wide
  have hd := D0.to hby
  refine pi X0 hx (hd.at 253 rfl) rfl ?_
  refine pB X0 hx 8 (hd.at 254 rfl) rfl ?_
  refine o_iand X0 hx (hd.at 255 rfl) ?_
  by_cases cg : (q4 &&& (8 : Int32)) = (0 : Int32)
  · refine pfY X0 hx 169 (hd.at 256 rfl) ((if0 _ _).trans (teq cg).1) ?_
    refine pC X0 hx 0 (hd.at 257 rfl) rfl ?_
    refine ps X0 hx #[.val (.int q0), .val (.int q1), .val (.int q2), .val (.int q3), .val (.int q4), .val (.int zz), .val (.int jj), .val (.double t0), .second, .val (.double t1), .second, .val (.double t2), .second, .val (.double t3), .second, .val (.int c0), .val (.int c1), .val (.int c2), .val (.int c3), .val (.int y0), .val (.int y1), .val (.int y2), .val (.int 0), .unset, .unset, .unset, .unset, .unset, .unset, .unset, .unset, .unset, .unset] (hd.at 258 rfl) rfl ?_
    exact lpL hw hC0 X0 e0 q0 q1 q2 q3 q4 zz jj t0 t1 t2 t3 c0 c1 c2 c3 y0 y1 y2 _ n0 Z0 H b0 b1 b2 (Or.inl rfl)
  · refine pfN X0 hx (hd.at 256 rfl) ((if0 _ _).trans (feq cg).1) ?_
    refine pC X0 hx 1 (hd.at 259 rfl) rfl ?_
    refine pG X0 hx 170 (hd.at 260 rfl) ?_
    refine ps X0 hx #[.val (.int q0), .val (.int q1), .val (.int q2), .val (.int q3), .val (.int q4), .val (.int zz), .val (.int jj), .val (.double t0), .second, .val (.double t1), .second, .val (.double t2), .second, .val (.double t3), .second, .val (.int c0), .val (.int c1), .val (.int c2), .val (.int c3), .val (.int y0), .val (.int y1), .val (.int y2), .val (.int 1), .unset, .unset, .unset, .unset, .unset, .unset, .unset, .unset, .unset, .unset] (hd.at 258 rfl) rfl ?_
    exact lpL hw hC0 X0 e0 q0 q1 q2 q3 q4 zz jj t0 t1 t2 t3 c0 c1 c2 c3 y0 y1 y2 _ n0 Z0 H b0 b1 b2 (Or.inr rfl)
set_option maxRecDepth 65536 in
set_option maxHeartbeats 40000000 in
theorem lpG2 {l : Launch} {Z : State} {a0 : Array Value} (hw : ∀ d ∈ tables_1, d.before a0 Z = true) {p : Program} {e : Env} {s : State} {m : MethodId} {args : Array Value} {below : List Frame} {meth : Method} {c : Code} (hC : OCtx Z p s m meth c "com/example/rankfold/rankfold/summaries/BucketEditorWritePinLaw" "law" code maxLocals ret) {T0 : State} (X0 : Stand p l e room_1 s m args below meth c T0 [] 0 0) {h0 : Heap} (e0 : T0.heap = h0) (q0 q1 q2 q3 q4 zz jj : Int32) (t0 t1 t2 t3 : UInt64) (c0 c1 c2 c3 : Int32) (y0 : Int32) (y1 : Int32) (n0 : Nat) (Z0 : n0 ≤ h0.size) (H : OLaw t0 t1 t2 t3 c1 c2 zz jj) (b0 : y0 = 0 ∨ y0 = 1) (b1 : y1 = 0 ∨ y1 = 1) :
    OFin p e below s room_1.cells room_1.slots (fun v h L => v = some (.int (1 : Int32)) ∧ Fr n0 L) (T0.setTop (mkF m 143 #[.val (.int q0), .val (.int q1), .val (.int q2), .val (.int q3), .val (.int q4), .val (.int zz), .val (.int jj), .val (.double t0), .second, .val (.double t1), .second, .val (.double t2), .second, .val (.double t3), .second, .val (.int c0), .val (.int c1), .val (.int c2), .val (.int c3), .val (.int y0), .val (.int y1), .unset, .unset, .unset, .unset, .unset, .unset, .unset, .unset, .unset, .unset, .unset, .unset] [])) := by
  have hC0 := hC
  obtain ⟨hx, hZH, hby, hml, hown, hret, hlk, hnm⟩ := hC
  have hZ := hZH.wide
  have hd := D0.to hby
  refine pi X0 hx (hd.at 261 rfl) rfl ?_
  refine pC X0 hx 4 (hd.at 262 rfl) rfl ?_
  refine o_iand X0 hx (hd.at 263 rfl) ?_
  by_cases cg : (q4 &&& (4 : Int32)) = (0 : Int32)
  · refine pfY X0 hx 154 (hd.at 264 rfl) ((if0 _ _).trans (teq cg).1) ?_
    refine pC X0 hx 0 (hd.at 265 rfl) rfl ?_
    refine ps X0 hx #[.val (.int q0), .val (.int q1), .val (.int q2), .val (.int q3), .val (.int q4), .val (.int zz), .val (.int jj), .val (.double t0), .second, .val (.double t1), .second, .val (.double t2), .second, .val (.double t3), .second, .val (.int c0), .val (.int c1), .val (.int c2), .val (.int c3), .val (.int y0), .val (.int y1), .val (.int 0), .unset, .unset, .unset, .unset, .unset, .unset, .unset, .unset, .unset, .unset, .unset] (hd.at 266 rfl) rfl ?_
    exact lpG3 hw hC0 X0 e0 q0 q1 q2 q3 q4 zz jj t0 t1 t2 t3 c0 c1 c2 c3 y0 y1 _ n0 Z0 H b0 b1 (Or.inl rfl)
  · refine pfN X0 hx (hd.at 264 rfl) ((if0 _ _).trans (feq cg).1) ?_
    refine pC X0 hx 1 (hd.at 267 rfl) rfl ?_
    refine pG X0 hx 155 (hd.at 268 rfl) ?_
    refine ps X0 hx #[.val (.int q0), .val (.int q1), .val (.int q2), .val (.int q3), .val (.int q4), .val (.int zz), .val (.int jj), .val (.double t0), .second, .val (.double t1), .second, .val (.double t2), .second, .val (.double t3), .second, .val (.int c0), .val (.int c1), .val (.int c2), .val (.int c3), .val (.int y0), .val (.int y1), .val (.int 1), .unset, .unset, .unset, .unset, .unset, .unset, .unset, .unset, .unset, .unset, .unset] (hd.at 266 rfl) rfl ?_
    exact lpG3 hw hC0 X0 e0 q0 q1 q2 q3 q4 zz jj t0 t1 t2 t3 c0 c1 c2 c3 y0 y1 _ n0 Z0 H b0 b1 (Or.inr rfl)
set_option maxRecDepth 65536 in
set_option maxHeartbeats 40000000 in
theorem lpG1 {l : Launch} {Z : State} {a0 : Array Value} (hw : ∀ d ∈ tables_1, d.before a0 Z = true) {p : Program} {e : Env} {s : State} {m : MethodId} {args : Array Value} {below : List Frame} {meth : Method} {c : Code} (hC : OCtx Z p s m meth c "com/example/rankfold/rankfold/summaries/BucketEditorWritePinLaw" "law" code maxLocals ret) {T0 : State} (X0 : Stand p l e room_1 s m args below meth c T0 [] 0 0) {h0 : Heap} (e0 : T0.heap = h0) (q0 q1 q2 q3 q4 zz jj : Int32) (t0 t1 t2 t3 : UInt64) (c0 c1 c2 c3 : Int32) (y0 : Int32) (n0 : Nat) (Z0 : n0 ≤ h0.size) (H : OLaw t0 t1 t2 t3 c1 c2 zz jj) (b0 : y0 = 0 ∨ y0 = 1) :
    OFin p e below s room_1.cells room_1.slots (fun v h L => v = some (.int (1 : Int32)) ∧ Fr n0 L) (T0.setTop (mkF m 129 #[.val (.int q0), .val (.int q1), .val (.int q2), .val (.int q3), .val (.int q4), .val (.int zz), .val (.int jj), .val (.double t0), .second, .val (.double t1), .second, .val (.double t2), .second, .val (.double t3), .second, .val (.int c0), .val (.int c1), .val (.int c2), .val (.int c3), .val (.int y0), .unset, .unset, .unset, .unset, .unset, .unset, .unset, .unset, .unset, .unset, .unset, .unset, .unset] [])) := by
  have hC0 := hC
  obtain ⟨hx, hZH, hby, hml, hown, hret, hlk, hnm⟩ := hC
  have hZ := hZH.wide
  have hd := D0.to hby
  refine pi X0 hx (hd.at 269 rfl) rfl ?_
  refine pC X0 hx 2 (hd.at 270 rfl) rfl ?_
  refine o_iand X0 hx (hd.at 271 rfl) ?_
  by_cases cg : (q4 &&& (2 : Int32)) = (0 : Int32)
  · refine pfY X0 hx 140 (hd.at 272 rfl) ((if0 _ _).trans (teq cg).1) ?_
    refine pC X0 hx 0 (hd.at 273 rfl) rfl ?_
    refine ps X0 hx #[.val (.int q0), .val (.int q1), .val (.int q2), .val (.int q3), .val (.int q4), .val (.int zz), .val (.int jj), .val (.double t0), .second, .val (.double t1), .second, .val (.double t2), .second, .val (.double t3), .second, .val (.int c0), .val (.int c1), .val (.int c2), .val (.int c3), .val (.int y0), .val (.int 0), .unset, .unset, .unset, .unset, .unset, .unset, .unset, .unset, .unset, .unset, .unset, .unset] (hd.at 274 rfl) rfl ?_
    exact lpG2 hw hC0 X0 e0 q0 q1 q2 q3 q4 zz jj t0 t1 t2 t3 c0 c1 c2 c3 y0 _ n0 Z0 H b0 (Or.inl rfl)
  · refine pfN X0 hx (hd.at 272 rfl) ((if0 _ _).trans (feq cg).1) ?_
    refine pC X0 hx 1 (hd.at 275 rfl) rfl ?_
    refine pG X0 hx 141 (hd.at 276 rfl) ?_
    refine ps X0 hx #[.val (.int q0), .val (.int q1), .val (.int q2), .val (.int q3), .val (.int q4), .val (.int zz), .val (.int jj), .val (.double t0), .second, .val (.double t1), .second, .val (.double t2), .second, .val (.double t3), .second, .val (.int c0), .val (.int c1), .val (.int c2), .val (.int c3), .val (.int y0), .val (.int 1), .unset, .unset, .unset, .unset, .unset, .unset, .unset, .unset, .unset, .unset, .unset, .unset] (hd.at 274 rfl) rfl ?_
    exact lpG2 hw hC0 X0 e0 q0 q1 q2 q3 q4 zz jj t0 t1 t2 t3 c0 c1 c2 c3 y0 _ n0 Z0 H b0 (Or.inr rfl)
set_option maxRecDepth 65536 in
set_option maxHeartbeats 40000000 in
theorem lpA {l : Launch} {Z : State} {a0 : Array Value} (hw : ∀ d ∈ tables_1, d.before a0 Z = true) {p : Program} {e : Env} {s : State} {m : MethodId} {args : Array Value} {below : List Frame} {meth : Method} {c : Code} (hC : OCtx Z p s m meth c "com/example/rankfold/rankfold/summaries/BucketEditorWritePinLaw" "law" code maxLocals ret) {T0 : State} (X0 : Stand p l e room_1 s m args below meth c T0 [] 0 0) {h0 : Heap} (e0 : T0.heap = h0) (q0 q1 q2 q3 q4 zz jj : Int32) (n0 : Nat) (Z0 : n0 ≤ h0.size) (hcase : OCase zz jj) :
    OFin p e below s room_1.cells room_1.slots (fun v h L => v = some (.int (1 : Int32)) ∧ Fr n0 L) (T0.setTop (mkF m 26 #[.val (.int q0), .val (.int q1), .val (.int q2), .val (.int q3), .val (.int q4), .val (.int zz), .val (.int jj), .unset, .unset, .unset, .unset, .unset, .unset, .unset, .unset, .unset, .unset, .unset, .unset, .unset, .unset, .unset, .unset, .unset, .unset, .unset, .unset, .unset, .unset, .unset, .unset, .unset, .unset] [])) := by
  have hC0 := hC
  obtain ⟨hx, hZH, hby, hml, hown, hret, hlk, hnm⟩ := hC
  have hZ := hZH.wide
  have hd := D0.to hby
  refine pI X0 hx (hd.at 277 rfl) rfl ?_
  refine pL (X0.ldcInt hx hown (mvT hZ (wd hw 0 rfl)) rfl (hd.at 278 rfl)) ?_
  refine pR (fun _ kS => iremM X0 hx rfl (hd.at 279 rfl) rfl (by decide) kS) ?_
  show OFin p e below s _ _ _ (T0.setTop (mkF m 30 #[.val (.int q0), .val (.int q1), .val (.int q2), .val (.int q3), .val (.int q4), .val (.int zz), .val (.int jj), .unset, .unset, .unset, .unset, .unset, .unset, .unset, .unset, .unset, .unset, .unset, .unset, .unset, .unset, .unset, .unset, .unset, .unset, .unset, .unset, .unset, .unset, .unset, .unset, .unset, .unset] [(.int (q1 % (100000 : Int32)))]))
  refine o_i2d X0 hx (hd.at 280 rfl) ?_
  have d0 := FP.Core.i2d_int (q1 % (100000 : Int32))
  have m0 := Jvm.Free.Fl.i2d_mag (q1 % (100000 : Int32))
  have r0 := own_b5 q1
  change FP.Core.DInt _ (FP.i2d (q1 % (100000 : Int32))) at d0
  generalize (FP.i2d (q1 % (100000 : Int32))) = t0 at d0 m0 ⊢
  generalize (q1 % (100000 : Int32)).toInt = k0 at d0 r0
  refine pt X0 hx #[.val (.int q0), .val (.int q1), .val (.int q2), .val (.int q3), .val (.int q4), .val (.int zz), .val (.int jj), .val (.double t0), .second, .unset, .unset, .unset, .unset, .unset, .unset, .unset, .unset, .unset, .unset, .unset, .unset, .unset, .unset, .unset, .unset, .unset, .unset, .unset, .unset, .unset, .unset, .unset, .unset] (hd.at 281 rfl) rfl ?_
  refine pd X0 hx (hd.at 282 rfl) rfl ?_
  refine pC X0 hx 1 (hd.at 283 rfl) rfl ?_
  refine pI X0 hx (hd.at 284 rfl) rfl ?_
  refine pP X0 hx 255 (hd.at 285 rfl) rfl ?_
  refine o_iand X0 hx (hd.at 286 rfl) ?_
  refine o_iadd X0 hx (hd.at 287 rfl) ?_
  refine o_i2d X0 hx (hd.at 288 rfl) ?_
  obtain ⟨k1, a1, s1, d1⟩ := own_next d0 (by omega) (by omega) q2
  have m1 := Jvm.Free.Fl.dadd_mag m0 ((Jvm.Free.Fl.i2d_mag ((1 : Int32) + (q2 &&& (255 : Int32)))).mono (by decide)) (by decide)
  refine pR (fun _ kS => Jvm.Free.XS.daddS X0.here hx rfl (v := (FP.dadd t0 (FP.i2d ((1 : Int32) + (q2 &&& (255 : Int32)))))) (hd.at 289 rfl) rfl (own_nn d1) rfl kS) ?_
  generalize (FP.dadd t0 (FP.i2d ((1 : Int32) + (q2 &&& (255 : Int32))))) = t1 at d1 m1 ⊢
  refine pt X0 hx #[.val (.int q0), .val (.int q1), .val (.int q2), .val (.int q3), .val (.int q4), .val (.int zz), .val (.int jj), .val (.double t0), .second, .val (.double t1), .second, .unset, .unset, .unset, .unset, .unset, .unset, .unset, .unset, .unset, .unset, .unset, .unset, .unset, .unset, .unset, .unset, .unset, .unset, .unset, .unset, .unset, .unset] (hd.at 290 rfl) rfl ?_
  refine pd X0 hx (hd.at 291 rfl) rfl ?_
  refine pC X0 hx 1 (hd.at 292 rfl) rfl ?_
  refine pI X0 hx (hd.at 293 rfl) rfl ?_
  refine pB X0 hx 8 (hd.at 294 rfl) rfl ?_
  refine o_iushr X0 hx (hd.at 295 rfl) ?_
  refine pP X0 hx 255 (hd.at 296 rfl) rfl ?_
  refine o_iand X0 hx (hd.at 297 rfl) ?_
  refine o_iadd X0 hx (hd.at 298 rfl) ?_
  refine o_i2d X0 hx (hd.at 299 rfl) ?_
  obtain ⟨k2, a2, s2, d2⟩ := own_next d1 (by omega) (by omega) ((q2.toUInt32 >>> ((8 : Int32) &&& 31).toUInt32).toInt32)
  have m2 := Jvm.Free.Fl.dadd_mag m1 ((Jvm.Free.Fl.i2d_mag ((1 : Int32) + (((q2.toUInt32 >>> ((8 : Int32) &&& 31).toUInt32).toInt32) &&& (255 : Int32)))).mono (by decide)) (by decide)
  refine pR (fun _ kS => Jvm.Free.XS.daddS X0.here hx rfl (v := (FP.dadd t1 (FP.i2d ((1 : Int32) + (((q2.toUInt32 >>> ((8 : Int32) &&& 31).toUInt32).toInt32) &&& (255 : Int32)))))) (hd.at 300 rfl) rfl (own_nn d2) rfl kS) ?_
  generalize (FP.dadd t1 (FP.i2d ((1 : Int32) + (((q2.toUInt32 >>> ((8 : Int32) &&& 31).toUInt32).toInt32) &&& (255 : Int32))))) = t2 at d2 m2 ⊢
  refine pt X0 hx #[.val (.int q0), .val (.int q1), .val (.int q2), .val (.int q3), .val (.int q4), .val (.int zz), .val (.int jj), .val (.double t0), .second, .val (.double t1), .second, .val (.double t2), .second, .unset, .unset, .unset, .unset, .unset, .unset, .unset, .unset, .unset, .unset, .unset, .unset, .unset, .unset, .unset, .unset, .unset, .unset, .unset, .unset] (hd.at 301 rfl) rfl ?_
  refine pd X0 hx (hd.at 302 rfl) rfl ?_
  refine pC X0 hx 1 (hd.at 303 rfl) rfl ?_
  refine pI X0 hx (hd.at 304 rfl) rfl ?_
  refine pB X0 hx 16 (hd.at 305 rfl) rfl ?_
  refine o_iushr X0 hx (hd.at 306 rfl) ?_
  refine pP X0 hx 255 (hd.at 307 rfl) rfl ?_
  refine o_iand X0 hx (hd.at 308 rfl) ?_
  refine o_iadd X0 hx (hd.at 309 rfl) ?_
  refine o_i2d X0 hx (hd.at 310 rfl) ?_
  obtain ⟨k3, a3, s3, d3⟩ := own_next d2 (by omega) (by omega) ((q2.toUInt32 >>> ((16 : Int32) &&& 31).toUInt32).toInt32)
  have m3 := Jvm.Free.Fl.dadd_mag m2 ((Jvm.Free.Fl.i2d_mag ((1 : Int32) + (((q2.toUInt32 >>> ((16 : Int32) &&& 31).toUInt32).toInt32) &&& (255 : Int32)))).mono (by decide)) (by decide)
  refine pR (fun _ kS => Jvm.Free.XS.daddS X0.here hx rfl (v := (FP.dadd t2 (FP.i2d ((1 : Int32) + (((q2.toUInt32 >>> ((16 : Int32) &&& 31).toUInt32).toInt32) &&& (255 : Int32)))))) (hd.at 311 rfl) rfl (own_nn d3) rfl kS) ?_
  generalize (FP.dadd t2 (FP.i2d ((1 : Int32) + (((q2.toUInt32 >>> ((16 : Int32) &&& 31).toUInt32).toInt32) &&& (255 : Int32))))) = t3 at d3 m3 ⊢
  refine pt X0 hx #[.val (.int q0), .val (.int q1), .val (.int q2), .val (.int q3), .val (.int q4), .val (.int zz), .val (.int jj), .val (.double t0), .second, .val (.double t1), .second, .val (.double t2), .second, .val (.double t3), .second, .unset, .unset, .unset, .unset, .unset, .unset, .unset, .unset, .unset, .unset, .unset, .unset, .unset, .unset, .unset, .unset, .unset, .unset] (hd.at 312 rfl) rfl ?_
  refine pI X0 hx (hd.at 313 rfl) rfl ?_
  refine pP X0 hx 255 (hd.at 314 rfl) rfl ?_
  refine o_iand X0 hx (hd.at 315 rfl) ?_
  have hc0 := own_mk8 q3
  generalize (q3 &&& (255 : Int32)) = c0 at hc0 ⊢
  refine ps X0 hx #[.val (.int q0), .val (.int q1), .val (.int q2), .val (.int q3), .val (.int q4), .val (.int zz), .val (.int jj), .val (.double t0), .second, .val (.double t1), .second, .val (.double t2), .second, .val (.double t3), .second, .val (.int c0), .unset, .unset, .unset, .unset, .unset, .unset, .unset, .unset, .unset, .unset, .unset, .unset, .unset, .unset, .unset, .unset, .unset] (hd.at 316 rfl) rfl ?_
  refine pI X0 hx (hd.at 317 rfl) rfl ?_
  refine pB X0 hx 8 (hd.at 318 rfl) rfl ?_
  refine o_iushr X0 hx (hd.at 319 rfl) ?_
  refine pP X0 hx 255 (hd.at 320 rfl) rfl ?_
  refine o_iand X0 hx (hd.at 321 rfl) ?_
  have hc1 := own_mk8 ((q3.toUInt32 >>> ((8 : Int32) &&& 31).toUInt32).toInt32)
  generalize (((q3.toUInt32 >>> ((8 : Int32) &&& 31).toUInt32).toInt32) &&& (255 : Int32)) = c1 at hc1 ⊢
  refine ps X0 hx #[.val (.int q0), .val (.int q1), .val (.int q2), .val (.int q3), .val (.int q4), .val (.int zz), .val (.int jj), .val (.double t0), .second, .val (.double t1), .second, .val (.double t2), .second, .val (.double t3), .second, .val (.int c0), .val (.int c1), .unset, .unset, .unset, .unset, .unset, .unset, .unset, .unset, .unset, .unset, .unset, .unset, .unset, .unset, .unset, .unset] (hd.at 322 rfl) rfl ?_
  refine pI X0 hx (hd.at 323 rfl) rfl ?_
  refine pB X0 hx 16 (hd.at 324 rfl) rfl ?_
  refine o_iushr X0 hx (hd.at 325 rfl) ?_
  refine pP X0 hx 255 (hd.at 326 rfl) rfl ?_
  refine o_iand X0 hx (hd.at 327 rfl) ?_
  have hc2 := own_mk8 ((q3.toUInt32 >>> ((16 : Int32) &&& 31).toUInt32).toInt32)
  generalize (((q3.toUInt32 >>> ((16 : Int32) &&& 31).toUInt32).toInt32) &&& (255 : Int32)) = c2 at hc2 ⊢
  refine ps X0 hx #[.val (.int q0), .val (.int q1), .val (.int q2), .val (.int q3), .val (.int q4), .val (.int zz), .val (.int jj), .val (.double t0), .second, .val (.double t1), .second, .val (.double t2), .second, .val (.double t3), .second, .val (.int c0), .val (.int c1), .val (.int c2), .unset, .unset, .unset, .unset, .unset, .unset, .unset, .unset, .unset, .unset, .unset, .unset, .unset, .unset, .unset] (hd.at 328 rfl) rfl ?_
  refine pI X0 hx (hd.at 329 rfl) rfl ?_
  refine pB X0 hx 24 (hd.at 330 rfl) rfl ?_
  refine o_iushr X0 hx (hd.at 331 rfl) ?_
  refine pP X0 hx 255 (hd.at 332 rfl) rfl ?_
  refine o_iand X0 hx (hd.at 333 rfl) ?_
  have hc3 := own_mk8 ((q3.toUInt32 >>> ((24 : Int32) &&& 31).toUInt32).toInt32)
  generalize (((q3.toUInt32 >>> ((24 : Int32) &&& 31).toUInt32).toInt32) &&& (255 : Int32)) = c3 at hc3 ⊢
  have H : OLaw t0 t1 t2 t3 c1 c2 zz jj := ⟨hcase, own_up d0 d1 d2 d3 m0 m1 m2 m3 a1 s1 a2 s2 a3 s3, own_dd d0 d0, own_dd d1 d1, own_dd d2 d2, own_dd d3 d3, hc1, hc2⟩
  refine ps X0 hx #[.val (.int q0), .val (.int q1), .val (.int q2), .val (.int q3), .val (.int q4), .val (.int zz), .val (.int jj), .val (.double t0), .second, .val (.double t1), .second, .val (.double t2), .second, .val (.double t3), .second, .val (.int c0), .val (.int c1), .val (.int c2), .val (.int c3), .unset, .unset, .unset, .unset, .unset, .unset, .unset, .unset, .unset, .unset, .unset, .unset, .unset, .unset] (hd.at 334 rfl) rfl ?_
  refine pi X0 hx (hd.at 335 rfl) rfl ?_
  refine pC X0 hx 1 (hd.at 336 rfl) rfl ?_
  refine o_iand X0 hx (hd.at 337 rfl) ?_
  by_cases cg : (q4 &&& (1 : Int32)) = (0 : Int32)
  · refine pfY X0 hx 126 (hd.at 338 rfl) ((if0 _ _).trans (teq cg).1) ?_
    refine pC X0 hx 0 (hd.at 339 rfl) rfl ?_
    refine ps X0 hx #[.val (.int q0), .val (.int q1), .val (.int q2), .val (.int q3), .val (.int q4), .val (.int zz), .val (.int jj), .val (.double t0), .second, .val (.double t1), .second, .val (.double t2), .second, .val (.double t3), .second, .val (.int c0), .val (.int c1), .val (.int c2), .val (.int c3), .val (.int 0), .unset, .unset, .unset, .unset, .unset, .unset, .unset, .unset, .unset, .unset, .unset, .unset, .unset] (hd.at 340 rfl) rfl ?_
    exact lpG1 hw hC0 X0 e0 q0 q1 q2 q3 q4 zz jj t0 t1 t2 t3 c0 c1 c2 c3 _ n0 Z0 H (Or.inl rfl)
  · refine pfN X0 hx (hd.at 338 rfl) ((if0 _ _).trans (feq cg).1) ?_
    refine pC X0 hx 1 (hd.at 341 rfl) rfl ?_
    refine pG X0 hx 127 (hd.at 342 rfl) ?_
    refine ps X0 hx #[.val (.int q0), .val (.int q1), .val (.int q2), .val (.int q3), .val (.int q4), .val (.int zz), .val (.int jj), .val (.double t0), .second, .val (.double t1), .second, .val (.double t2), .second, .val (.double t3), .second, .val (.int c0), .val (.int c1), .val (.int c2), .val (.int c3), .val (.int 1), .unset, .unset, .unset, .unset, .unset, .unset, .unset, .unset, .unset, .unset, .unset, .unset, .unset] (hd.at 340 rfl) rfl ?_
    exact lpG1 hw hC0 X0 e0 q0 q1 q2 q3 q4 zz jj t0 t1 t2 t3 c0 c1 c2 c3 _ n0 Z0 H (Or.inr rfl)
set_option maxRecDepth 65536 in
set_option maxHeartbeats 40000000 in
theorem rm0 (l : Launch) (Z : State) (a0 : Array Value) (hw : ∀ d ∈ tables_1, d.before a0 Z = true) (q0 : Int32) (q1 : Int32) (q2 : Int32) (q3 : Int32) (q4 : Int32) (h0 : Heap) (n0 : Nat) (Z0 : n0 ≤ h0.size)  :
    OMet l Z x code maxLocals ret room_1 #[(.int q0), (.int q1), (.int q2), (.int q3), (.int q4)] h0 (fun v h L => v = some (.int (1 : Int32)) ∧ Fr n0 L) := by
  refine own_enter own_pn0 ?_
  intro p e s m below meth c T0 X0 hC e0 hnamed
  have hC0 := hC
  obtain ⟨hx, hZH, hby, hml, hown, hret, hlk, hnm⟩ := hC
  have hZ := hZH.wide
  have hown : s.vm.findClass "com/example/rankfold/rankfold/summaries/BucketEditorWritePinLaw" = some m.cls := hown
  refine own_at (own_ef0_IIIII m q0 q1 q2 q3 q4) ?_
  have hd := D0.to hby
  refine pC X0 hx 1 (hd.at 343 rfl) rfl ?_
  refine pI X0 hx (hd.at 344 rfl) rfl ?_
  refine pC X0 hx 3 (hd.at 345 rfl) rfl ?_
  refine o_iand X0 hx (hd.at 346 rfl) ?_
  refine o_iadd X0 hx (hd.at 347 rfl) ?_
  refine ps X0 hx #[.val (.int q0), .val (.int q1), .val (.int q2), .val (.int q3), .val (.int q4), .val (.int ((1 : Int32) + (q0 &&& (3 : Int32)))), .unset, .unset, .unset, .unset, .unset, .unset, .unset, .unset, .unset, .unset, .unset, .unset, .unset, .unset, .unset, .unset, .unset, .unset, .unset, .unset, .unset, .unset, .unset, .unset, .unset, .unset, .unset] (hd.at 348 rfl) rfl ?_
  rcases own_k4 q0 with hk | hk | hk | hk
  · rw [hk]
    rw [show (((1 : Int32) + (0 : Int32))) = (1 : Int32) from by decide]
    refine pi X0 hx (hd.at 349 rfl) rfl ?_
    refine pC X0 hx 3 (hd.at 350 rfl) rfl ?_
    refine pcY X0 hx 23 (hd.at 351 rfl) ((feq (by decide)).2) ?_
    refine pC X0 hx 0 (hd.at 352 rfl) rfl ?_
    refine ps X0 hx #[.val (.int q0), .val (.int q1), .val (.int q2), .val (.int q3), .val (.int q4), .val (.int 1), .val (.int 0), .unset, .unset, .unset, .unset, .unset, .unset, .unset, .unset, .unset, .unset, .unset, .unset, .unset, .unset, .unset, .unset, .unset, .unset, .unset, .unset, .unset, .unset, .unset, .unset, .unset, .unset] (hd.at 353 rfl) rfl ?_
    exact lpA hw hC0 X0 e0 q0 q1 q2 q3 q4 _ _ n0 Z0 (Or.inl ⟨rfl, rfl⟩)
  · rw [hk]
    rw [show (((1 : Int32) + (1 : Int32))) = (2 : Int32) from by decide]
    refine pi X0 hx (hd.at 349 rfl) rfl ?_
    refine pC X0 hx 3 (hd.at 350 rfl) rfl ?_
    refine pcY X0 hx 23 (hd.at 351 rfl) ((feq (by decide)).2) ?_
    refine pC X0 hx 0 (hd.at 352 rfl) rfl ?_
    refine ps X0 hx #[.val (.int q0), .val (.int q1), .val (.int q2), .val (.int q3), .val (.int q4), .val (.int 2), .val (.int 0), .unset, .unset, .unset, .unset, .unset, .unset, .unset, .unset, .unset, .unset, .unset, .unset, .unset, .unset, .unset, .unset, .unset, .unset, .unset, .unset, .unset, .unset, .unset, .unset, .unset, .unset] (hd.at 353 rfl) rfl ?_
    exact lpA hw hC0 X0 e0 q0 q1 q2 q3 q4 _ _ n0 Z0 (Or.inr (Or.inl ⟨rfl, rfl⟩))
  · rw [hk]
    rw [show (((1 : Int32) + (2 : Int32))) = (3 : Int32) from by decide]
    refine pi X0 hx (hd.at 349 rfl) rfl ?_
    refine pC X0 hx 3 (hd.at 350 rfl) rfl ?_
    refine pcN X0 hx (hd.at 351 rfl) ((teq rfl).2) ?_
    refine pI X0 hx (hd.at 354 rfl) rfl ?_
    refine pC X0 hx 4 (hd.at 355 rfl) rfl ?_
    refine o_iand X0 hx (hd.at 356 rfl) ?_
    by_cases cj : (q0 &&& (4 : Int32)) = (0 : Int32)
    · refine pfY X0 hx 23 (hd.at 357 rfl) ((if0 _ _).trans (teq cj).1) ?_
      refine pC X0 hx 0 (hd.at 352 rfl) rfl ?_
      refine ps X0 hx #[.val (.int q0), .val (.int q1), .val (.int q2), .val (.int q3), .val (.int q4), .val (.int 3), .val (.int 0), .unset, .unset, .unset, .unset, .unset, .unset, .unset, .unset, .unset, .unset, .unset, .unset, .unset, .unset, .unset, .unset, .unset, .unset, .unset, .unset, .unset, .unset, .unset, .unset, .unset, .unset] (hd.at 353 rfl) rfl ?_
      exact lpA hw hC0 X0 e0 q0 q1 q2 q3 q4 _ _ n0 Z0 (Or.inr (Or.inr (Or.inl ⟨rfl, rfl⟩)))
    · refine pfN X0 hx (hd.at 357 rfl) ((if0 _ _).trans (feq cj).1) ?_
      refine pC X0 hx 1 (hd.at 358 rfl) rfl ?_
      refine pG X0 hx 24 (hd.at 359 rfl) ?_
      refine ps X0 hx #[.val (.int q0), .val (.int q1), .val (.int q2), .val (.int q3), .val (.int q4), .val (.int 3), .val (.int 1), .unset, .unset, .unset, .unset, .unset, .unset, .unset, .unset, .unset, .unset, .unset, .unset, .unset, .unset, .unset, .unset, .unset, .unset, .unset, .unset, .unset, .unset, .unset, .unset, .unset, .unset] (hd.at 353 rfl) rfl ?_
      exact lpA hw hC0 X0 e0 q0 q1 q2 q3 q4 _ _ n0 Z0 (Or.inr (Or.inr (Or.inr (Or.inr ⟨rfl, rfl⟩))))
  · rw [hk]
    rw [show (((1 : Int32) + (3 : Int32))) = (4 : Int32) from by decide]
    refine pi X0 hx (hd.at 349 rfl) rfl ?_
    refine pC X0 hx 3 (hd.at 350 rfl) rfl ?_
    refine pcY X0 hx 23 (hd.at 351 rfl) ((feq (by decide)).2) ?_
    refine pC X0 hx 0 (hd.at 352 rfl) rfl ?_
    refine ps X0 hx #[.val (.int q0), .val (.int q1), .val (.int q2), .val (.int q3), .val (.int q4), .val (.int 4), .val (.int 0), .unset, .unset, .unset, .unset, .unset, .unset, .unset, .unset, .unset, .unset, .unset, .unset, .unset, .unset, .unset, .unset, .unset, .unset, .unset, .unset, .unset, .unset, .unset, .unset, .unset, .unset] (hd.at 353 rfl) rfl ?_
    exact lpA hw hC0 X0 e0 q0 q1 q2 q3 q4 _ _ n0 Z0 (Or.inr (Or.inr (Or.inr (Or.inl ⟨rfl, rfl⟩))))
set_option maxRecDepth 65536 in
set_option maxHeartbeats 40000000 in
theorem comes_1 {Post : Tables → Env → Array Value → State → Outcome → State → Prop} (hpost : ∀ tb e args s v u, (limb_1_1.after args s (.returned v) u = true ∧ limb_1_2.after args s (.returned v) u = true ∧ True) → ReturnedEndW s (.returned v) u (Jvm.fieldLocs frame_1_writes args s ++ Jvm.arrayLocs frame_1_arrays args s ++ Jvm.staticLocs frame_1_statics s) 56 256 → Post tb e args s (.returned v) u) :
    ArmFor flags0 classFile x code maxLocals ret World_1 tables_1 room_1 Calls_1 rest_1 Pre_1 Post := by
  intro l hfl _ _ p e ha hc hk s m args below hf hA hF happ hP
  obtain ⟨hcalls, hrest, hpre⟩ := hP
  obtain ⟨-, -, -, hnamed, -, -, -, hat⟩ := (Spec.applies_iff hf).mp happ
  obtain ⟨hg, hn⟩ := and_e (Cond.before_iff.mp (show (Jvm.Cond.and given_1 narrow_1).before args s = true from hpre))
  obtain ⟨gc, hg0⟩ := and_e hg
  obtain ⟨ga0, hg1⟩ := and_e hg0
  obtain ⟨ga1, hg2⟩ := and_e hg1
  obtain ⟨ga2, hg3⟩ := and_e hg2
  obtain ⟨ga3, hg4⟩ := and_e hg3
  obtain ⟨w0, w1, w2, w3, w4, rfl⟩ : ∃ w0 w1 w2 w3 w4 : Value, args = #[w0, w1, w2, w3, w4] := by
    have hs : args.size = 5 := by simpa [Cond.value, given_1] using gc
    obtain ⟨L⟩ := args
    match L, hs with
    | [w0, w1, w2, w3, w4], _ => exact ⟨w0, w1, w2, w3, w4, rfl⟩
  have hw := fun d (hd : d ∈ tables_1) => atoms_spec (ws := Jvm.Cond.code x code maxLocals ret :: tables_1) hat d (List.mem_cons_of_mem _ hd)
  have hfit : Fit s := fun {y c} hc i hi => by
    obtain ⟨ha, rfl⟩ := Array.getElem?_eq_some_iff.mp hc
    have q := List.all_eq_true.mp ((Array.all_eq_true_iff_forall_mem.mp hF) _ (Array.getElem_mem ha)) i (List.mem_range.mpr hi)
    simpa [Array.getElem?_eq_getElem hi] using q
  obtain ⟨i0, ei0⟩ := is_v ga0
  obtain rfl : w0 = (.int i0) := Option.some.inj ei0
  obtain ⟨i1, ei1⟩ := is_v ga1
  obtain rfl : w1 = (.int i1) := Option.some.inj ei1
  obtain ⟨i2, ei2⟩ := is_v ga2
  obtain rfl : w2 = (.int i2) := Option.some.inj ei2
  obtain ⟨i3, ei3⟩ := is_v ga3
  obtain rfl : w3 = (.int i3) := Option.some.inj ei3
  obtain ⟨i4, ei4⟩ := is_v hg4
  obtain rfl : w4 = (.int i4) := Option.some.inj ei4
  obtain ⟨n, o, h1, h2, h3, _, L, rfl, ⟨rfl, N⟩, hq⟩ := rm0 l s _ hw i0 i1 i2 i3 i4 _ _ (Nat.le_refl _) tables_1 p e ha hc hk s m _ below hf ((Spec.applies_iff_loose hf).mp happ).1 ⟨rfl, State.WarmedH.refl s, rfl⟩ trivial
  refine ⟨n, _, h1, h2, h3, hpost _ _ _ _ _ _ ⟨Cond.after_iff.mpr rfl, Cond.after_iff.mpr (eq_i res_at (Term.int_eval (1)) rfl), trivial⟩ (ReturnedEndW.of_narrow hq.1 hq.2.1 ((hq.2.2.sift fun y hy => Or.inr (N y hy)).mono (by decide) (by decide)))⟩
theorem main_1_1 : Claimed_1_1 := comes_1 fun _ _ _ _ _ _ h hF => ⟨h.1, hF⟩
theorem main_1_2 : Claimed_1_2 := comes_1 fun _ _ _ _ _ _ h hF => ⟨h.2.1, hF⟩
end Jvm.Pilot.@@N@@
namespace Jvm.Pilot.@@N@@
open Jvm Jvm.ClassFile Sem Op Lib Jvm.Free Jvm.Stand Jvm.Pilot.@@N@@.Jvm.D
/-! MADE BY PROGRAM (witnessworld.py) out of the Statement's table words and the real class files: 26 classes; the members and pool entries that the words name. The judged class is class 1, her method 1. -/
namespace start1
open Jvm.ClassFile
def u (s : String) : CpInfo := .utf8 (stringToUtf16 s)
/-- a pool by its gaps: so many unusable entries, then the entry; so many at the end -/
def gap : Nat → List CpInfo → List CpInfo
  | 0, r => r
  | n + 1, r => .unusable :: gap n r
def poolList (es : List (Nat × CpInfo)) (last : Nat) : List CpInfo := es.foldr (fun e r => gap e.1 (e.2 :: r)) (gap last [])
def pool (es : List (Nat × CpInfo)) (last : Nat) : Array CpInfo := ⟨poolList es last⟩
def fileOf (pool : Array CpInfo) (this : Nat) (attrs : Array Attribute := #[]) (ms : Array MethodInfo := #[]) (fl : Nat := 33) (sup : Nat := 0) (ifs : Array Nat := #[]) (fds : Array FieldInfo := #[]) : ClassFile where
  minorVersion := 0
  majorVersion := 65
  constantPool := pool
  accessFlags := fl
  thisClass := this
  superClass := sup
  interfaces := ifs
  fields := fds
  methods := ms
  attributes := attrs
def plain (name : String) (sup : Option ClassId) : Class where
  name := name
  kind := .ordinary
  loader := none
  accessFlags := 33
  super := sup
  interfaces := #[]
  cf := none
  fields := #[]
  methods := #[]
  instanceTypes := #[]
  staticTypes := #[]
  resolved := #[]
  callSites := []
  init := .initialized
  statics := none
  mirror := none

def pool0 : Array CpInfo := pool [(5, u "<init>"), (0, u "()V"), (1, .class_ 10), (1, u "java/lang/Object")] 113

def k0c0 : Code := { maxStack := 0, maxLocals := 1, code := object_method_1_code, exceptionTable := #[], attributes := #[] }
def k0m0 : Method := { name := "<init>", desc := "()V", sig := { parameters := [], returnType := none }, accessFlags := 1, code := some k0c0 }
/-- java/lang/Object -/
def k0 : Class := { plain "java/lang/Object" none with
  accessFlags := 33
  interfaces := #[]
  cf := some (fileOf pool0 8 #[] #[{ accessFlags := 1, nameIndex := 5, descriptorIndex := 6, attributes := #[] }] 33 0 #[] #[])
  fields := #[]
  methods := #[k0m0]
  instanceTypes := #[]
  staticTypes := #[]
  resolved := Array.replicate 124 none
  statics := none }

def pool1 : Array CpInfo := pool [(2, .class_ 4), (1, u "java/lang/Object"), (0, u "<init>"), (0, u "()V"), (0, .integer 100000), (0, .double 4741671816366391296), (1, .double 13830554455654793216), (1, .class_ 13), (0, u "com/example/rankfold/rankfold/summaries/BucketEditor"), (0, .double 4613937818241073152), (1, .methodref 12 17), (0, .nameAndType 5 18), (0, u "([D[D[ZIIJDD)V"), (0, .methodref 12 20), (0, .nameAndType 21 22), (0, u "joinDownTo"), (0, u "(I)V"), (0, .methodref 12 24), (0, .nameAndType 25 26), (0, u "write"), (0, u "([D[D[Z)I"), (0, .methodref 28 29), (0, .class_ 30), (0, .nameAndType 31 32), (0, u "com/example/rankfold/rankfold/summaries/BucketEditorWritePinLaw"), (0, u "slot"), (0, u "([D[D[ZIIDIZ)Z"), (2, u "law"), (0, u "(IIIII)Z")] 7

def k1m0 : Method := { name := "<init>", desc := "()V", sig := { parameters := [], returnType := none }, accessFlags := 1, code := none }
def k1c1 : Code := { maxStack := 13, maxLocals := 33, code := code, exceptionTable := #[], attributes := #[] }
def k1m1 : Method := { name := "law", desc := "(IIIII)Z", sig := { parameters := [.int, .int, .int, .int, .int], returnType := some .boolean }, accessFlags := 9, code := some k1c1 }
def k1c2 : Code := { maxStack := 4, maxLocals := 9, code := method_3_code, exceptionTable := #[], attributes := #[] }
def k1m2 : Method := { name := "slot", desc := "([D[D[ZIIDIZ)Z", sig := { parameters := [(.array .double), (.array .double), (.array .boolean), .int, .int, .double, .int, .boolean], returnType := some .boolean }, accessFlags := 10, code := some k1c2 }
/-- com/example/rankfold/rankfold/summaries/BucketEditorWritePinLaw -/
def k1 : Class := { plain "com/example/rankfold/rankfold/summaries/BucketEditorWritePinLaw" (some 0) with
  accessFlags := 49
  interfaces := #[]
  cf := some (fileOf pool1 28 #[] #[{ accessFlags := 1, nameIndex := 5, descriptorIndex := 6, attributes := #[] }, { accessFlags := 9, nameIndex := 35, descriptorIndex := 36, attributes := #[] }, { accessFlags := 10, nameIndex := 31, descriptorIndex := 32, attributes := #[] }] 49 2 #[] #[])
  fields := #[]
  methods := #[k1m0, k1m1, k1m2]
  instanceTypes := #[]
  staticTypes := #[]
  resolved := Array.replicate 44 none
  statics := none }

def pool2 : Array CpInfo := pool [(1, .methodref 2 3), (0, .class_ 4), (0, .nameAndType 5 6), (0, u "java/lang/Object"), (0, u "<init>"), (0, u "()V"), (0, .class_ 8), (0, u "com/example/rankfold/rankfold/summaries/BucketEditor"), (0, .fieldref 7 10), (0, .nameAndType 11 12), (0, u "freeSlot"), (0, u "I"), (0, .fieldref 7 14), (0, .nameAndType 15 12), (0, u "maxBuckets"), (0, .fieldref 7 17), (0, .nameAndType 18 19), (0, u "n"), (0, u "D"), (0, .fieldref 7 21), (0, .nameAndType 22 19), (0, u "smallestMagnitude"), (0, .fieldref 7 24), (0, .nameAndType 25 19), (0, u "splitFactor"), (0, .fieldref 7 27), (0, .nameAndType 28 12), (0, u "size"), (0, .fieldref 7 30), (0, .nameAndType 31 12), (0, u "slots"), (0, .fieldref 7 33), (0, .nameAndType 34 35), (0, u "upper"), (0, u "[D"), (0, .fieldref 7 37), (0, .nameAndType 38 35), (0, u "count"), (0, .fieldref 7 40), (0, .nameAndType 41 42), (0, u "guarded"), (0, u "[Z"), (0, .fieldref 7 44), (0, .nameAndType 45 46), (0, u "previous"), (0, u "[I"), (0, .fieldref 7 48), (0, .nameAndType 49 46), (0, u "next"), (0, .class_ 51), (0, u "com/example/rankfold/rankfold/summaries/Tournament"), (0, .invokeDynamic 0 53), (0, .nameAndType 54 55), (0, u "applyAsDouble"), (0, u "(Lcom/example/rankfold/rankfold/summaries/BucketEditor;)Ljava/util/function/IntToDoubleFunction;"), (0, .invokeDynamic 1 53), (0, .methodref 50 58), (0, .nameAndType 5 59), (0, u "(ZILjava/util/function/IntToDoubleFunction;Ljava/util/function/IntToDoubleFunction;)V"), (0, .fieldref 7 61), (0, .nameAndType 62 63), (0, u "joins"), (0, u "Lcom/example/rankfold/rankfold/summaries/Tournament;"), (0, .methodref 7 65), (0, .nameAndType 66 67), (0, u "offerPair"), (0, u "(ILcom/example/rankfold/rankfold/summaries/Tournament;Z)V"), (0, .methodref 50 69), (0, .nameAndType 70 6), (0, u "plant"), (0, .methodref 50 72), (0, .nameAndType 73 74), (0, u "first"), (0, u "()I"), (0, .fieldref 7 76), (0, .nameAndType 77 63), (0, u "anyJoins"), (0, .methodref 7 79), (0, .nameAndType 80 81), (0, u "join"), (0, u "(I)V"), (11, u "(I)Z"), (14, u "joinDownTo"), (0, .fieldref 7 110), (0, .nameAndType 111 63), (0, u "splits"), (11, u "(I)D"), (2, .methodref 7 127), (0, .nameAndType 128 123), (0, u "joinedError"), (1, .class_ 132), (1, u "com/example/rankfold/rankfold/summaries/BucketEditor$Guide"), (11, u "(D)D"), (5, .class_ 152), (1, u "java/lang/Math"), (4, u "(DD)D"), (0, .methodref 150 159), (0, .nameAndType 160 157), (0, u "max"), (6, .methodref 7 168), (0, .nameAndType 169 81), (0, u "refreshAround"), (0, .methodref 50 171), (0, .nameAndType 172 81), (0, u "remove"), (3, .methodref 50 177), (0, .nameAndType 178 81), (0, u "put"), (6, .methodref 7 186), (0, .nameAndType 187 81), (0, u "offer"), (5, .methodref 7 194), (0, .nameAndType 195 93), (0, u "isJoinable"), (0, .methodref 7 197), (0, .nameAndType 198 199), (0, u "splitBound"), (0, u "()D"), (0, .double 4604930618986332160), (1, .methodref 7 203), (0, .nameAndType 204 93), (0, u "isPoint"), (0, .methodref 206 207), (0, .class_ 208), (0, .nameAndType 204 209), (0, u "com/example/rankfold/rankfold/summaries/SplineCurve"), (0, u "(DDD)Z"), (0, .methodref 7 211), (0, .nameAndType 212 213), (0, u "errorOf"), (0, u "(DDDII)D"), (0, .methodref 206 215), (0, .nameAndType 216 157), (0, u "span"), (0, .methodref 7 218), (0, .nameAndType 219 220), (0, u "sideError"), (0, u "(DDI)D"), (0, .methodref 150 222), (0, .nameAndType 223 144), (0, u "abs"), (26, u "MORE_SLOTS"), (2, u "NONE"), (1, u "FREED"), (1, u "HEAD"), (1, u "JOIN_SHARE"), (0, u "SPLIT_GAIN"), (0, u "LEAST_SPLIT_SHARE"), (0, u "([D[D[ZIIJDD)V"), (6, u "write"), (0, u "([D[D[Z)I"), (3, u "threshold"), (4, .methodType 123), (0, .methodHandle 5 126), (0, .methodHandle 5 282), (0, .methodref 7 283), (0, .nameAndType 274 123), (1, .methodHandle 6 286), (0, .methodref 287 288), (0, .class_ 289), (0, .nameAndType 290 291), (0, u "java/lang/invoke/LambdaMetafactory"), (0, u "metafactory"), (0, u "(Ljava/lang/invoke/MethodHandles$Lookup;Ljava/lang/String;Ljava/lang/invoke/MethodType;Ljava/lang/invoke/MethodType;Ljava/lang/invoke/MethodHandle;Ljava/lang/invoke/MethodType;)Ljava/lang/invoke/CallSite;")] 7

def k2c0 : Code := { maxStack := 7, maxLocals := 14, code := prog_72_method_1_code, exceptionTable := #[], attributes := #[] }
def k2m0 : Method := { name := "<init>", desc := "([D[D[ZIIJDD)V", sig := { parameters := [(.array .double), (.array .double), (.array .boolean), .int, .int, .long, .double, .double], returnType := none }, accessFlags := 0, code := some k2c0 }
def k2c1 : Code := { maxStack := 4, maxLocals := 6, code := prog_72_method_3_code, exceptionTable := #[], attributes := #[] }
def k2m1 : Method := { name := "write", desc := "([D[D[Z)I", sig := { parameters := [(.array .double), (.array .double), (.array .boolean)], returnType := some .int }, accessFlags := 0, code := some k2c1 }
def k2c2 : Code := { maxStack := 7, maxLocals := 4, code := prog_72_method_5_code, exceptionTable := #[], attributes := #[] }
def k2m2 : Method := { name := "joinDownTo", desc := "(I)V", sig := { parameters := [.int], returnType := none }, accessFlags := 0, code := some k2c2 }
def k2c3 : Code := { maxStack := 6, maxLocals := 4, code := prog_72_method_10_code, exceptionTable := #[], attributes := #[] }
def k2m3 : Method := { name := "join", desc := "(I)V", sig := { parameters := [.int], returnType := none }, accessFlags := 2, code := some k2c3 }
def k2c4 : Code := { maxStack := 3, maxLocals := 5, code := prog_72_method_13_code, exceptionTable := #[], attributes := #[] }
def k2m4 : Method := { name := "refreshAround", desc := "(I)V", sig := { parameters := [.int], returnType := none }, accessFlags := 2, code := some k2c4 }
def k2c5 : Code := { maxStack := 4, maxLocals := 2, code := prog_72_method_14_code, exceptionTable := #[], attributes := #[] }
def k2m5 : Method := { name := "offer", desc := "(I)V", sig := { parameters := [.int], returnType := none }, accessFlags := 2, code := some k2c5 }
def k2c6 : Code := { maxStack := 2, maxLocals := 4, code := prog_72_method_16_code, exceptionTable := #[], attributes := #[] }
def k2m6 : Method := { name := "offerPair", desc := "(ILcom/example/rankfold/rankfold/summaries/Tournament;Z)V", sig := { parameters := [.int, (.object "com/example/rankfold/rankfold/summaries/Tournament"), .boolean], returnType := none }, accessFlags := 2, code := some k2c6 }
def k2c7 : Code := { maxStack := 4, maxLocals := 1, code := prog_72_method_18_code, exceptionTable := #[], attributes := #[] }
def k2m7 : Method := { name := "splitBound", desc := "()D", sig := { parameters := [], returnType := some .double }, accessFlags := 2, code := some k2c7 }
def k2c8 : Code := { maxStack := 6, maxLocals := 2, code := prog_72_method_20_code, exceptionTable := #[], attributes := #[] }
def k2m8 : Method := { name := "isJoinable", desc := "(I)Z", sig := { parameters := [.int], returnType := some .boolean }, accessFlags := 2, code := some k2c8 }
def k2c9 : Code := { maxStack := 6, maxLocals := 2, code := prog_72_method_22_code, exceptionTable := #[], attributes := #[] }
def k2m9 : Method := { name := "isPoint", desc := "(I)Z", sig := { parameters := [.int], returnType := some .boolean }, accessFlags := 2, code := some k2c9 }
def k2c10 : Code := { maxStack := 2, maxLocals := 2, code := prog_72_method_23_code, exceptionTable := #[], attributes := #[] }
def k2m10 : Method := { name := "threshold", desc := "(I)D", sig := { parameters := [.int], returnType := some .double }, accessFlags := 2, code := some k2c10 }
def k2c11 : Code := { maxStack := 10, maxLocals := 3, code := prog_72_method_25_code, exceptionTable := #[], attributes := #[] }
def k2m11 : Method := { name := "joinedError", desc := "(I)D", sig := { parameters := [.int], returnType := some .double }, accessFlags := 2, code := some k2c11 }
def k2c12 : Code := { maxStack := 8, maxLocals := 11, code := prog_72_method_26_code, exceptionTable := #[], attributes := #[] }
def k2m12 : Method := { name := "errorOf", desc := "(DDDII)D", sig := { parameters := [.double, .double, .double, .int, .int], returnType := some .double }, accessFlags := 2, code := some k2c12 }
def k2c13 : Code := { maxStack := 8, maxLocals := 12, code := prog_72_method_27_code, exceptionTable := #[], attributes := #[] }
def k2m13 : Method := { name := "sideError", desc := "(DDI)D", sig := { parameters := [.double, .double, .int], returnType := some .double }, accessFlags := 2, code := some k2c13 }
/-- com/example/rankfold/rankfold/summaries/BucketEditor -/
def k2 : Class := { plain "com/example/rankfold/rankfold/summaries/BucketEditor" (some 0) with
  accessFlags := 48
  interfaces := #[]
  cf := some (fileOf pool2 7 #[.nestMembers #[130], .bootstrapMethods #[⟨285, #[279, 280, 279]⟩, ⟨285, #[279, 281, 279]⟩, ⟨0, #[]⟩]] #[{ accessFlags := 0, nameIndex := 5, descriptorIndex := 262, attributes := #[] }, { accessFlags := 0, nameIndex := 269, descriptorIndex := 270, attributes := #[] }, { accessFlags := 0, nameIndex := 108, descriptorIndex := 81, attributes := #[] }, { accessFlags := 2, nameIndex := 80, descriptorIndex := 81, attributes := #[] }, { accessFlags := 2, nameIndex := 169, descriptorIndex := 81, attributes := #[] }, { accessFlags := 2, nameIndex := 187, descriptorIndex := 81, attributes := #[] }, { accessFlags := 2, nameIndex := 66, descriptorIndex := 67, attributes := #[] }, { accessFlags := 2, nameIndex := 198, descriptorIndex := 199, attributes := #[] }, { accessFlags := 2, nameIndex := 195, descriptorIndex := 93, attributes := #[] }, { accessFlags := 2, nameIndex := 204, descriptorIndex := 93, attributes := #[] }, { accessFlags := 2, nameIndex := 274, descriptorIndex := 123, attributes := #[] }, { accessFlags := 2, nameIndex := 128, descriptorIndex := 123, attributes := #[] }, { accessFlags := 2, nameIndex := 212, descriptorIndex := 213, attributes := #[] }, { accessFlags := 2, nameIndex := 219, descriptorIndex := 220, attributes := #[] }] 48 2 #[] #[{ accessFlags := 24, nameIndex := 250, descriptorIndex := 12, attributes := #[] }, { accessFlags := 26, nameIndex := 253, descriptorIndex := 12, attributes := #[] }, { accessFlags := 26, nameIndex := 255, descriptorIndex := 12, attributes := #[] }, { accessFlags := 26, nameIndex := 257, descriptorIndex := 12, attributes := #[] }, { accessFlags := 26, nameIndex := 259, descriptorIndex := 19, attributes := #[] }, { accessFlags := 26, nameIndex := 260, descriptorIndex := 19, attributes := #[] }, { accessFlags := 26, nameIndex := 261, descriptorIndex := 19, attributes := #[] }, { accessFlags := 18, nameIndex := 15, descriptorIndex := 12, attributes := #[] }, { accessFlags := 18, nameIndex := 18, descriptorIndex := 19, attributes := #[] }, { accessFlags := 18, nameIndex := 22, descriptorIndex := 19, attributes := #[] }, { accessFlags := 2, nameIndex := 25, descriptorIndex := 19, attributes := #[] }, { accessFlags := 2, nameIndex := 28, descriptorIndex := 12, attributes := #[] }, { accessFlags := 2, nameIndex := 31, descriptorIndex := 12, attributes := #[] }, { accessFlags := 2, nameIndex := 11, descriptorIndex := 12, attributes := #[] }, { accessFlags := 2, nameIndex := 34, descriptorIndex := 35, attributes := #[] }, { accessFlags := 2, nameIndex := 38, descriptorIndex := 35, attributes := #[] }, { accessFlags := 2, nameIndex := 41, descriptorIndex := 42, attributes := #[] }, { accessFlags := 2, nameIndex := 45, descriptorIndex := 46, attributes := #[] }, { accessFlags := 2, nameIndex := 49, descriptorIndex := 46, attributes := #[] }, { accessFlags := 2, nameIndex := 62, descriptorIndex := 63, attributes := #[] }, { accessFlags := 2, nameIndex := 111, descriptorIndex := 63, attributes := #[] }, { accessFlags := 2, nameIndex := 77, descriptorIndex := 63, attributes := #[] }])
  fields := #[{ name := "MORE_SLOTS", type := .int, accessFlags := 24, slot := 0, constantValue := 0 }, { name := "NONE", type := .int, accessFlags := 26, slot := 1, constantValue := 0 }, { name := "FREED", type := .int, accessFlags := 26, slot := 2, constantValue := 0 }, { name := "HEAD", type := .int, accessFlags := 26, slot := 3, constantValue := 0 }, { name := "JOIN_SHARE", type := .double, accessFlags := 26, slot := 4, constantValue := 0 }, { name := "SPLIT_GAIN", type := .double, accessFlags := 26, slot := 5, constantValue := 0 }, { name := "LEAST_SPLIT_SHARE", type := .double, accessFlags := 26, slot := 6, constantValue := 0 }, { name := "maxBuckets", type := .int, accessFlags := 18, slot := 0, constantValue := 0 }, { name := "n", type := .double, accessFlags := 18, slot := 1, constantValue := 0 }, { name := "smallestMagnitude", type := .double, accessFlags := 18, slot := 2, constantValue := 0 }, { name := "splitFactor", type := .double, accessFlags := 2, slot := 3, constantValue := 0 }, { name := "size", type := .int, accessFlags := 2, slot := 4, constantValue := 0 }, { name := "slots", type := .int, accessFlags := 2, slot := 5, constantValue := 0 }, { name := "freeSlot", type := .int, accessFlags := 2, slot := 6, constantValue := 0 }, { name := "upper", type := (.array .double), accessFlags := 2, slot := 7, constantValue := 0 }, { name := "count", type := (.array .double), accessFlags := 2, slot := 8, constantValue := 0 }, { name := "guarded", type := (.array .boolean), accessFlags := 2, slot := 9, constantValue := 0 }, { name := "previous", type := (.array .int), accessFlags := 2, slot := 10, constantValue := 0 }, { name := "next", type := (.array .int), accessFlags := 2, slot := 11, constantValue := 0 }, { name := "joins", type := (.object "com/example/rankfold/rankfold/summaries/Tournament"), accessFlags := 2, slot := 12, constantValue := 0 }, { name := "splits", type := (.object "com/example/rankfold/rankfold/summaries/Tournament"), accessFlags := 2, slot := 13, constantValue := 0 }, { name := "anyJoins", type := (.object "com/example/rankfold/rankfold/summaries/Tournament"), accessFlags := 2, slot := 14, constantValue := 0 }]
  methods := #[k2m0, k2m1, k2m2, k2m3, k2m4, k2m5, k2m6, k2m7, k2m8, k2m9, k2m10, k2m11, k2m12, k2m13]
  instanceTypes := #[.int, .double, .double, .double, .int, .int, .int, (.array .double), (.array .double), (.array .boolean), (.array .int), (.array .int), (.object "com/example/rankfold/rankfold/summaries/Tournament"), (.object "com/example/rankfold/rankfold/summaries/Tournament"), (.object "com/example/rankfold/rankfold/summaries/Tournament")]
  staticTypes := #[.int, .int, .int, .int, .double, .double, .double]
  resolved := Array.replicate 299 none
  callSites := [(0, 141, .makes 22), (0, 147, .makes 23), (2, 40, .makes 24), (2, 46, .makes 25)]
  statics := none }

def pool3 : Array CpInfo := pool [(1, .methodref 2 3), (0, .class_ 4), (0, .nameAndType 5 6), (0, u "java/lang/Object"), (0, u "<init>"), (0, u "()V"), (0, .fieldref 8 9), (0, .class_ 10), (0, .nameAndType 11 12), (0, u "com/example/rankfold/rankfold/summaries/Tournament"), (0, u "largestFirst"), (0, u "Z"), (0, .fieldref 8 14), (0, .nameAndType 15 16), (0, u "keyOf"), (0, u "Ljava/util/function/IntToDoubleFunction;"), (0, .fieldref 8 18), (0, .nameAndType 19 16), (0, u "order"), (0, .fieldref 8 21), (0, .nameAndType 22 23), (0, u "capacity"), (0, u "I"), (2, .fieldref 8 27), (0, .nameAndType 28 29), (0, u "members"), (0, u "[J"), (0, .fieldref 8 31), (0, .nameAndType 32 23), (0, u "size"), (0, .fieldref 8 34), (0, .nameAndType 35 36), (0, u "firsts"), (0, u "[I"), (0, .methodref 8 38), (0, .nameAndType 39 40), (0, u "contains"), (0, u "(I)Z"), (0, .fieldref 8 42), (0, .nameAndType 43 12), (0, u "planted"), (0, .methodref 8 45), (0, .nameAndType 46 47), (0, u "update"), (0, u "(I)V"), (0, .long 18446744073709551615), (9, u "plant"), (0, .methodref 60 61), (0, .class_ 62), (0, .nameAndType 63 64), (0, u "java/lang/Math"), (0, u "max"), (0, u "(II)I"), (0, .fieldref 8 66), (0, .nameAndType 67 23), (0, u "blocks"), (0, .fieldref 8 69), (0, .nameAndType 70 71), (0, u "firstKeys"), (0, u "[D"), (0, .methodref 8 73), (0, .nameAndType 74 47), (0, u "scan"), (3, .interfaceMethodref 79 80), (0, .class_ 81), (0, .nameAndType 82 83), (0, u "java/util/function/IntToDoubleFunction"), (0, u "applyAsDouble"), (0, u "(I)D"), (0, .methodref 8 85), (0, .nameAndType 86 87), (0, u "isBefore"), (0, u "(IDID)Z"), (1, .class_ 91), (1, u "java/lang/Double"), (2, .long 16), (1, .methodref 60 97), (0, .nameAndType 98 99), (0, u "min"), (0, u "(JJ)J"), (0, .methodref 89 101), (0, .nameAndType 102 103), (0, u "isNaN"), (0, u "(D)Z"), (0, u "NONE"), (2, u "BLOCK"), (1, u "(ZILjava/util/function/IntToDoubleFunction;Ljava/util/function/IntToDoubleFunction;)V"), (2, u "()I"), (1, u "first"), (0, u "put"), (0, u "remove")] 4

def k3c0 : Code := { maxStack := 3, maxLocals := 5, code := prog_86_method_1_code, exceptionTable := #[], attributes := #[] }
def k3m0 : Method := { name := "<init>", desc := "(ZILjava/util/function/IntToDoubleFunction;Ljava/util/function/IntToDoubleFunction;)V", sig := { parameters := [.boolean, .int, (.object "java/util/function/IntToDoubleFunction"), (.object "java/util/function/IntToDoubleFunction")], returnType := none }, accessFlags := 0, code := some k3c0 }
def k3c1 : Code := { maxStack := 5, maxLocals := 2, code := prog_86_method_3_code, exceptionTable := #[], attributes := #[] }
def k3m1 : Method := { name := "contains", desc := "(I)Z", sig := { parameters := [.int], returnType := some .boolean }, accessFlags := 0, code := some k3c1 }
def k3c2 : Code := { maxStack := 2, maxLocals := 1, code := prog_86_method_4_code, exceptionTable := #[], attributes := #[] }
def k3m2 : Method := { name := "first", desc := "()I", sig := { parameters := [], returnType := some .int }, accessFlags := 0, code := some k3c2 }
def k3c3 : Code := { maxStack := 7, maxLocals := 2, code := prog_86_method_5_code, exceptionTable := #[], attributes := #[] }
def k3m3 : Method := { name := "put", desc := "(I)V", sig := { parameters := [.int], returnType := none }, accessFlags := 0, code := some k3c3 }
def k3c4 : Code := { maxStack := 8, maxLocals := 2, code := prog_86_method_6_code, exceptionTable := #[], attributes := #[] }
def k3m4 : Method := { name := "remove", desc := "(I)V", sig := { parameters := [.int], returnType := none }, accessFlags := 0, code := some k3c4 }
def k3c5 : Code := { maxStack := 4, maxLocals := 2, code := prog_86_method_9_code, exceptionTable := #[], attributes := #[] }
def k3m5 : Method := { name := "plant", desc := "()V", sig := { parameters := [], returnType := none }, accessFlags := 0, code := some k3c5 }
def k3c6 : Code := { maxStack := 7, maxLocals := 6, code := prog_86_method_10_code, exceptionTable := #[], attributes := #[] }
def k3m6 : Method := { name := "update", desc := "(I)V", sig := { parameters := [.int], returnType := none }, accessFlags := 2, code := some k3c6 }
def k3c7 : Code := { maxStack := 7, maxLocals := 9, code := prog_86_method_11_code, exceptionTable := #[], attributes := #[] }
def k3m7 : Method := { name := "scan", desc := "(I)V", sig := { parameters := [.int], returnType := none }, accessFlags := 2, code := some k3c7 }
def k3c8 : Code := { maxStack := 4, maxLocals := 8, code := prog_86_method_13_code, exceptionTable := #[], attributes := #[] }
def k3m8 : Method := { name := "isBefore", desc := "(IDID)Z", sig := { parameters := [.int, .double, .int, .double], returnType := some .boolean }, accessFlags := 2, code := some k3c8 }
/-- com/example/rankfold/rankfold/summaries/Tournament -/
def k3 : Class := { plain "com/example/rankfold/rankfold/summaries/Tournament" (some 0) with
  accessFlags := 48
  interfaces := #[]
  cf := some (fileOf pool3 8 #[] #[{ accessFlags := 0, nameIndex := 5, descriptorIndex := 109, attributes := #[] }, { accessFlags := 0, nameIndex := 39, descriptorIndex := 40, attributes := #[] }, { accessFlags := 0, nameIndex := 114, descriptorIndex := 112, attributes := #[] }, { accessFlags := 0, nameIndex := 115, descriptorIndex := 47, attributes := #[] }, { accessFlags := 0, nameIndex := 116, descriptorIndex := 47, attributes := #[] }, { accessFlags := 0, nameIndex := 58, descriptorIndex := 6, attributes := #[] }, { accessFlags := 2, nameIndex := 46, descriptorIndex := 47, attributes := #[] }, { accessFlags := 2, nameIndex := 74, descriptorIndex := 47, attributes := #[] }, { accessFlags := 2, nameIndex := 86, descriptorIndex := 87, attributes := #[] }] 48 2 #[] #[{ accessFlags := 24, nameIndex := 104, descriptorIndex := 23, attributes := #[] }, { accessFlags := 26, nameIndex := 107, descriptorIndex := 23, attributes := #[] }, { accessFlags := 18, nameIndex := 11, descriptorIndex := 12, attributes := #[] }, { accessFlags := 18, nameIndex := 15, descriptorIndex := 16, attributes := #[] }, { accessFlags := 18, nameIndex := 19, descriptorIndex := 16, attributes := #[] }, { accessFlags := 2, nameIndex := 22, descriptorIndex := 23, attributes := #[] }, { accessFlags := 2, nameIndex := 28, descriptorIndex := 29, attributes := #[] }, { accessFlags := 2, nameIndex := 32, descriptorIndex := 23, attributes := #[] }, { accessFlags := 2, nameIndex := 67, descriptorIndex := 23, attributes := #[] }, { accessFlags := 2, nameIndex := 35, descriptorIndex := 36, attributes := #[] }, { accessFlags := 2, nameIndex := 70, descriptorIndex := 71, attributes := #[] }, { accessFlags := 2, nameIndex := 43, descriptorIndex := 12, attributes := #[] }])
  fields := #[{ name := "NONE", type := .int, accessFlags := 24, slot := 0, constantValue := 0 }, { name := "BLOCK", type := .int, accessFlags := 26, slot := 1, constantValue := 0 }, { name := "largestFirst", type := .boolean, accessFlags := 18, slot := 0, constantValue := 0 }, { name := "keyOf", type := (.object "java/util/function/IntToDoubleFunction"), accessFlags := 18, slot := 1, constantValue := 0 }, { name := "order", type := (.object "java/util/function/IntToDoubleFunction"), accessFlags := 18, slot := 2, constantValue := 0 }, { name := "capacity", type := .int, accessFlags := 2, slot := 3, constantValue := 0 }, { name := "members", type := (.array .long), accessFlags := 2, slot := 4, constantValue := 0 }, { name := "size", type := .int, accessFlags := 2, slot := 5, constantValue := 0 }, { name := "blocks", type := .int, accessFlags := 2, slot := 6, constantValue := 0 }, { name := "firsts", type := (.array .int), accessFlags := 2, slot := 7, constantValue := 0 }, { name := "firstKeys", type := (.array .double), accessFlags := 2, slot := 8, constantValue := 0 }, { name := "planted", type := .boolean, accessFlags := 2, slot := 9, constantValue := 0 }]
  methods := #[k3m0, k3m1, k3m2, k3m3, k3m4, k3m5, k3m6, k3m7, k3m8]
  instanceTypes := #[.boolean, (.object "java/util/function/IntToDoubleFunction"), (.object "java/util/function/IntToDoubleFunction"), .int, (.array .long), .int, .int, (.array .int), (.array .double), .boolean]
  staticTypes := #[.int, .int]
  resolved := Array.replicate 121 none
  statics := none }

def pool4 : Array CpInfo := pool [(1, .class_ 2), (0, u "java/util/function/IntToDoubleFunction"), (0, .class_ 4), (0, u "java/lang/Object"), (0, u "applyAsDouble"), (0, u "(I)D")] 4

def k4m0 : Method := { name := "applyAsDouble", desc := "(I)D", sig := { parameters := [.int], returnType := some .double }, accessFlags := 1025, code := none }
/-- java/util/function/IntToDoubleFunction -/
def k4 : Class := { plain "java/util/function/IntToDoubleFunction" (some 0) with
  accessFlags := 1537
  interfaces := #[]
  cf := some (fileOf pool4 1 #[] #[{ accessFlags := 1025, nameIndex := 5, descriptorIndex := 6, attributes := #[] }] 1537 3 #[] #[])
  fields := #[]
  methods := #[k4m0]
  instanceTypes := #[]
  staticTypes := #[]
  resolved := Array.replicate 11 none
  statics := none }

def pool5 : Array CpInfo := pool [(1, .class_ 2), (0, u "java/lang/Math"), (1, .class_ 6), (1, u "java/lang/Object"), (0, u "<init>"), (0, u "()V"), (5, u "(D)D"), (37, u "(DD)D"), (45, .class_ 100), (1, u "java/lang/Math$RandomNumberGeneratorHolder"), (20, u "(JJ)J"), (2, u "abs"), (47, u "negativeZeroFloatBits"), (0, u "J"), (2, u "negativeZeroDoubleBits"), (21, u "max"), (2, u "min"), (43, u "$assertionsDisabled"), (0, u "Z"), (88, u "(II)I"), (2, u "twoToTheDoubleScaleDown"), (0, u "D"), (4, u "twoToTheDoubleScaleUp"), (9, u "E"), (3, u "PI"), (2, u "TAU"), (2, u "DEGREES_TO_RADIANS"), (0, u "RADIANS_TO_DEGREES")] 94

def k5m0 : Method := { name := "<init>", desc := "()V", sig := { parameters := [], returnType := none }, accessFlags := 2, code := none }
def k5c1 : Code := { maxStack := 4, maxLocals := 2, code := jdk_29_method_64_code, exceptionTable := #[], attributes := #[] }
def k5m1 : Method := { name := "abs", desc := "(D)D", sig := { parameters := [.double], returnType := some .double }, accessFlags := 9, code := some k5c1 }
def k5c2 : Code := { maxStack := 2, maxLocals := 2, code := jdk_29_method_65_code, exceptionTable := #[], attributes := #[] }
def k5m2 : Method := { name := "max", desc := "(II)I", sig := { parameters := [.int, .int], returnType := some .int }, accessFlags := 9, code := some k5c2 }
def k5c3 : Code := { maxStack := 4, maxLocals := 4, code := jdk_29_method_68_code, exceptionTable := #[], attributes := #[] }
def k5m3 : Method := { name := "max", desc := "(DD)D", sig := { parameters := [.double, .double], returnType := some .double }, accessFlags := 9, code := some k5c3 }
def k5c4 : Code := { maxStack := 4, maxLocals := 4, code := jdk_29_method_70_code, exceptionTable := #[], attributes := #[] }
def k5m4 : Method := { name := "min", desc := "(JJ)J", sig := { parameters := [.long, .long], returnType := some .long }, accessFlags := 9, code := some k5c4 }
def k5c5 : Code := { maxStack := 4, maxLocals := 4, code := jdk_29_method_72_code, exceptionTable := #[], attributes := #[] }
def k5m5 : Method := { name := "min", desc := "(DD)D", sig := { parameters := [.double, .double], returnType := some .double }, accessFlags := 9, code := some k5c5 }
/-- java/lang/Math -/
def k5 : Class := { plain "java/lang/Math" (some 0) with
  accessFlags := 49
  interfaces := #[]
  cf := some (fileOf pool5 1 #[.nestMembers #[98]] #[{ accessFlags := 2, nameIndex := 7, descriptorIndex := 8, attributes := #[] }, { accessFlags := 9, nameIndex := 124, descriptorIndex := 14, attributes := #[] }, { accessFlags := 9, nameIndex := 198, descriptorIndex := 335, attributes := #[] }, { accessFlags := 9, nameIndex := 198, descriptorIndex := 52, attributes := #[] }, { accessFlags := 9, nameIndex := 201, descriptorIndex := 121, attributes := #[] }, { accessFlags := 9, nameIndex := 201, descriptorIndex := 52, attributes := #[] }] 49 4 #[] #[{ accessFlags := 25, nameIndex := 354, descriptorIndex := 339, attributes := #[] }, { accessFlags := 25, nameIndex := 358, descriptorIndex := 339, attributes := #[] }, { accessFlags := 25, nameIndex := 361, descriptorIndex := 339, attributes := #[] }, { accessFlags := 26, nameIndex := 364, descriptorIndex := 339, attributes := #[] }, { accessFlags := 26, nameIndex := 365, descriptorIndex := 339, attributes := #[] }, { accessFlags := 26, nameIndex := 172, descriptorIndex := 173, attributes := #[] }, { accessFlags := 26, nameIndex := 176, descriptorIndex := 173, attributes := #[] }, { accessFlags := 8, nameIndex := 344, descriptorIndex := 339, attributes := #[] }, { accessFlags := 8, nameIndex := 338, descriptorIndex := 339, attributes := #[] }, { accessFlags := 4120, nameIndex := 245, descriptorIndex := 246, attributes := #[] }])
  fields := #[{ name := "E", type := .double, accessFlags := 25, slot := 0, constantValue := 0 }, { name := "PI", type := .double, accessFlags := 25, slot := 1, constantValue := 0 }, { name := "TAU", type := .double, accessFlags := 25, slot := 2, constantValue := 0 }, { name := "DEGREES_TO_RADIANS", type := .double, accessFlags := 26, slot := 3, constantValue := 0 }, { name := "RADIANS_TO_DEGREES", type := .double, accessFlags := 26, slot := 4, constantValue := 0 }, { name := "negativeZeroFloatBits", type := .long, accessFlags := 26, slot := 5, constantValue := 0 }, { name := "negativeZeroDoubleBits", type := .long, accessFlags := 26, slot := 6, constantValue := 0 }, { name := "twoToTheDoubleScaleUp", type := .double, accessFlags := 8, slot := 7, constantValue := 0 }, { name := "twoToTheDoubleScaleDown", type := .double, accessFlags := 8, slot := 8, constantValue := 0 }, { name := "$assertionsDisabled", type := .boolean, accessFlags := 4120, slot := 9, constantValue := 0 }]
  methods := #[k5m0, k5m1, k5m2, k5m3, k5m4, k5m5]
  instanceTypes := #[]
  staticTypes := #[.double, .double, .double, .double, .double, .long, .long, .double, .double, .boolean]
  resolved := Array.replicate 460 none
  statics := none }

def pool6 : Array CpInfo := pool [(4, .class_ 6), (1, u "com/example/rankfold/rankfold/summaries/SplineCurve"), (3, .class_ 12), (1, u "java/lang/Object"), (3, u "size"), (0, u "I"), (2, u "thresholds"), (0, u "[D"), (2, u "prefix"), (2, u "smallestMagnitude"), (0, u "D"), (0, .methodref 30 31), (0, .class_ 32), (0, .nameAndType 33 34), (0, u "java/lang/Math"), (0, u "min"), (0, u "(DD)D"), (0, .methodref 30 36), (0, .nameAndType 37 38), (0, u "abs"), (0, u "(D)D"), (0, .methodref 30 40), (0, .nameAndType 41 34), (0, u "max"), (0, .methodref 4 43), (0, .nameAndType 44 34), (0, u "span"), (0, .double 4487126258331716666), (3, u "isPoint"), (0, u "(DDD)Z"), (0, .double 9209861237972664319), (34, u "LEAST_RELATIVE_LENGTH"), (1, u "LONGEST_SPAN"), (0, u "MOST_SLOPE_RATIO")] 10

def k6c0 : Code := { maxStack := 6, maxLocals := 8, code := prog_81_method_4_code, exceptionTable := #[], attributes := #[] }
def k6m0 : Method := { name := "isPoint", desc := "(DDD)Z", sig := { parameters := [.double, .double, .double], returnType := some .boolean }, accessFlags := 8, code := some k6c0 }
def k6c1 : Code := { maxStack := 4, maxLocals := 4, code := prog_81_method_6_code, exceptionTable := #[], attributes := #[] }
def k6m1 : Method := { name := "span", desc := "(DD)D", sig := { parameters := [.double, .double], returnType := some .double }, accessFlags := 8, code := some k6c1 }
/-- com/example/rankfold/rankfold/summaries/SplineCurve -/
def k6 : Class := { plain "com/example/rankfold/rankfold/summaries/SplineCurve" (some 0) with
  accessFlags := 48
  interfaces := #[]
  cf := some (fileOf pool6 4 #[] #[{ accessFlags := 8, nameIndex := 49, descriptorIndex := 50, attributes := #[] }, { accessFlags := 8, nameIndex := 44, descriptorIndex := 34, attributes := #[] }] 48 10 #[] #[{ accessFlags := 24, nameIndex := 86, descriptorIndex := 28, attributes := #[] }, { accessFlags := 26, nameIndex := 88, descriptorIndex := 28, attributes := #[] }, { accessFlags := 26, nameIndex := 89, descriptorIndex := 28, attributes := #[] }, { accessFlags := 18, nameIndex := 16, descriptorIndex := 17, attributes := #[] }, { accessFlags := 18, nameIndex := 20, descriptorIndex := 21, attributes := #[] }, { accessFlags := 18, nameIndex := 24, descriptorIndex := 21, attributes := #[] }, { accessFlags := 18, nameIndex := 27, descriptorIndex := 28, attributes := #[] }])
  fields := #[{ name := "LEAST_RELATIVE_LENGTH", type := .double, accessFlags := 24, slot := 0, constantValue := 0 }, { name := "LONGEST_SPAN", type := .double, accessFlags := 26, slot := 1, constantValue := 0 }, { name := "MOST_SLOPE_RATIO", type := .double, accessFlags := 26, slot := 2, constantValue := 0 }, { name := "size", type := .int, accessFlags := 18, slot := 0, constantValue := 0 }, { name := "thresholds", type := (.array .double), accessFlags := 18, slot := 1, constantValue := 0 }, { name := "prefix", type := (.array .double), accessFlags := 18, slot := 2, constantValue := 0 }, { name := "smallestMagnitude", type := .double, accessFlags := 18, slot := 3, constantValue := 0 }]
  methods := #[k6m0, k6m1]
  instanceTypes := #[.int, (.array .double), (.array .double), .double]
  staticTypes := #[.double, .double, .double]
  resolved := Array.replicate 100 none
  statics := none }

def pool7 : Array CpInfo := pool [(1, .class_ 2), (0, u "java/io/Serializable"), (0, .class_ 4), (0, u "java/lang/Object")] 2

/-- java/io/Serializable -/
def k7 : Class := { plain "java/io/Serializable" (some 0) with
  accessFlags := 1537
  interfaces := #[]
  cf := some (fileOf pool7 1 #[] #[] 1537 3 #[] #[])
  fields := #[]
  methods := #[]
  instanceTypes := #[]
  staticTypes := #[]
  resolved := Array.replicate 7 none
  statics := none }

def pool8 : Array CpInfo := pool [(2, .class_ 4), (1, u "java/lang/Object"), (0, u "<init>"), (0, u "()V"), (1, .class_ 10), (1, u "java/lang/Number"), (2, .class_ 14), (0, u "java/io/Serializable"), (0, u "serialVersionUID"), (0, u "J")] 20

def k8m0 : Method := { name := "<init>", desc := "()V", sig := { parameters := [], returnType := none }, accessFlags := 1, code := none }
/-- java/lang/Number -/
def k8 : Class := { plain "java/lang/Number" (some 0) with
  accessFlags := 1057
  interfaces := #[7]
  cf := some (fileOf pool8 8 #[] #[{ accessFlags := 1, nameIndex := 5, descriptorIndex := 6, attributes := #[] }] 1057 2 #[13] #[{ accessFlags := 26, nameIndex := 15, descriptorIndex := 16, attributes := #[] }])
  fields := #[{ name := "serialVersionUID", type := .long, accessFlags := 26, slot := 0, constantValue := 0 }]
  methods := #[k8m0]
  instanceTypes := #[]
  staticTypes := #[.long]
  resolved := Array.replicate 37 none
  statics := none }

def pool9 : Array CpInfo := pool [(1, .class_ 2), (0, u "java/lang/Comparable"), (0, .class_ 4), (0, u "java/lang/Object")] 7

/-- java/lang/Comparable -/
def k9 : Class := { plain "java/lang/Comparable" (some 0) with
  accessFlags := 1537
  interfaces := #[]
  cf := some (fileOf pool9 1 #[] #[] 1537 3 #[] #[])
  fields := #[]
  methods := #[]
  instanceTypes := #[]
  staticTypes := #[]
  resolved := Array.replicate 12 none
  statics := none }

def pool10 : Array CpInfo := pool [(1, .class_ 2), (0, u "java/lang/constant/Constable"), (0, .class_ 4), (0, u "java/lang/Object")] 6

/-- java/lang/constant/Constable -/
def k10 : Class := { plain "java/lang/constant/Constable" (some 0) with
  accessFlags := 1537
  interfaces := #[]
  cf := some (fileOf pool10 1 #[] #[] 1537 3 #[] #[])
  fields := #[]
  methods := #[]
  instanceTypes := #[]
  staticTypes := #[]
  resolved := Array.replicate 11 none
  statics := none }

def pool11 : Array CpInfo := pool [(1, .class_ 2), (0, u "java/lang/constant/ConstantDesc"), (0, .class_ 4), (0, u "java/lang/Object")] 32

/-- java/lang/constant/ConstantDesc -/
def k11 : Class := { plain "java/lang/constant/ConstantDesc" (some 0) with
  accessFlags := 1537
  interfaces := #[]
  cf := some (fileOf pool11 1 #[] #[] 1537 3 #[] #[])
  fields := #[]
  methods := #[]
  instanceTypes := #[]
  staticTypes := #[]
  resolved := Array.replicate 37 none
  statics := none }

def pool12 : Array CpInfo := pool [(1, .class_ 2), (0, u "java/lang/Double"), (11, u "(D)Z"), (99, .class_ 116), (1, u "java/lang/Number"), (3, u "value"), (0, u "D"), (2, u "isNaN"), (48, u "TYPE"), (0, u "Ljava/lang/Class;"), (0, .class_ 176), (0, u "java/lang/Comparable"), (0, .class_ 178), (0, u "java/lang/constant/Constable"), (0, .class_ 180), (0, u "java/lang/constant/ConstantDesc"), (0, u "POSITIVE_INFINITY"), (3, u "NEGATIVE_INFINITY"), (2, u "NaN"), (2, u "MAX_VALUE"), (0, u "MIN_NORMAL"), (0, u "MIN_VALUE"), (2, u "SIZE"), (0, u "I"), (1, u "PRECISION"), (1, u "MAX_EXPONENT"), (1, u "MIN_EXPONENT"), (1, u "BYTES"), (3, u "serialVersionUID"), (0, u "J")] 79

def k12c0 : Code := { maxStack := 4, maxLocals := 2, code := jdk_117_method_6_code, exceptionTable := #[], attributes := #[] }
def k12m0 : Method := { name := "isNaN", desc := "(D)Z", sig := { parameters := [.double], returnType := some .boolean }, accessFlags := 9, code := some k12c0 }
/-- java/lang/Double -/
def k12 : Class := { plain "java/lang/Double" (some 8) with
  accessFlags := 49
  interfaces := #[9, 10, 11]
  cf := some (fileOf pool12 1 #[] #[{ accessFlags := 9, nameIndex := 124, descriptorIndex := 14, attributes := #[] }] 49 114 #[175, 177, 179] #[{ accessFlags := 25, nameIndex := 181, descriptorIndex := 121, attributes := #[] }, { accessFlags := 25, nameIndex := 185, descriptorIndex := 121, attributes := #[] }, { accessFlags := 25, nameIndex := 188, descriptorIndex := 121, attributes := #[] }, { accessFlags := 25, nameIndex := 191, descriptorIndex := 121, attributes := #[] }, { accessFlags := 25, nameIndex := 192, descriptorIndex := 121, attributes := #[] }, { accessFlags := 25, nameIndex := 193, descriptorIndex := 121, attributes := #[] }, { accessFlags := 25, nameIndex := 196, descriptorIndex := 197, attributes := #[] }, { accessFlags := 25, nameIndex := 199, descriptorIndex := 197, attributes := #[] }, { accessFlags := 25, nameIndex := 201, descriptorIndex := 197, attributes := #[] }, { accessFlags := 25, nameIndex := 203, descriptorIndex := 197, attributes := #[] }, { accessFlags := 25, nameIndex := 205, descriptorIndex := 197, attributes := #[] }, { accessFlags := 25, nameIndex := 173, descriptorIndex := 174, attributes := #[] }, { accessFlags := 18, nameIndex := 120, descriptorIndex := 121, attributes := #[] }, { accessFlags := 26, nameIndex := 209, descriptorIndex := 210, attributes := #[] }])
  fields := #[{ name := "POSITIVE_INFINITY", type := .double, accessFlags := 25, slot := 0, constantValue := 0 }, { name := "NEGATIVE_INFINITY", type := .double, accessFlags := 25, slot := 1, constantValue := 0 }, { name := "NaN", type := .double, accessFlags := 25, slot := 2, constantValue := 0 }, { name := "MAX_VALUE", type := .double, accessFlags := 25, slot := 3, constantValue := 0 }, { name := "MIN_NORMAL", type := .double, accessFlags := 25, slot := 4, constantValue := 0 }, { name := "MIN_VALUE", type := .double, accessFlags := 25, slot := 5, constantValue := 0 }, { name := "SIZE", type := .int, accessFlags := 25, slot := 6, constantValue := 0 }, { name := "PRECISION", type := .int, accessFlags := 25, slot := 7, constantValue := 0 }, { name := "MAX_EXPONENT", type := .int, accessFlags := 25, slot := 8, constantValue := 0 }, { name := "MIN_EXPONENT", type := .int, accessFlags := 25, slot := 9, constantValue := 0 }, { name := "BYTES", type := .int, accessFlags := 25, slot := 10, constantValue := 0 }, { name := "TYPE", type := (.object "java/lang/Class"), accessFlags := 25, slot := 11, constantValue := 0 }, { name := "value", type := .double, accessFlags := 18, slot := 0, constantValue := 0 }, { name := "serialVersionUID", type := .long, accessFlags := 26, slot := 12, constantValue := 0 }]
  methods := #[k12m0]
  instanceTypes := #[.double]
  staticTypes := #[.double, .double, .double, .double, .double, .double, .int, .int, .int, .int, .int, (.object "java/lang/Class"), .long]
  resolved := Array.replicate 290 none
  statics := none }

def pool13 : Array CpInfo := pool [(1, u "java/lang/Cloneable"), (0, .class_ 1), (0, u "java/lang/Object"), (0, .class_ 3)] 3

/-- java/lang/Cloneable -/
def k13 : Class := { plain "java/lang/Cloneable" (some 0) with
  accessFlags := 1537
  interfaces := #[]
  cf := some (fileOf pool13 2 #[] #[] 1537 4 #[] #[])
  fields := #[]
  methods := #[]
  instanceTypes := #[]
  staticTypes := #[]
  resolved := Array.replicate 8 none
  statics := none }

/-- the primitive boolean -/
def k14 : Class := { plain "boolean" none with kind := .primitive 'Z', accessFlags := 0x411 }
/-- [Z -/
def k15 : Class := { plain "[Z" (some 0) with kind := .array 14 .boolean, interfaces := #[13, 7], accessFlags := 1041 }

/-- the primitive byte -/
def k16 : Class := { plain "byte" none with kind := .primitive 'B', accessFlags := 0x411 }
/-- [B -/
def k17 : Class := { plain "[B" (some 0) with kind := .array 16 .byte, interfaces := #[13, 7], accessFlags := 1041 }

/-- the primitive int -/
def k18 : Class := { plain "int" none with kind := .primitive 'I', accessFlags := 0x411 }
/-- [I -/
def k19 : Class := { plain "[I" (some 0) with kind := .array 18 .int, interfaces := #[13, 7], accessFlags := 1041 }

/-- the primitive long -/
def k20 : Class := { plain "long" none with kind := .primitive 'J', accessFlags := 0x411 }
/-- [J -/
def k21 : Class := { plain "[J" (some 0) with kind := .array 20 .long, interfaces := #[13, 7], accessFlags := 1041 }

def classes0 : Array Class := #[k0, k1, k2, k3, k4, k5, k6, k7, k8, k9, k10, k11, k12, k13, k14, k15, k16, k17, k18, k19, k20, k21]
/-- the class that the rule has made for the site at 141 of com/example/rankfold/rankfold/summaries/BucketEditor.<init> -/
def k22 : Class := Jvm.LamKit.madeRec { classes := classes0 } "com/example/rankfold/rankfold/summaries/BucketEditor" (Jvm.Lambda.Shape.mk "java/util/function/IntToDoubleFunction" "applyAsDouble" (Jvm.ClassFile.MethodDescriptor.mk ([Jvm.ClassFile.FieldType.int] : List Jvm.ClassFile.FieldType) (Option.some Jvm.ClassFile.FieldType.double)) ([(Jvm.ClassFile.FieldType.object "com/example/rankfold/rankfold/summaries/BucketEditor")] : List Jvm.ClassFile.FieldType) (5 : Nat) "com/example/rankfold/rankfold/summaries/BucketEditor" "joinedError" (Jvm.ClassFile.MethodDescriptor.mk ([Jvm.ClassFile.FieldType.int] : List Jvm.ClassFile.FieldType) (Option.some Jvm.ClassFile.FieldType.double)) false (Jvm.ClassFile.MethodDescriptor.mk ([Jvm.ClassFile.FieldType.int] : List Jvm.ClassFile.FieldType) (Option.some Jvm.ClassFile.FieldType.double))) 22

/-- the class that the rule has made for the site at 147 of com/example/rankfold/rankfold/summaries/BucketEditor.<init> -/
def k23 : Class := Jvm.LamKit.madeRec { classes := classes0 } "com/example/rankfold/rankfold/summaries/BucketEditor" (Jvm.Lambda.Shape.mk "java/util/function/IntToDoubleFunction" "applyAsDouble" (Jvm.ClassFile.MethodDescriptor.mk ([Jvm.ClassFile.FieldType.int] : List Jvm.ClassFile.FieldType) (Option.some Jvm.ClassFile.FieldType.double)) ([(Jvm.ClassFile.FieldType.object "com/example/rankfold/rankfold/summaries/BucketEditor")] : List Jvm.ClassFile.FieldType) (5 : Nat) "com/example/rankfold/rankfold/summaries/BucketEditor" "threshold" (Jvm.ClassFile.MethodDescriptor.mk ([Jvm.ClassFile.FieldType.int] : List Jvm.ClassFile.FieldType) (Option.some Jvm.ClassFile.FieldType.double)) false (Jvm.ClassFile.MethodDescriptor.mk ([Jvm.ClassFile.FieldType.int] : List Jvm.ClassFile.FieldType) (Option.some Jvm.ClassFile.FieldType.double))) 23

/-- the class that the rule has made for the site at 40 of com/example/rankfold/rankfold/summaries/BucketEditor.joinDownTo -/
def k24 : Class := Jvm.LamKit.madeRec { classes := classes0 } "com/example/rankfold/rankfold/summaries/BucketEditor" (Jvm.Lambda.Shape.mk "java/util/function/IntToDoubleFunction" "applyAsDouble" (Jvm.ClassFile.MethodDescriptor.mk ([Jvm.ClassFile.FieldType.int] : List Jvm.ClassFile.FieldType) (Option.some Jvm.ClassFile.FieldType.double)) ([(Jvm.ClassFile.FieldType.object "com/example/rankfold/rankfold/summaries/BucketEditor")] : List Jvm.ClassFile.FieldType) (5 : Nat) "com/example/rankfold/rankfold/summaries/BucketEditor" "joinedError" (Jvm.ClassFile.MethodDescriptor.mk ([Jvm.ClassFile.FieldType.int] : List Jvm.ClassFile.FieldType) (Option.some Jvm.ClassFile.FieldType.double)) false (Jvm.ClassFile.MethodDescriptor.mk ([Jvm.ClassFile.FieldType.int] : List Jvm.ClassFile.FieldType) (Option.some Jvm.ClassFile.FieldType.double))) 24

/-- the class that the rule has made for the site at 46 of com/example/rankfold/rankfold/summaries/BucketEditor.joinDownTo -/
def k25 : Class := Jvm.LamKit.madeRec { classes := classes0 } "com/example/rankfold/rankfold/summaries/BucketEditor" (Jvm.Lambda.Shape.mk "java/util/function/IntToDoubleFunction" "applyAsDouble" (Jvm.ClassFile.MethodDescriptor.mk ([Jvm.ClassFile.FieldType.int] : List Jvm.ClassFile.FieldType) (Option.some Jvm.ClassFile.FieldType.double)) ([(Jvm.ClassFile.FieldType.object "com/example/rankfold/rankfold/summaries/BucketEditor")] : List Jvm.ClassFile.FieldType) (5 : Nat) "com/example/rankfold/rankfold/summaries/BucketEditor" "threshold" (Jvm.ClassFile.MethodDescriptor.mk ([Jvm.ClassFile.FieldType.int] : List Jvm.ClassFile.FieldType) (Option.some Jvm.ClassFile.FieldType.double)) false (Jvm.ClassFile.MethodDescriptor.mk ([Jvm.ClassFile.FieldType.int] : List Jvm.ClassFile.FieldType) (Option.some Jvm.ClassFile.FieldType.double))) 25

def heap : Heap := #[]
/-- the primitive double -/
def k26 : Class := { plain "double" none with kind := .primitive 'D', accessFlags := 0x411 }
/-- [D -/
def k27 : Class := { plain "[D" (some 0) with kind := .array 26 .double, interfaces := #[13, 7], accessFlags := 1041 }
def classes : Array Class := #[k0, k1, k2, k3, k4, k5, k6, k7, k8, k9, k10, k11, k12, k13, k14, k15, k16, k17, k18, k19, k20, k21, k22, k23, k24, k25, k26, k27]
def interned : List (Array UInt16 × Addr) := []
def slotsUsed : Nat := 0
def theMethod : MethodId := ⟨1, 1⟩
def args0 : Array Value := #[.int 5, .int 7, .int 3, .int 9, .int 1]
def aboutOver (below : List Frame) : State where
  vm := { classes := classes, interned := interned.toArray }
  heap := heap
  slotsUsed := slotsUsed
  threads := #[{ frames := .invoking theMethod args0 :: below }]
def below0 : List Frame := [.native { method := ⟨0, 0⟩, args := #[] }]
def about1 : State := aboutOver below0
def p0 : Program := .bare "" "" ""
def e0 : Env := launch0.env 0 0 0
theorem w_frames : about1.frames = Frame.invoking theMethod args0 :: below0 := rfl
set_option maxRecDepth 65536 in
theorem w_args : argsFit about1.vm theMethod args0 = true := by decide +kernel
set_option maxRecDepth 65536 in
theorem w_heap : heapFits about1 = true := by decide +kernel
set_option maxRecDepth 65536 in
theorem w_runnable : about1.curStatus? = some .runnable := by decide +kernel
set_option maxRecDepth 65536 in
theorem w_alone : about1.alone = true := by decide +kernel
set_option maxRecDepth 65536 in
theorem w_named : about1.methodNamed? x = some theMethod := by decide +kernel
set_option maxRecDepth 65536 in
theorem w_hears : about1.hears theMethod below0 = true := by decide +kernel
set_option maxRecDepth 65536 in
theorem w_ripe : about1.ripe theMethod args0 below0 = true := by decide +kernel
theorem w_running : about1.status = .running := rfl
set_option maxRecDepth 65536 in
theorem w_room : about1.hasRoom e0.platform room_1 = true :=
  launch0.hasRoom_least _ room_1 (by decide +kernel) (by decide +kernel) (by decide +kernel) (by decide +kernel) (by decide +kernel) (by decide +kernel)
theorem allAtoms_all (ts : List Jvm.Cond) (a : Array Jvm.Value) (st : Jvm.State) : (allAtoms ts).before a st = ts.all (fun c => c.before a st) := by
  induction ts with
  | nil => rfl
  | cons c t ih =>
    show (Jvm.Cond.and c (allAtoms t)).before a st = _
    rw [Jvm.Cond.before_and, ih, List.all_cons]
def words1 : List Jvm.Cond := Jvm.Cond.code x code maxLocals ret :: tables_1
/-- a 'code' word, met by the world's own term for the bytes: nothing is compared byte by byte -/
theorem code_word {y : MethodName} {bytes : ByteArray} {mx : Nat} {rt : Option FieldType} {a : Array Value} {s : State} {m : MethodId} {meth : Method} {c : Code} (h1 : s.methodNamed? y = some m) (h2 : s.vm.method? m = some meth) (h3 : meth.code = some c) (h4 : c.code = bytes)
    (h5 : (c.maxLocals == mx && c.exceptionTable.isEmpty && decide (c.maxStack ≤ mostOperands) && decide (meth.sig.returnType = rt) && !meth.locks && decide (parseMethodDescriptor y.desc = some meth.sig)) = true) : (Jvm.Cond.code y bytes mx rt).before a s = true := by
  simp only [Bool.and_eq_true, beq_iff_eq, Bool.not_eq_true', decide_eq_true_eq] at h5
  obtain ⟨⟨⟨⟨⟨g1, g2⟩, g3⟩, g4⟩, g5⟩, g6⟩ := h5
  simp [Cond.before, Cond.holds, Cond.value, h1, h2, h3, h4, g1, g2, g3, g4, g5, g6]
def isCode : Jvm.Cond → Bool
  | .code _ _ _ _ => true
  | _ => false
theorem all_split {L : List Jvm.Cond} {P : Jvm.Cond → Bool} (h1 : L.all (fun c => isCode c || P c) = true) (h2 : ∀ c ∈ L.filter isCode, P c = true) : L.all P = true := by
  refine List.all_eq_true.mpr fun c hc => ?_
  have h := List.all_eq_true.mp h1 c hc
  rcases Bool.eq_false_or_eq_true (isCode c) with hi | hi
  · exact h2 c (List.mem_filter.mpr ⟨hc, hi⟩)
  · simpa [hi] using h
set_option maxRecDepth 65536 in
theorem w_c0 : (Jvm.Cond.code x code maxLocals ret).before args0 about1 = true := code_word (m := ⟨1, 1⟩) (meth := k1m1) (c := k1c1) (by decide +kernel) rfl rfl rfl (by decide +kernel)
set_option maxRecDepth 65536 in
theorem w_c1 : (Jvm.Cond.code ({ cls := "com/example/rankfold/rankfold/summaries/BucketEditor", name := "<init>", desc := "([D[D[ZIIJDD)V" } : Jvm.MethodName) prog_72_method_1_code (14 : Nat) (Option.none : Option Jvm.ClassFile.FieldType)).before args0 about1 = true := code_word (m := ⟨2, 0⟩) (meth := k2m0) (c := k2c0) (by decide +kernel) rfl rfl rfl (by decide +kernel)
set_option maxRecDepth 65536 in
theorem w_c2 : (Jvm.Cond.code ({ cls := "java/lang/Object", name := "<init>", desc := "()V" } : Jvm.MethodName) object_method_1_code (1 : Nat) (Option.none : Option Jvm.ClassFile.FieldType)).before args0 about1 = true := code_word (m := ⟨0, 0⟩) (meth := k0m0) (c := k0c0) (by decide +kernel) rfl rfl rfl (by decide +kernel)
set_option maxRecDepth 65536 in
theorem w_c3 : (Jvm.Cond.code ({ cls := "com/example/rankfold/rankfold/summaries/Tournament", name := "<init>", desc := "(ZILjava/util/function/IntToDoubleFunction;Ljava/util/function/IntToDoubleFunction;)V" } : Jvm.MethodName) prog_86_method_1_code (5 : Nat) (Option.none : Option Jvm.ClassFile.FieldType)).before args0 about1 = true := code_word (m := ⟨3, 0⟩) (meth := k3m0) (c := k3c0) (by decide +kernel) rfl rfl rfl (by decide +kernel)
set_option maxRecDepth 65536 in
theorem w_c4 : (Jvm.Cond.code ({ cls := "com/example/rankfold/rankfold/summaries/BucketEditor", name := "offerPair", desc := "(ILcom/example/rankfold/rankfold/summaries/Tournament;Z)V" } : Jvm.MethodName) prog_72_method_16_code (4 : Nat) (Option.none : Option Jvm.ClassFile.FieldType)).before args0 about1 = true := code_word (m := ⟨2, 6⟩) (meth := k2m6) (c := k2c6) (by decide +kernel) rfl rfl rfl (by decide +kernel)
set_option maxRecDepth 65536 in
theorem w_c5 : (Jvm.Cond.code ({ cls := "com/example/rankfold/rankfold/summaries/Tournament", name := "remove", desc := "(I)V" } : Jvm.MethodName) prog_86_method_6_code (2 : Nat) (Option.none : Option Jvm.ClassFile.FieldType)).before args0 about1 = true := code_word (m := ⟨3, 4⟩) (meth := k3m4) (c := k3c4) (by decide +kernel) rfl rfl rfl (by decide +kernel)
set_option maxRecDepth 65536 in
theorem w_c6 : (Jvm.Cond.code ({ cls := "com/example/rankfold/rankfold/summaries/Tournament", name := "contains", desc := "(I)Z" } : Jvm.MethodName) prog_86_method_3_code (2 : Nat) (Option.some Jvm.ClassFile.FieldType.boolean)).before args0 about1 = true := code_word (m := ⟨3, 1⟩) (meth := k3m1) (c := k3c1) (by decide +kernel) rfl rfl rfl (by decide +kernel)
set_option maxRecDepth 65536 in
theorem w_c7 : (Jvm.Cond.code ({ cls := "com/example/rankfold/rankfold/summaries/Tournament", name := "plant", desc := "()V" } : Jvm.MethodName) prog_86_method_9_code (2 : Nat) (Option.none : Option Jvm.ClassFile.FieldType)).before args0 about1 = true := code_word (m := ⟨3, 5⟩) (meth := k3m5) (c := k3c5) (by decide +kernel) rfl rfl rfl (by decide +kernel)
set_option maxRecDepth 65536 in
theorem w_c8 : (Jvm.Cond.code ({ cls := "java/lang/Math", name := "max", desc := "(II)I" } : Jvm.MethodName) jdk_29_method_65_code (2 : Nat) (Option.some Jvm.ClassFile.FieldType.int)).before args0 about1 = true := code_word (m := ⟨5, 2⟩) (meth := k5m2) (c := k5c2) (by decide +kernel) rfl rfl rfl (by decide +kernel)
set_option maxRecDepth 65536 in
theorem w_c9 : (Jvm.Cond.code ({ cls := "com/example/rankfold/rankfold/summaries/Tournament", name := "scan", desc := "(I)V" } : Jvm.MethodName) prog_86_method_11_code (9 : Nat) (Option.none : Option Jvm.ClassFile.FieldType)).before args0 about1 = true := code_word (m := ⟨3, 7⟩) (meth := k3m7) (c := k3c7) (by decide +kernel) rfl rfl rfl (by decide +kernel)
set_option maxRecDepth 65536 in
theorem w_c10 : (Jvm.Cond.code ({ cls := "java/lang/Math", name := "min", desc := "(JJ)J" } : Jvm.MethodName) jdk_29_method_70_code (4 : Nat) (Option.some Jvm.ClassFile.FieldType.long)).before args0 about1 = true := code_word (m := ⟨5, 4⟩) (meth := k5m4) (c := k5c4) (by decide +kernel) rfl rfl rfl (by decide +kernel)
set_option maxRecDepth 65536 in
theorem w_c11 : (Jvm.Cond.code ({ cls := "com/example/rankfold/rankfold/summaries/BucketEditor", name := "write", desc := "([D[D[Z)I" } : Jvm.MethodName) prog_72_method_3_code (6 : Nat) (Option.some Jvm.ClassFile.FieldType.int)).before args0 about1 = true := code_word (m := ⟨2, 1⟩) (meth := k2m1) (c := k2c1) (by decide +kernel) rfl rfl rfl (by decide +kernel)
set_option maxRecDepth 65536 in
theorem w_c12 : (Jvm.Cond.code ({ cls := "com/example/rankfold/rankfold/summaries/BucketEditorWritePinLaw", name := "slot", desc := "([D[D[ZIIDIZ)Z" } : Jvm.MethodName) method_3_code (9 : Nat) (Option.some Jvm.ClassFile.FieldType.boolean)).before args0 about1 = true := code_word (m := ⟨1, 2⟩) (meth := k1m2) (c := k1c2) (by decide +kernel) rfl rfl rfl (by decide +kernel)
set_option maxRecDepth 65536 in
theorem w_c13 : (Jvm.Cond.code ({ cls := "com/example/rankfold/rankfold/summaries/BucketEditor", name := "isJoinable", desc := "(I)Z" } : Jvm.MethodName) prog_72_method_20_code (2 : Nat) (Option.some Jvm.ClassFile.FieldType.boolean)).before args0 about1 = true := code_word (m := ⟨2, 8⟩) (meth := k2m8) (c := k2c8) (by decide +kernel) rfl rfl rfl (by decide +kernel)
set_option maxRecDepth 65536 in
theorem w_c14 : (Jvm.Cond.code ({ cls := "com/example/rankfold/rankfold/summaries/BucketEditor", name := "splitBound", desc := "()D" } : Jvm.MethodName) prog_72_method_18_code (1 : Nat) (Option.some Jvm.ClassFile.FieldType.double)).before args0 about1 = true := code_word (m := ⟨2, 7⟩) (meth := k2m7) (c := k2c7) (by decide +kernel) rfl rfl rfl (by decide +kernel)
set_option maxRecDepth 65536 in
theorem w_c15 : (Jvm.Cond.code ({ cls := "com/example/rankfold/rankfold/summaries/Tournament", name := "put", desc := "(I)V" } : Jvm.MethodName) prog_86_method_5_code (2 : Nat) (Option.none : Option Jvm.ClassFile.FieldType)).before args0 about1 = true := code_word (m := ⟨3, 3⟩) (meth := k3m3) (c := k3c3) (by decide +kernel) rfl rfl rfl (by decide +kernel)
set_option maxRecDepth 65536 in
theorem w_c16 : (Jvm.Cond.code ({ cls := "com/example/rankfold/rankfold/summaries/BucketEditor", name := "joinedError", desc := "(I)D" } : Jvm.MethodName) prog_72_method_25_code (3 : Nat) (Option.some Jvm.ClassFile.FieldType.double)).before args0 about1 = true := code_word (m := ⟨2, 11⟩) (meth := k2m11) (c := k2c11) (by decide +kernel) rfl rfl rfl (by decide +kernel)
set_option maxRecDepth 65536 in
theorem w_c17 : (Jvm.Cond.code ({ cls := "com/example/rankfold/rankfold/summaries/BucketEditor", name := "errorOf", desc := "(DDDII)D" } : Jvm.MethodName) prog_72_method_26_code (11 : Nat) (Option.some Jvm.ClassFile.FieldType.double)).before args0 about1 = true := code_word (m := ⟨2, 12⟩) (meth := k2m12) (c := k2c12) (by decide +kernel) rfl rfl rfl (by decide +kernel)
set_option maxRecDepth 65536 in
theorem w_c18 : (Jvm.Cond.code ({ cls := "com/example/rankfold/rankfold/summaries/SplineCurve", name := "span", desc := "(DD)D" } : Jvm.MethodName) prog_81_method_6_code (4 : Nat) (Option.some Jvm.ClassFile.FieldType.double)).before args0 about1 = true := code_word (m := ⟨6, 1⟩) (meth := k6m1) (c := k6c1) (by decide +kernel) rfl rfl rfl (by decide +kernel)
set_option maxRecDepth 65536 in
theorem w_c19 : (Jvm.Cond.code ({ cls := "java/lang/Math", name := "min", desc := "(DD)D" } : Jvm.MethodName) jdk_29_method_72_code (4 : Nat) (Option.some Jvm.ClassFile.FieldType.double)).before args0 about1 = true := code_word (m := ⟨5, 5⟩) (meth := k5m5) (c := k5c5) (by decide +kernel) rfl rfl rfl (by decide +kernel)
set_option maxRecDepth 65536 in
theorem w_c20 : (Jvm.Cond.code ({ cls := "com/example/rankfold/rankfold/summaries/BucketEditor", name := "sideError", desc := "(DDI)D" } : Jvm.MethodName) prog_72_method_27_code (12 : Nat) (Option.some Jvm.ClassFile.FieldType.double)).before args0 about1 = true := code_word (m := ⟨2, 13⟩) (meth := k2m13) (c := k2c13) (by decide +kernel) rfl rfl rfl (by decide +kernel)
set_option maxRecDepth 65536 in
theorem w_c21 : (Jvm.Cond.code ({ cls := "com/example/rankfold/rankfold/summaries/BucketEditor", name := "isPoint", desc := "(I)Z" } : Jvm.MethodName) prog_72_method_22_code (2 : Nat) (Option.some Jvm.ClassFile.FieldType.boolean)).before args0 about1 = true := code_word (m := ⟨2, 9⟩) (meth := k2m9) (c := k2c9) (by decide +kernel) rfl rfl rfl (by decide +kernel)
set_option maxRecDepth 65536 in
theorem w_c22 : (Jvm.Cond.code ({ cls := "java/lang/Math", name := "abs", desc := "(D)D" } : Jvm.MethodName) jdk_29_method_64_code (2 : Nat) (Option.some Jvm.ClassFile.FieldType.double)).before args0 about1 = true := code_word (m := ⟨5, 1⟩) (meth := k5m1) (c := k5c1) (by decide +kernel) rfl rfl rfl (by decide +kernel)
set_option maxRecDepth 65536 in
theorem w_c23 : (Jvm.Cond.code ({ cls := "com/example/rankfold/rankfold/summaries/SplineCurve", name := "isPoint", desc := "(DDD)Z" } : Jvm.MethodName) prog_81_method_4_code (8 : Nat) (Option.some Jvm.ClassFile.FieldType.boolean)).before args0 about1 = true := code_word (m := ⟨6, 0⟩) (meth := k6m0) (c := k6c0) (by decide +kernel) rfl rfl rfl (by decide +kernel)
set_option maxRecDepth 65536 in
theorem w_c24 : (Jvm.Cond.code ({ cls := "java/lang/Math", name := "max", desc := "(DD)D" } : Jvm.MethodName) jdk_29_method_68_code (4 : Nat) (Option.some Jvm.ClassFile.FieldType.double)).before args0 about1 = true := code_word (m := ⟨5, 3⟩) (meth := k5m3) (c := k5c3) (by decide +kernel) rfl rfl rfl (by decide +kernel)
set_option maxRecDepth 65536 in
theorem w_c25 : (Jvm.Cond.code ({ cls := "com/example/rankfold/rankfold/summaries/Tournament", name := "isBefore", desc := "(IDID)Z" } : Jvm.MethodName) prog_86_method_13_code (8 : Nat) (Option.some Jvm.ClassFile.FieldType.boolean)).before args0 about1 = true := code_word (m := ⟨3, 8⟩) (meth := k3m8) (c := k3c8) (by decide +kernel) rfl rfl rfl (by decide +kernel)
set_option maxRecDepth 65536 in
theorem w_c26 : (Jvm.Cond.code ({ cls := "com/example/rankfold/rankfold/summaries/BucketEditor", name := "joinDownTo", desc := "(I)V" } : Jvm.MethodName) prog_72_method_5_code (4 : Nat) (Option.none : Option Jvm.ClassFile.FieldType)).before args0 about1 = true := code_word (m := ⟨2, 2⟩) (meth := k2m2) (c := k2c2) (by decide +kernel) rfl rfl rfl (by decide +kernel)
set_option maxRecDepth 65536 in
theorem w_c27 : (Jvm.Cond.code ({ cls := "com/example/rankfold/rankfold/summaries/Tournament", name := "first", desc := "()I" } : Jvm.MethodName) prog_86_method_4_code (1 : Nat) (Option.some Jvm.ClassFile.FieldType.int)).before args0 about1 = true := code_word (m := ⟨3, 2⟩) (meth := k3m2) (c := k3c2) (by decide +kernel) rfl rfl rfl (by decide +kernel)
set_option maxRecDepth 65536 in
theorem w_c28 : (Jvm.Cond.code ({ cls := "com/example/rankfold/rankfold/summaries/BucketEditor", name := "join", desc := "(I)V" } : Jvm.MethodName) prog_72_method_10_code (4 : Nat) (Option.none : Option Jvm.ClassFile.FieldType)).before args0 about1 = true := code_word (m := ⟨2, 3⟩) (meth := k2m3) (c := k2c3) (by decide +kernel) rfl rfl rfl (by decide +kernel)
set_option maxRecDepth 65536 in
theorem w_c29 : (Jvm.Cond.code ({ cls := "com/example/rankfold/rankfold/summaries/Tournament", name := "update", desc := "(I)V" } : Jvm.MethodName) prog_86_method_10_code (6 : Nat) (Option.none : Option Jvm.ClassFile.FieldType)).before args0 about1 = true := code_word (m := ⟨3, 6⟩) (meth := k3m6) (c := k3c6) (by decide +kernel) rfl rfl rfl (by decide +kernel)
set_option maxRecDepth 65536 in
theorem w_c30 : (Jvm.Cond.code ({ cls := "com/example/rankfold/rankfold/summaries/BucketEditor", name := "refreshAround", desc := "(I)V" } : Jvm.MethodName) prog_72_method_13_code (5 : Nat) (Option.none : Option Jvm.ClassFile.FieldType)).before args0 about1 = true := code_word (m := ⟨2, 4⟩) (meth := k2m4) (c := k2c4) (by decide +kernel) rfl rfl rfl (by decide +kernel)
set_option maxRecDepth 65536 in
theorem w_c31 : (Jvm.Cond.code ({ cls := "com/example/rankfold/rankfold/summaries/BucketEditor", name := "offer", desc := "(I)V" } : Jvm.MethodName) prog_72_method_14_code (2 : Nat) (Option.none : Option Jvm.ClassFile.FieldType)).before args0 about1 = true := code_word (m := ⟨2, 5⟩) (meth := k2m5) (c := k2c5) (by decide +kernel) rfl rfl rfl (by decide +kernel)
set_option maxRecDepth 65536 in
theorem w_c32 : (Jvm.Cond.code ({ cls := "java/lang/Double", name := "isNaN", desc := "(D)Z" } : Jvm.MethodName) jdk_117_method_6_code (2 : Nat) (Option.some Jvm.ClassFile.FieldType.boolean)).before args0 about1 = true := code_word (m := ⟨12, 0⟩) (meth := k12m0) (c := k12c0) (by decide +kernel) rfl rfl rfl (by decide +kernel)
set_option maxRecDepth 65536 in
theorem w_c33 : (Jvm.Cond.code ({ cls := "com/example/rankfold/rankfold/summaries/BucketEditor", name := "threshold", desc := "(I)D" } : Jvm.MethodName) prog_72_method_23_code (2 : Nat) (Option.some Jvm.ClassFile.FieldType.double)).before args0 about1 = true := code_word (m := ⟨2, 10⟩) (meth := k2m10) (c := k2c10) (by decide +kernel) rfl rfl rfl (by decide +kernel)
def codes1 : List Jvm.Cond := [Jvm.Cond.code x code maxLocals ret, Jvm.Cond.code ({ cls := "com/example/rankfold/rankfold/summaries/BucketEditor", name := "<init>", desc := "([D[D[ZIIJDD)V" } : Jvm.MethodName) prog_72_method_1_code (14 : Nat) (Option.none : Option Jvm.ClassFile.FieldType), Jvm.Cond.code ({ cls := "java/lang/Object", name := "<init>", desc := "()V" } : Jvm.MethodName) object_method_1_code (1 : Nat) (Option.none : Option Jvm.ClassFile.FieldType), Jvm.Cond.code ({ cls := "com/example/rankfold/rankfold/summaries/Tournament", name := "<init>", desc := "(ZILjava/util/function/IntToDoubleFunction;Ljava/util/function/IntToDoubleFunction;)V" } : Jvm.MethodName) prog_86_method_1_code (5 : Nat) (Option.none : Option Jvm.ClassFile.FieldType), Jvm.Cond.code ({ cls := "com/example/rankfold/rankfold/summaries/BucketEditor", name := "offerPair", desc := "(ILcom/example/rankfold/rankfold/summaries/Tournament;Z)V" } : Jvm.MethodName) prog_72_method_16_code (4 : Nat) (Option.none : Option Jvm.ClassFile.FieldType), Jvm.Cond.code ({ cls := "com/example/rankfold/rankfold/summaries/Tournament", name := "remove", desc := "(I)V" } : Jvm.MethodName) prog_86_method_6_code (2 : Nat) (Option.none : Option Jvm.ClassFile.FieldType), Jvm.Cond.code ({ cls := "com/example/rankfold/rankfold/summaries/Tournament", name := "contains", desc := "(I)Z" } : Jvm.MethodName) prog_86_method_3_code (2 : Nat) (Option.some Jvm.ClassFile.FieldType.boolean), Jvm.Cond.code ({ cls := "com/example/rankfold/rankfold/summaries/Tournament", name := "plant", desc := "()V" } : Jvm.MethodName) prog_86_method_9_code (2 : Nat) (Option.none : Option Jvm.ClassFile.FieldType), Jvm.Cond.code ({ cls := "java/lang/Math", name := "max", desc := "(II)I" } : Jvm.MethodName) jdk_29_method_65_code (2 : Nat) (Option.some Jvm.ClassFile.FieldType.int), Jvm.Cond.code ({ cls := "com/example/rankfold/rankfold/summaries/Tournament", name := "scan", desc := "(I)V" } : Jvm.MethodName) prog_86_method_11_code (9 : Nat) (Option.none : Option Jvm.ClassFile.FieldType), Jvm.Cond.code ({ cls := "java/lang/Math", name := "min", desc := "(JJ)J" } : Jvm.MethodName) jdk_29_method_70_code (4 : Nat) (Option.some Jvm.ClassFile.FieldType.long), Jvm.Cond.code ({ cls := "com/example/rankfold/rankfold/summaries/BucketEditor", name := "write", desc := "([D[D[Z)I" } : Jvm.MethodName) prog_72_method_3_code (6 : Nat) (Option.some Jvm.ClassFile.FieldType.int), Jvm.Cond.code ({ cls := "com/example/rankfold/rankfold/summaries/BucketEditorWritePinLaw", name := "slot", desc := "([D[D[ZIIDIZ)Z" } : Jvm.MethodName) method_3_code (9 : Nat) (Option.some Jvm.ClassFile.FieldType.boolean), Jvm.Cond.code ({ cls := "com/example/rankfold/rankfold/summaries/BucketEditor", name := "isJoinable", desc := "(I)Z" } : Jvm.MethodName) prog_72_method_20_code (2 : Nat) (Option.some Jvm.ClassFile.FieldType.boolean), Jvm.Cond.code ({ cls := "com/example/rankfold/rankfold/summaries/BucketEditor", name := "splitBound", desc := "()D" } : Jvm.MethodName) prog_72_method_18_code (1 : Nat) (Option.some Jvm.ClassFile.FieldType.double), Jvm.Cond.code ({ cls := "com/example/rankfold/rankfold/summaries/Tournament", name := "put", desc := "(I)V" } : Jvm.MethodName) prog_86_method_5_code (2 : Nat) (Option.none : Option Jvm.ClassFile.FieldType), Jvm.Cond.code ({ cls := "com/example/rankfold/rankfold/summaries/BucketEditor", name := "joinedError", desc := "(I)D" } : Jvm.MethodName) prog_72_method_25_code (3 : Nat) (Option.some Jvm.ClassFile.FieldType.double), Jvm.Cond.code ({ cls := "com/example/rankfold/rankfold/summaries/BucketEditor", name := "errorOf", desc := "(DDDII)D" } : Jvm.MethodName) prog_72_method_26_code (11 : Nat) (Option.some Jvm.ClassFile.FieldType.double), Jvm.Cond.code ({ cls := "com/example/rankfold/rankfold/summaries/SplineCurve", name := "span", desc := "(DD)D" } : Jvm.MethodName) prog_81_method_6_code (4 : Nat) (Option.some Jvm.ClassFile.FieldType.double), Jvm.Cond.code ({ cls := "java/lang/Math", name := "min", desc := "(DD)D" } : Jvm.MethodName) jdk_29_method_72_code (4 : Nat) (Option.some Jvm.ClassFile.FieldType.double), Jvm.Cond.code ({ cls := "com/example/rankfold/rankfold/summaries/BucketEditor", name := "sideError", desc := "(DDI)D" } : Jvm.MethodName) prog_72_method_27_code (12 : Nat) (Option.some Jvm.ClassFile.FieldType.double), Jvm.Cond.code ({ cls := "com/example/rankfold/rankfold/summaries/BucketEditor", name := "isPoint", desc := "(I)Z" } : Jvm.MethodName) prog_72_method_22_code (2 : Nat) (Option.some Jvm.ClassFile.FieldType.boolean), Jvm.Cond.code ({ cls := "java/lang/Math", name := "abs", desc := "(D)D" } : Jvm.MethodName) jdk_29_method_64_code (2 : Nat) (Option.some Jvm.ClassFile.FieldType.double), Jvm.Cond.code ({ cls := "com/example/rankfold/rankfold/summaries/SplineCurve", name := "isPoint", desc := "(DDD)Z" } : Jvm.MethodName) prog_81_method_4_code (8 : Nat) (Option.some Jvm.ClassFile.FieldType.boolean), Jvm.Cond.code ({ cls := "java/lang/Math", name := "max", desc := "(DD)D" } : Jvm.MethodName) jdk_29_method_68_code (4 : Nat) (Option.some Jvm.ClassFile.FieldType.double), Jvm.Cond.code ({ cls := "com/example/rankfold/rankfold/summaries/Tournament", name := "isBefore", desc := "(IDID)Z" } : Jvm.MethodName) prog_86_method_13_code (8 : Nat) (Option.some Jvm.ClassFile.FieldType.boolean), Jvm.Cond.code ({ cls := "com/example/rankfold/rankfold/summaries/BucketEditor", name := "joinDownTo", desc := "(I)V" } : Jvm.MethodName) prog_72_method_5_code (4 : Nat) (Option.none : Option Jvm.ClassFile.FieldType), Jvm.Cond.code ({ cls := "com/example/rankfold/rankfold/summaries/Tournament", name := "first", desc := "()I" } : Jvm.MethodName) prog_86_method_4_code (1 : Nat) (Option.some Jvm.ClassFile.FieldType.int), Jvm.Cond.code ({ cls := "com/example/rankfold/rankfold/summaries/BucketEditor", name := "join", desc := "(I)V" } : Jvm.MethodName) prog_72_method_10_code (4 : Nat) (Option.none : Option Jvm.ClassFile.FieldType), Jvm.Cond.code ({ cls := "com/example/rankfold/rankfold/summaries/Tournament", name := "update", desc := "(I)V" } : Jvm.MethodName) prog_86_method_10_code (6 : Nat) (Option.none : Option Jvm.ClassFile.FieldType), Jvm.Cond.code ({ cls := "com/example/rankfold/rankfold/summaries/BucketEditor", name := "refreshAround", desc := "(I)V" } : Jvm.MethodName) prog_72_method_13_code (5 : Nat) (Option.none : Option Jvm.ClassFile.FieldType), Jvm.Cond.code ({ cls := "com/example/rankfold/rankfold/summaries/BucketEditor", name := "offer", desc := "(I)V" } : Jvm.MethodName) prog_72_method_14_code (2 : Nat) (Option.none : Option Jvm.ClassFile.FieldType), Jvm.Cond.code ({ cls := "java/lang/Double", name := "isNaN", desc := "(D)Z" } : Jvm.MethodName) jdk_117_method_6_code (2 : Nat) (Option.some Jvm.ClassFile.FieldType.boolean), Jvm.Cond.code ({ cls := "com/example/rankfold/rankfold/summaries/BucketEditor", name := "threshold", desc := "(I)D" } : Jvm.MethodName) prog_72_method_23_code (2 : Nat) (Option.some Jvm.ClassFile.FieldType.double)]
set_option maxRecDepth 65536 in
theorem codes_eq : words1.filter isCode = codes1 := rfl
theorem w_codes : ∀ c ∈ words1.filter isCode, c.before args0 about1 = true := by
  rw [codes_eq]
  intro c hc
  simp only [codes1, List.mem_cons, List.not_mem_nil, or_false] at hc
  rcases hc with rfl | rfl | rfl | rfl | rfl | rfl | rfl | rfl | rfl | rfl | rfl | rfl | rfl | rfl | rfl | rfl | rfl | rfl | rfl | rfl | rfl | rfl | rfl | rfl | rfl | rfl | rfl | rfl | rfl | rfl | rfl | rfl | rfl | rfl
  · exact w_c0
  · exact w_c1
  · exact w_c2
  · exact w_c3
  · exact w_c4
  · exact w_c5
  · exact w_c6
  · exact w_c7
  · exact w_c8
  · exact w_c9
  · exact w_c10
  · exact w_c11
  · exact w_c12
  · exact w_c13
  · exact w_c14
  · exact w_c15
  · exact w_c16
  · exact w_c17
  · exact w_c18
  · exact w_c19
  · exact w_c20
  · exact w_c21
  · exact w_c22
  · exact w_c23
  · exact w_c24
  · exact w_c25
  · exact w_c26
  · exact w_c27
  · exact w_c28
  · exact w_c29
  · exact w_c30
  · exact w_c31
  · exact w_c32
  · exact w_c33
set_option maxRecDepth 65536 in
theorem w_t1 : (words1.take 24).all (fun c => isCode c || c.before args0 about1) = true := by decide +kernel
set_option maxRecDepth 65536 in
theorem w_t2 : ((words1.drop 24).take 24).all (fun c => isCode c || c.before args0 about1) = true := by decide +kernel
set_option maxRecDepth 65536 in
theorem w_t3 : (((words1.drop 24).drop 24).take 24).all (fun c => isCode c || c.before args0 about1) = true := by decide +kernel
set_option maxRecDepth 65536 in
theorem w_t4 : ((((words1.drop 24).drop 24).drop 24).take 24).all (fun c => isCode c || c.before args0 about1) = true := by decide +kernel
set_option maxRecDepth 65536 in
theorem w_t5 : (((((words1.drop 24).drop 24).drop 24).drop 24).take 24).all (fun c => isCode c || c.before args0 about1) = true := by decide +kernel
set_option maxRecDepth 65536 in
theorem w_t6 : ((((((words1.drop 24).drop 24).drop 24).drop 24).drop 24).take 24).all (fun c => isCode c || c.before args0 about1) = true := by decide +kernel
set_option maxRecDepth 65536 in
theorem w_t7 : (((((((words1.drop 24).drop 24).drop 24).drop 24).drop 24).drop 24).take 24).all (fun c => isCode c || c.before args0 about1) = true := by decide +kernel
set_option maxRecDepth 65536 in
theorem w_t8 : ((((((((words1.drop 24).drop 24).drop 24).drop 24).drop 24).drop 24).drop 24).take 24).all (fun c => isCode c || c.before args0 about1) = true := by decide +kernel
set_option maxRecDepth 65536 in
theorem w_t9 : ((((((((words1.drop 24).drop 24).drop 24).drop 24).drop 24).drop 24).drop 24).drop 24).all (fun c => isCode c || c.before args0 about1) = true := by decide +kernel
theorem w_tables : (allAtoms (Jvm.Cond.code x code maxLocals ret :: tables_1)).before args0 about1 = true := by
  rw [allAtoms_all]
  show words1.all (fun c => c.before args0 about1) = true
  refine all_split ?_ w_codes
  rw [← List.take_append_drop 24 words1, List.all_append, w_t1, ← List.take_append_drop 24 (words1.drop 24), List.all_append, w_t2, ← List.take_append_drop 24 ((words1.drop 24).drop 24), List.all_append, w_t3, ← List.take_append_drop 24 (((words1.drop 24).drop 24).drop 24), List.all_append, w_t4, ← List.take_append_drop 24 ((((words1.drop 24).drop 24).drop 24).drop 24), List.all_append, w_t5, ← List.take_append_drop 24 (((((words1.drop 24).drop 24).drop 24).drop 24).drop 24), List.all_append, w_t6, ← List.take_append_drop 24 ((((((words1.drop 24).drop 24).drop 24).drop 24).drop 24).drop 24), List.all_append, w_t7, ← List.take_append_drop 24 (((((((words1.drop 24).drop 24).drop 24).drop 24).drop 24).drop 24).drop 24), List.all_append, w_t8, w_t9]
  rfl
set_option maxRecDepth 65536 in
theorem w_case : (Jvm.Cond.and given_1 narrow_1).before args0 about1 = true := by decide +kernel
theorem w_applies : (headSpec (Jvm.Cond.code x code maxLocals ret :: tables_1) room_1).applies x e0.platform about1 = true :=
  (Spec.applies_iff w_frames).mpr ⟨w_running, w_runnable, w_alone, w_named, w_hears, w_ripe, w_room, w_tables⟩
theorem atStart : AtStart classFile x code maxLocals ret World_1 tables_1 room_1 Calls_1 rest_1 Pre_1 launch0 p0 e0 about1 theMethod args0 below0 :=
  ⟨lists_1, trivial, launch0.admits_env _ _ _, launch0.least_env, fairChoices_fair.cas, fairChoices_fair.clock, w_frames, w_args, w_heap, w_applies, trivial, trivial, w_case⟩
end start1
theorem witness_1 : WitnessClaimed_1 := ⟨start1.p0, start1.e0, start1.about1, start1.theMethod, start1.args0, start1.below0, start1.atStart⟩
end Jvm.Pilot.@@N@@
