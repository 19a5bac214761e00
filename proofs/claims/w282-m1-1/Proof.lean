import JvmDerived
import JvmDerived.Pilot.@@N@@Statement
import JvmDerived.Pilot.@@N@@Code
set_option linter.unusedVariables false
set_option linter.unusedSimpArgs false
@@BLOCK:NumsL.lean.txt@@
namespace Jvm.Pilot.@@N@@
open Jvm Jvm.ClassFile Sem Op Lib Jvm.Free Jvm.Stand Jvm.LawKit Jvm.RoadKit Bundle Jvm.Pilot.@@N@@.Jvm.D
theorem own_w {Z : State} {a0 : Array Value} (hw : ∀ d ∈ tables_1, d.before a0 Z = true) (i : Nat) {d : Jvm.Cond} (h : tables_1[i]? = some d) : d.before a0 Z = true := hw _ (List.mem_of_getElem? h)
/-! own layer: a body's rest as one predicate (OFin), a contract (OMet), calls that give the plain facts back -/
def OFin (p : Program) (e : Env) (below : List Frame) (s : State) (kc ks : Nat) (Q : Option Value → Heap → List Loc → Prop) (S : State) : Prop :=
  ∃ s₂ o, Steps p.tables e below S s₂ ∧ s₂.status = .running ∧ Ended s₂ below o ∧ ∃ v L, o = .returned v ∧ Q v s₂.heap L ∧ FrameEnd s o s₂ L kc ks
def OMet (l : Launch) (Z : State) (y : MethodName) (bytes : ByteArray) (maxL : Nat) (ret : Option FieldType) (rm : Room) (as' : Array Value) (h0 : Heap) (Q : Option Value → Heap → List Loc → Prop) : Prop :=
  ∀ ws : List Jvm.Cond, MetFree l y (head1 (Jvm.Cond.code y bytes maxL ret :: ws) rm) (fun a U => a = as' ∧ Z.Warmed39 U.vm ∧ U.heap = h0) (fun _ _ _ _ _ => True) (fun _ U o U' => ∃ v L, o = .returned v ∧ Q v U'.heap L ∧ FrameEnd U o U' L rm.cells rm.slots)
def OCtx (Z : State) (p : Program) (s : State) (m : MethodId) (meth : Method) (c : Code) (cls nam : String) (bytes : ByteArray) (maxL : Nat) (ret : Option FieldType) : Prop :=
  p.tables.exec = Jvm.exec ∧ Z.Warmed39 s.vm ∧ c.code = bytes ∧ c.maxLocals = maxL ∧ s.vm.findClass cls = some m.cls ∧ meth.sig.returnType = ret ∧ meth.locks = false ∧ meth.name = nam
section OwnLayer
variable {p : Program} {l : Launch} {e : Env} {R : Room} {s : State} {m : MethodId} {args : Array Value} {below : List Frame} {meth : Method} {c : Code} {T : State} {locs : List Loc} {cells slots : Nat} {Z : State} {a0 : Array Value} {h : Heap}
variable {kc ks : Nat} {Q : Option Value → Heap → List Loc → Prop}
theorem own_st {A B : State} (hs : ∀ t, Steps p.tables e below B t → Steps p.tables e below A t) (k : OFin p e below s kc ks Q B) : OFin p e below s kc ks Q A := by
  obtain ⟨s₂, o, h1, r⟩ := k; exact ⟨s₂, o, hs _ h1, r⟩
theorem own_at {g g' : JFrame} (q : g = g') (k : OFin p e below s kc ks Q (T.setTop g')) : OFin p e below s kc ks Q (T.setTop g) := q ▸ k
theorem own_mono {Q' : Option Value → Heap → List Loc → Prop} {S : State} (k : OFin p e below s kc ks Q S) (q : ∀ v h L, Q v h L → Q' v h L) : OFin p e below s kc ks Q' S := by
  obtain ⟨s₂, o, h1, h2, h3, v, L, h4, h5, h6⟩ := k; exact ⟨s₂, o, h1, h2, h3, v, L, h4, q _ _ _ h5, h6⟩
theorem own_enter {y : MethodName} {bytes : ByteArray} {maxL : Nat} {ret : Option FieldType} {rm : Room} {as' : Array Value} {h0 : Heap} (hp : plainFor y = true)
    (hB : ∀ (p : Program) (e : Env) (s : State) (m : MethodId) (below : List Frame) (meth : Method) (c : Code) (T : State), Stand p l e rm s m as' below meth c T [] 0 0 → OCtx Z p s m meth c y.cls y.name bytes maxL ret → T.heap = h0 → OFin p e below s rm.cells rm.slots Q (T.setTop (entryFrame m as' maxL))) :
    OMet l Z y bytes maxL ret rm as' h0 Q := by
  intro ws
  refine MetFree.of_bodySF hp hisR ?_
  intro p e s m args below meth c s₁ Bd hml0 hP hK
  obtain ⟨rfl, hZ, hh⟩ := hP
  exact hB p e s m below meth c s₁ (Stand.of_body Bd) ⟨Bd.exec, hZ, Bd.bytes, hml0, findClass_of_methodNamed Bd.named, Bd.returns, BodyLoose.notSynchronized Bd, (name_of_methodNamed Bd.named Bd.method).1⟩ (by rw [← hh, Bd.state]; rfl)
theorem own_ret (X : Stand p l e R s m args below meth c T locs cells slots) (hx : p.tables.exec = Jvm.exec) {t : FieldType} (hret : meth.sig.returnType = some t) (hlk : meth.locks = false) {pc : Nat} {Ls : Array Slot} {w : Value} {i : Instr} {rest : List Value} (hn : narrow t w = w)
    (hi : (i = .ireturn ∧ (t = .int ∨ t = .boolean ∨ t = .byte ∨ t = .char ∨ t = .short) ∧ ∃ z, w = .int z) ∨ (i = .lreturn ∧ t = .long ∧ ∃ z, w = .long z) ∨ (i = .dreturn ∧ t = .double ∧ ∃ z, w = .double z) ∨ (i = .freturn ∧ t = .float ∧ ∃ z, w = .float z) ∨ (i = .areturn ∧ t.isReference = true ∧ w.isRef = true))
    (hd : decode c.code pc = .ok (i, 1)) (hc : cells ≤ kc) (hs : slots ≤ ks) (hq : Q (some w) T.heap locs) : OFin p e below s kc ks Q (T.setTop (mkF m pc Ls (w :: rest))) := by
  obtain ⟨fs, hr, hrun, hended, hW, hsame⟩ := X.leave (v := some w) (fun h => by rw [hret] at h; cases h) hlk
  exact ⟨_, _, retOut X hx hret hn hi hd hr, hrun, hended, _, _, rfl, hq, ⟨_, rfl⟩, hW, hsame.mono hc hs⟩
theorem own_retV (X : Stand p l e R s m args below meth c T locs cells slots) (hx : p.tables.exec = Jvm.exec) (hret : meth.sig.returnType = none) (hlk : meth.locks = false) {pc : Nat} {Ls : Array Slot}
    (hd : decode c.code pc = .ok (.return_, 1)) (hc : cells ≤ kc) (hs : slots ≤ ks) (hq : Q none T.heap locs) : OFin p e below s kc ks Q (T.setTop (mkF m pc Ls [])) := by
  obtain ⟨fs, hr, hrun, hended, hW, hsame⟩ := X.leave (v := none) (fun _ => rfl) hlk
  exact ⟨_, _, X.returnOut hx hret hd hr, hrun, hended, _, _, rfl, hq, ⟨_, rfl⟩, hW, hsame.mono hc hs⟩
theorem own_back {y : MethodName} {bytes : ByteArray} {maxL : Nat} {ret : Option FieldType} {rm : Room} {len W : Nat} {as' : Array Value} (hM : OMet l Z y bytes maxL ret rm as' h Q) (hZ : Z.Warmed39 s.vm) (wc : (Jvm.Cond.code y bytes maxL ret).before a0 Z = true) (wz : (Jvm.Cond.initialized y.cls).before a0 Z = true) (hf : rm.frames + 1 ≤ R.frames) (hl : W + (maxL + 11) + rm.locals ≤ R.locals) :
    Back l R p e below s args y len W (fun A a => a = as' ∧ A.U.heap = h ∧ A.cells + rm.cells ≤ R.cells ∧ A.slots + rm.slots ≤ R.slots)
      (fun A _ v B => ∃ L, Q v B.U.heap L ∧ B.locs = A.locs ++ L ∧ B.cells = A.cells + rm.cells ∧ B.slots = A.slots + rm.slots) := backOf (hM []) hZ wc wz hf hl
theorem own_static (X : Stand p l e R s m args below meth c T locs cells slots) (hx : p.tables.exec = Jvm.exec) (hZ : Z.Warmed39 s.vm) {own : String} {index : Nat} {y : MethodName} {bytes : ByteArray} {maxL : Nat} {ret : Option FieldType} {rm : Room} {W : Nat} {argsL rest : List Value}
    (hown : s.vm.findClass own = some m.cls) (w1 : (Jvm.Cond.methodLink own index y).before a0 Z = true) (w2 : (Jvm.Cond.static y).before a0 Z = true) (wz : (Jvm.Cond.initialized y.cls).before a0 Z = true) (wc : (Jvm.Cond.code y bytes maxL ret).before a0 Z = true)
    (hM : OMet l Z y bytes maxL ret rm argsL.toArray h Q) (eT : T.heap = h) {g : JFrame} (hg : g.method = m) (hsize : g.locals.size = c.maxLocals) (hlen : ∀ sig, parseMethodDescriptor y.desc = some sig → argsL.length = sig.parameters.length)
    (hstack : g.stack = argsL.reverse ++ rest) (hW : 2 * g.monitorRoom + (rest.map fun v => v.category).sum ≤ W) (hdg : decode c.code g.pc = .ok (.invokestatic index, 3))
    (hf : rm.frames + 1 ≤ R.frames) (hl : W + (maxL + 11) + rm.locals ≤ R.locals) (hc : cells + rm.cells ≤ R.cells) (hs : slots + rm.slots ≤ R.slots)
    (hy : y.cls ≠ "java/lang/invoke/MethodHandle" ∧ y.cls ≠ "java/lang/invoke/VarHandle" := by decide) :
    ∃ (v : Option Value) (T' : State) (L : List Loc), Stand p l e R s m args below meth c T' (locs ++ L) (cells + rm.cells) (slots + rm.slots) ∧ Q v T'.heap L ∧
      ∀ target, Steps p.tables e below (T'.setTop { g with pc := g.pc + 3, stack := v.toList ++ rest }) target → Steps p.tables e below (T.setTop g) target := by
  obtain ⟨v, vm₁, ⟨T', L', k', n'⟩, -, X', ⟨L, hQ, l1, y1, z1⟩, st⟩ := Jvm.LawKit.callS X hx hown (mvT hZ w1) (mvT hZ w2) (mvT hZ wz) (mvT hZ wc) hy (own_back (W := W) hM hZ wc wz hf hl) hg hsize hlen hstack hW hdg (fun _ _ => ⟨rfl, eT, hc, hs⟩)
  dsimp only [Pt.U, Pt.locs, Pt.cells, Pt.slots] at X' l1 y1 z1 st hQ
  subst l1 y1 z1
  exact ⟨v, T', L, X', hQ, st⟩
theorem own_init (X : Stand p l e R s m args below meth c T locs cells slots) (hx : p.tables.exec = Jvm.exec) (hZ : Z.Warmed39 s.vm) {own : String} {index : Nat} {y : MethodName} {bytes : ByteArray} {maxL : Nat} {rm : Room} {W : Nat} {a : Addr} {argsL rest : List Value} (hy1 : y.name = "<init>")
    (hown : s.vm.findClass own = some m.cls) (w1 : (Jvm.Cond.methodLink own index y).before a0 Z = true) (w2 : (Jvm.Cond.instanceMethod y).before a0 Z = true) (wz : (Jvm.Cond.initialized y.cls).before a0 Z = true) (wc : (Jvm.Cond.code y bytes maxL none).before a0 Z = true)
    (hM : OMet l Z y bytes maxL none rm (.ref a :: argsL).toArray h Q) (eT : T.heap = h) {g : JFrame} (hg : g.method = m) (hsize : g.locals.size = c.maxLocals) (hlen : ∀ sig, parseMethodDescriptor y.desc = some sig → argsL.length = sig.parameters.length)
    (hstack : g.stack = argsL.reverse ++ .ref a :: rest) (hW : 2 * g.monitorRoom + (rest.map fun v => v.category).sum ≤ W) (hdg : decode c.code g.pc = .ok (.invokespecial index, 3))
    (hf : rm.frames + 1 ≤ R.frames) (hl : W + (maxL + 11) + rm.locals ≤ R.locals) (hc : cells + rm.cells ≤ R.cells) (hs : slots + rm.slots ≤ R.slots)
    (hy : y.cls ≠ "java/lang/invoke/MethodHandle" ∧ y.cls ≠ "java/lang/invoke/VarHandle" := by decide) :
    ∃ (v : Option Value) (T' : State) (L : List Loc), Stand p l e R s m args below meth c T' (locs ++ L) (cells + rm.cells) (slots + rm.slots) ∧ Q v T'.heap L ∧
      ∀ target, Steps p.tables e below (T'.setTop { g with pc := g.pc + 3, stack := v.toList ++ rest }) target → Steps p.tables e below (T.setTop g) target := by
  obtain ⟨v, vm₁, ⟨T', L', k', n'⟩, -, X', ⟨L, hQ, l1, y1, z1⟩, st⟩ := X.specialBack hx hy1 hown (mvT hZ w1) (mvT hZ w2) (mvT hZ wc) hy (own_back (W := W) hM hZ wc wz hf hl) hg hsize (Steps.refl _) hlen hstack hW hdg (fun _ _ => ⟨rfl, eT, hc, hs⟩)
  dsimp only [Pt.U, Pt.locs, Pt.cells, Pt.slots] at X' l1 y1 z1 st hQ
  subst l1 y1 z1
  exact ⟨v, T', L, X', hQ, fun t k => st.trans k⟩
theorem own_virtual (X : Stand p l e R s m args below meth c T locs cells slots) (hx : p.tables.exec = Jvm.exec) (hZ : Z.Warmed39 s.vm) {own C : String} {index : Nat} {y z : MethodName} {bytes : ByteArray} {maxL : Nat} {ret : Option FieldType} {rm : Room} {W : Nat} {a : Addr} {argsL rest : List Value}
    (hown : s.vm.findClass own = some m.cls) (w1 : (Jvm.Cond.methodLink own index y).before a0 Z = true) (w2 : (Jvm.Cond.declares y).before a0 Z = true) (hnf : NotFace s y) (w3 : (Jvm.Cond.selects C y z).before a0 Z = true) (w4 : (Jvm.Cond.instanceMethod z).before a0 Z = true) (wz : (Jvm.Cond.initialized z.cls).before a0 Z = true) (wc : (Jvm.Cond.code z bytes maxL ret).before a0 Z = true)
    (hM : OMet l Z z bytes maxL ret rm (.ref a :: argsL).toArray h Q) (eT : T.heap = h) (E : Exa Z h a C) {g : JFrame} (hg : g.method = m) (hsize : g.locals.size = c.maxLocals) (hlen : ∀ sig, parseMethodDescriptor y.desc = some sig → argsL.length = sig.parameters.length)
    (hstack : g.stack = argsL.reverse ++ .ref a :: rest) (hW : 2 * g.monitorRoom + (rest.map fun v => v.category).sum ≤ W) (hdg : decode c.code g.pc = .ok (.invokevirtual index, 3))
    (hf : rm.frames + 1 ≤ R.frames) (hl : W + (maxL + 11) + rm.locals ≤ R.locals) (hc : cells + rm.cells ≤ R.cells) (hs : slots + rm.slots ≤ R.slots)
    (hy : y.cls ≠ "java/lang/invoke/MethodHandle" ∧ y.cls ≠ "java/lang/invoke/VarHandle" := by decide) :
    ∃ (v : Option Value) (T' : State) (L : List Loc), Stand p l e R s m args below meth c T' (locs ++ L) (cells + rm.cells) (slots + rm.slots) ∧ Q v T'.heap L ∧
      ∀ target, Steps p.tables e below (T'.setTop { g with pc := g.pc + 3, stack := v.toList ++ rest }) target → Steps p.tables e below (T.setTop g) target := by
  obtain ⟨cq, kq, qa, qb, qc⟩ := isOf hZ eT E
  obtain ⟨v, vm₁, ⟨T', L', k', n'⟩, -, X', ⟨L, hQ, l1, y1, z1⟩, st⟩ := X.virtualBack hx hown (mvT hZ w1) (mvT hZ w2) hnf (mvT hZ w3) (mvT hZ w4) hy (own_back (W := W) hM hZ wc wz hf hl) qa qc hg hsize (Steps.refl _) hlen hstack hW hdg (fun _ _ => ⟨rfl, eT, hc, hs⟩)
  dsimp only [Pt.U, Pt.locs, Pt.cells, Pt.slots] at X' l1 y1 z1 st hQ
  subst l1 y1 z1
  exact ⟨v, T', L, X', hQ, fun t k => st.trans k⟩
end OwnLayer
theorem own_pn1 : plainFor (⟨"com/example/notation_search/notationsearch/math/SymbolCount", "<init>", "()V"⟩ : MethodName) = true := plainFor_of_name (by first | (simp [plainName, overriddenIn]; done) | decide +kernel)
theorem own_ef1_R (m : MethodId) (x0 : Addr) : entryFrame m #[(.ref x0)] 1 = mkF m 0 #[.val (.ref x0)] [] := by first | (simp [entryFrame, mkF, argsToLocals, Value.category]; done) | rfl
theorem own_d1_0 : decode prog_37_method_1_code 0 = .ok (.aload_n 0, 1) := by decide +kernel
theorem own_d1_1 : decode prog_37_method_1_code 1 = .ok (.invokespecial 1, 3) := by decide +kernel
theorem own_d1_4 : decode prog_37_method_1_code 4 = .ok (.return_, 1) := by decide +kernel
theorem own_pn3 : plainFor (⟨"com/example/notation_search/notationsearch/math/SymbolCount", "refused", "()Z"⟩ : MethodName) = true := plainFor_of_name (by first | (simp [plainName, overriddenIn]; done) | decide +kernel)
theorem own_ef3_R (m : MethodId) (x0 : Addr) : entryFrame m #[(.ref x0)] 1 = mkF m 0 #[.val (.ref x0)] [] := by first | (simp [entryFrame, mkF, argsToLocals, Value.category]; done) | rfl
theorem own_d3_0 : decode prog_37_method_3_code 0 = .ok (.aload_n 0, 1) := by decide +kernel
theorem own_d3_1 : decode prog_37_method_3_code 1 = .ok (.getfield 16, 3) := by decide +kernel
theorem own_d3_4 : decode prog_37_method_3_code 4 = .ok (.ireturn, 1) := by decide +kernel
theorem own_pn4 : plainFor (⟨"com/example/notation_search/notationsearch/math/SymbolCount", "take", "()Z"⟩ : MethodName) = true := plainFor_of_name (by first | (simp [plainName, overriddenIn]; done) | decide +kernel)
theorem own_ef4_R (m : MethodId) (x0 : Addr) : entryFrame m #[(.ref x0)] 1 = mkF m 0 #[.val (.ref x0)] [] := by first | (simp [entryFrame, mkF, argsToLocals, Value.category]; done) | rfl
theorem own_d4_0 : decode prog_37_method_2_code 0 = .ok (.aload_n 0, 1) := by decide +kernel
theorem own_d4_1 : decode prog_37_method_2_code 1 = .ok (.getfield 7, 3) := by decide +kernel
theorem own_d4_4 : decode prog_37_method_2_code 4 = .ok (.ldc 15, 2) := by decide +kernel
theorem own_d4_6 : decode prog_37_method_2_code 6 = .ok (.if_icmp .ge 16, 3) := by decide +kernel
theorem own_d4_9 : decode prog_37_method_2_code 9 = .ok (.aload_n 0, 1) := by decide +kernel
theorem own_d4_10 : decode prog_37_method_2_code 10 = .ok (.dup, 1) := by decide +kernel
theorem own_d4_11 : decode prog_37_method_2_code 11 = .ok (.getfield 7, 3) := by decide +kernel
theorem own_d4_14 : decode prog_37_method_2_code 14 = .ok (.iconst 1, 1) := by decide +kernel
theorem own_d4_15 : decode prog_37_method_2_code 15 = .ok (.iadd, 1) := by decide +kernel
theorem own_d4_16 : decode prog_37_method_2_code 16 = .ok (.putfield 7, 3) := by decide +kernel
theorem own_d4_19 : decode prog_37_method_2_code 19 = .ok (.goto 8, 3) := by decide +kernel
theorem own_d4_27 : decode prog_37_method_2_code 27 = .ok (.aload_n 0, 1) := by decide +kernel
theorem own_d4_28 : decode prog_37_method_2_code 28 = .ok (.getfield 16, 3) := by decide +kernel
theorem own_d4_31 : decode prog_37_method_2_code 31 = .ok (.ifCond .ne 7, 3) := by decide +kernel
theorem own_d4_34 : decode prog_37_method_2_code 34 = .ok (.iconst 1, 1) := by decide +kernel
theorem own_d4_35 : decode prog_37_method_2_code 35 = .ok (.goto 4, 3) := by decide +kernel
theorem own_d4_39 : decode prog_37_method_2_code 39 = .ok (.ireturn, 1) := by decide +kernel
theorem own_pd0 : parseMethodDescriptor "()Z" = some ⟨[], some .boolean⟩ := by decide +kernel
theorem own_pn0 : plainFor (⟨"com/example/notation_search/notationsearch/math/SymbolCountTakePinLaw", "law", "(I)Z"⟩ : MethodName) = true := plainFor_of_name (by first | (simp [plainName, overriddenIn]; done) | decide +kernel)
theorem own_ef0_I (m : MethodId) (x0 : Int32) : entryFrame m #[(.int x0)] maxLocals = mkF m 0 #[.val (.int x0), .unset, .unset, .unset, .unset, .unset] [] := by first | (simp [entryFrame, mkF, argsToLocals, Value.category, maxLocals]; done) | rfl
theorem own_pd1 : parseMethodDescriptor "()V" = some ⟨[], none⟩ := by decide +kernel
theorem own_inc {n : Int32} {i : Int} (h : 0 ≤ n.toInt ∧ n.toInt ≤ i) (hi : i ≤ 100) : n < 131072 ∧ 0 ≤ (n + 1).toInt ∧ (n + 1).toInt ≤ i + 1 := by
  have e : (n + 1).toInt = n.toInt + 1 := Jvm.Kit.i32_add (by show _ ≤ n.toInt + 1; omega) (by show n.toInt + 1 < _; omega)
  rw [Int32.lt_iff_toInt_lt, e]
  exact ⟨by show n.toInt < 131072; omega, by omega, by omega⟩
set_option maxRecDepth 65536 in
set_option maxHeartbeats 40000000 in
theorem rmI (l : Launch) (Z : State) (a0 : Array Value) (hw : ∀ d ∈ tables_1, d.before a0 Z = true) (a1 : Addr) (h0 : Heap)  :
    OMet l Z (⟨"com/example/notation_search/notationsearch/math/SymbolCount", "<init>", "()V"⟩ : MethodName) prog_37_method_1_code 1 none (⟨1, 0, 0, 12⟩ : Room) #[(.ref a1)] h0 (fun v h L => v = none ∧ h = h0 ∧ L = []) := by
  refine own_enter own_pn1 ?_
  intro p e s m below meth c T0 X0 hC e0
  obtain ⟨hx, hZ, hby, hml, hown, hret, hlk, hnm⟩ := hC
  have hown : s.vm.findClass "com/example/notation_search/notationsearch/math/SymbolCount" = some m.cls := hown
  refine own_at (own_ef1_R m a1) ?_
  show OFin p e below s _ _ _ (T0.setTop (mkF m 0 #[.val (.ref a1)] []))
  refine own_st (fun _ kS => XS.aloadN X0.here hx rfl (hb hby own_d1_0) rfl rfl kS) ?_
  show OFin p e below s _ _ _ (T0.setTop (mkF m 1 #[.val (.ref a1)] [(.ref a1)]))
  obtain ⟨T1, X1, e1, st1⟩ := initO X0 hx hZ hown (own_w hw 6 rfl) (own_w hw 7 rfl) (own_w hw 8 rfl) e0 (g := (mkF m 1 #[.val (.ref a1)] [(.ref a1)])) rfl (by rw [hml]; rfl) rfl (hb hby own_d1_1) (by decide) (W := 0) (by show 2 * 0 + _ ≤ _; exact Nat.le_of_eq rfl) (by decide)
  refine own_st (st1) ?_
  show OFin p e below s _ _ _ (T1.setTop (mkF m 4 #[.val (.ref a1)] []))
  exact own_retV X1 hx hret hlk (hb hby own_d1_4) (by decide) (by decide) ⟨rfl, e1, rfl⟩
set_option maxRecDepth 65536 in
set_option maxHeartbeats 40000000 in
theorem rmR (l : Launch) (Z : State) (a0 : Array Value) (hw : ∀ d ∈ tables_1, d.before a0 Z = true) (a1 : Addr) (h0 : Heap) (F_r : Fld Z h0 a1 "com/example/notation_search/notationsearch/math/SymbolCount" "refused" "Z" (.int (0 : Int32))) :
    OMet l Z (⟨"com/example/notation_search/notationsearch/math/SymbolCount", "refused", "()Z"⟩ : MethodName) prog_37_method_3_code 1 (some .boolean) (⟨0, 0, 0, 0⟩ : Room) #[(.ref a1)] h0 (fun v h L => v = some (.int (0 : Int32)) ∧ h = h0 ∧ L = []) := by
  refine own_enter own_pn3 ?_
  intro p e s m below meth c T0 X0 hC e0
  obtain ⟨hx, hZ, hby, hml, hown, hret, hlk, hnm⟩ := hC
  have hown : s.vm.findClass "com/example/notation_search/notationsearch/math/SymbolCount" = some m.cls := hown
  refine own_at (own_ef3_R m a1) ?_
  show OFin p e below s _ _ _ (T0.setTop (mkF m 0 #[.val (.ref a1)] []))
  refine own_st (fun _ kS => XS.aloadN X0.here hx rfl (hb hby own_d3_0) rfl rfl kS) ?_
  show OFin p e below s _ _ _ (T0.setTop (mkF m 1 #[.val (.ref a1)] [(.ref a1)]))
  obtain ⟨T2, X2, e2, st2⟩ := getF X0 hx hZ hown (host := "") (Or.inl (own_w hw 14 rfl)) Via.refl e0 F_r (g := (mkF m 1 #[.val (.ref a1)] [(.ref a1)])) rfl rfl (hb hby own_d3_1)
  refine own_st (st2) ?_
  show OFin p e below s _ _ _ (T2.setTop (mkF m 4 #[.val (.ref a1)] [(.int (0 : Int32))]))
  exact own_ret X2 hx (t := .boolean) hret hlk rfl (Or.inl ⟨rfl, by simp, _, rfl⟩) (hb hby own_d3_4) (by decide) (by decide) ⟨rfl, e2, rfl⟩
set_option maxRecDepth 65536 in
set_option maxHeartbeats 40000000 in
theorem rmT (l : Launch) (Z : State) (a0 : Array Value) (hw : ∀ d ∈ tables_1, d.before a0 Z = true) (a1 : Addr) (h0 : Heap) (n0 : Nat) (n : Int32) (E_a : Exa Z h0 a1 "com/example/notation_search/notationsearch/math/SymbolCount") (F_p : Fld Z h0 a1 "com/example/notation_search/notationsearch/math/SymbolCount" "placed" "I" (.int n)) (F_r : Fld Z h0 a1 "com/example/notation_search/notationsearch/math/SymbolCount" "refused" "Z" (.int (0 : Int32))) (g_a : n0 ≤ a1) (hn : n < 131072) :
    OMet l Z (⟨"com/example/notation_search/notationsearch/math/SymbolCount", "take", "()Z"⟩ : MethodName) prog_37_method_2_code 1 (some .boolean) (⟨0, 0, 0, 0⟩ : Room) #[(.ref a1)] h0 (fun v h L => v = some (.int (1 : Int32)) ∧ Fr n0 L ∧ Keep h0 h [a1] ∧ Exa Z h a1 "com/example/notation_search/notationsearch/math/SymbolCount" ∧ Fld Z h a1 "com/example/notation_search/notationsearch/math/SymbolCount" "placed" "I" (.int (n + 1)) ∧ Fld Z h a1 "com/example/notation_search/notationsearch/math/SymbolCount" "refused" "Z" (.int (0 : Int32))) := by
  refine own_enter own_pn4 ?_
  intro p e s m below meth c T0 X0 hC e0
  obtain ⟨hx, hZ, hby, hml, hown, hret, hlk, hnm⟩ := hC
  have hown : s.vm.findClass "com/example/notation_search/notationsearch/math/SymbolCount" = some m.cls := hown
  refine own_at (own_ef4_R m a1) ?_
  show OFin p e below s _ _ _ (T0.setTop (mkF m 0 #[.val (.ref a1)] []))
  have N0 := Fr.nil n0
  have kp0 := Keep.refl h0 [a1]
  refine own_st (fun _ kS => XS.aloadN X0.here hx rfl (hb hby own_d4_0) rfl rfl kS) ?_
  show OFin p e below s _ _ _ (T0.setTop (mkF m 1 #[.val (.ref a1)] [(.ref a1)]))
  obtain ⟨T3, X3, e3, st3⟩ := getF X0 hx hZ hown (host := "") (Or.inl (own_w hw 21 rfl)) Via.refl e0 F_p (g := (mkF m 1 #[.val (.ref a1)] [(.ref a1)])) rfl rfl (hb hby own_d4_1)
  refine own_st (st3) ?_
  show OFin p e below s _ _ _ (T3.setTop (mkF m 4 #[.val (.ref a1)] [(.int n)]))
  refine own_st (X3.ldcInt hx hown (mvT hZ (own_w hw 23 rfl)) (g := (mkF m 4 #[.val (.ref a1)] [(.int n)])) rfl (hb hby own_d4_4)) ?_
  show OFin p e below s _ _ _ (T3.setTop (mkF m 6 #[.val (.ref a1)] [(.int (131072 : Int32)), (.int n)]))
  refine own_st (fun _ kS => XS.icmpNo X3.here hx rfl (hb hby own_d4_6) rfl (tlt hn).2.1 kS) ?_
  show OFin p e below s _ _ _ (T3.setTop (mkF m 9 #[.val (.ref a1)] []))
  refine own_st (fun _ kS => XS.aloadN X3.here hx rfl (hb hby own_d4_9) rfl rfl kS) ?_
  show OFin p e below s _ _ _ (T3.setTop (mkF m 10 #[.val (.ref a1)] [(.ref a1)]))
  refine own_st (fun _ kS => XS.dup X3.here hx rfl (hb hby own_d4_10) rfl rfl kS) ?_
  show OFin p e below s _ _ _ (T3.setTop (mkF m 11 #[.val (.ref a1)] [(.ref a1), (.ref a1)]))
  obtain ⟨T4, X4, e4, st4⟩ := getF X3 hx hZ hown (host := "") (Or.inl (own_w hw 21 rfl)) Via.refl e3 F_p (g := (mkF m 11 #[.val (.ref a1)] [(.ref a1), (.ref a1)])) rfl rfl (hb hby own_d4_11)
  refine own_st (st4) ?_
  show OFin p e below s _ _ _ (T4.setTop (mkF m 14 #[.val (.ref a1)] [(.int n), (.ref a1)]))
  refine own_st (fun _ kS => XS.iconst X4.here hx rfl (hb hby own_d4_14) kS) ?_
  show OFin p e below s _ _ _ (T4.setTop (mkF m 15 #[.val (.ref a1)] [(.int (1 : Int32)), (.int n), (.ref a1)]))
  refine own_st (fun _ kS => XS.iadd X4.here hx rfl (hb hby own_d4_15) rfl kS) ?_
  show OFin p e below s _ _ _ (T4.setTop (mkF m 16 #[.val (.ref a1)] [(.int (n + (1 : Int32))), (.ref a1)]))
  obtain ⟨T5, h5, X5, e5, W5, st5⟩ := putF X4 hx hZ hown (host := "") (Or.inl (own_w hw 21 rfl)) Via.refl e4 F_p E_a (Or.inl (own_w hw 22 rfl)) (own_w hw 1 rfl) (ty := .int) (by decide) rfl rfl (g := (mkF m 16 #[.val (.ref a1)] [(.int (n + (1 : Int32))), (.ref a1)])) rfl rfl (hb hby own_d4_16)
  have f6 := F_p.same W5
  have f7 := E_a.wr W5
  have f9 := F_r.other W5 (Or.inr (slot_ne (Or.inl (own_w hw 15 rfl)) (Or.inl (own_w hw 22 rfl)) (by decide) (t := .boolean) (t' := .int) (by decide) (by decide)))
  have fr5 := Fr.snoc X5 N0 g_a
  have kp5 := kp0.wr W5 (Or.inl (List.mem_of_getElem? (i := 0) rfl))
  refine own_st (st5) ?_
  show OFin p e below s _ _ _ (T5.setTop (mkF m 19 #[.val (.ref a1)] []))
  refine own_st (fun _ kS => XS.goto X5.here hx rfl (pc0 := 19) (pc' := 27) rfl (hb hby own_d4_19) (by decide) (by decide) kS) ?_
  show OFin p e below s _ _ _ (T5.setTop (mkF m 27 #[.val (.ref a1)] []))
  refine own_st (fun _ kS => XS.aloadN X5.here hx rfl (hb hby own_d4_27) rfl rfl kS) ?_
  show OFin p e below s _ _ _ (T5.setTop (mkF m 28 #[.val (.ref a1)] [(.ref a1)]))
  obtain ⟨T10, X10, e10, st10⟩ := getF X5 hx hZ hown (host := "") (Or.inl (own_w hw 14 rfl)) Via.refl e5 f9 (g := (mkF m 28 #[.val (.ref a1)] [(.ref a1)])) rfl rfl (hb hby own_d4_28)
  refine own_st (st10) ?_
  show OFin p e below s _ _ _ (T10.setTop (mkF m 31 #[.val (.ref a1)] [(.int (0 : Int32))]))
  refine own_st (fun _ kS => XS.ifNo X10.here hx rfl (hb hby own_d4_31) rfl ((if0 _ _).trans (teq rfl).2) kS) ?_
  show OFin p e below s _ _ _ (T10.setTop (mkF m 34 #[.val (.ref a1)] []))
  refine own_st (fun _ kS => XS.iconst X10.here hx rfl (hb hby own_d4_34) kS) ?_
  show OFin p e below s _ _ _ (T10.setTop (mkF m 35 #[.val (.ref a1)] [(.int (1 : Int32))]))
  refine own_st (fun _ kS => XS.goto X10.here hx rfl (pc0 := 35) (pc' := 39) rfl (hb hby own_d4_35) (by decide) (by decide) kS) ?_
  show OFin p e below s _ _ _ (T10.setTop (mkF m 39 #[.val (.ref a1)] [(.int (1 : Int32))]))
  exact own_ret X10 hx (t := .boolean) hret hlk rfl (Or.inl ⟨rfl, by simp, _, rfl⟩) (hb hby own_d4_39) (by decide) (by decide) (by show _ ∧ _ ∧ Keep h0 T10.heap _ ∧ _; rw [e10]; exact ⟨rfl, fr5, kp5, f7, f6, f9⟩)
set_option maxRecDepth 65536 in
set_option maxHeartbeats 40000000 in
theorem own_p7 {l : Launch} {Z : State} {a0 : Array Value} (hw : ∀ d ∈ tables_1, d.before a0 Z = true) {p : Program} {e : Env} {s : State} {m : MethodId} {args : Array Value} {below : List Frame} {meth : Method} {c : Code} (hC : OCtx Z p s m meth c "com/example/notation_search/notationsearch/math/SymbolCountTakePinLaw" "law" code maxLocals ret) {T0 : State} {locs : List Loc} {cells slots : Nat} (X0 : Stand p l e room_1 s m args below meth c T0 locs cells slots) {h0 : Heap} (e0 : T0.heap = h0) (n0 : Nat) (p1 k n : Int32) (a : Addr) (E_a : Exa Z h0 a "com/example/notation_search/notationsearch/math/SymbolCount") (F_p : Fld Z h0 a "com/example/notation_search/notationsearch/math/SymbolCount" "placed" "I" (.int n)) (F_r : Fld Z h0 a "com/example/notation_search/notationsearch/math/SymbolCount" "refused" "Z" (.int (0 : Int32))) (g_a : n0 ≤ a) (N0 : Fr n0 locs) (hcs : cells ≤ room_1.cells) (hss : slots ≤ room_1.slots) (hn : 0 ≤ n.toInt ∧ n.toInt ≤ 7) :
    OFin p e below s room_1.cells room_1.slots (fun v h L => v = some (.int (1 : Int32)) ∧ Fr n0 L) (T0.setTop (mkF m 197 #[.val (.int p1), .val (.int k), .val (.ref a), .val (.int (0 : Int32)), .val (.int (1 : Int32)), .unset] [])) := by
  have hC0 := hC
  obtain ⟨hx, hZ, hby, hml, hown, hret, hlk, hnm⟩ := hC
  refine own_st (fun _ kS => XS.aloadN X0.here hx rfl (hb hby at_197) rfl rfl kS) ?_
  show OFin p e below s _ _ _ (T0.setTop (mkF m 198 #[.val (.int p1), .val (.int k), .val (.ref a), .val (.int (0 : Int32)), .val (.int (1 : Int32)), .unset] [(.ref a)]))
  obtain ⟨v11, T11, L11, X11, hQ11, st11⟩ := own_virtual X0 hx hZ (y := (⟨"com/example/notation_search/notationsearch/math/SymbolCount", "refused", "()Z"⟩ : MethodName)) (z := (⟨"com/example/notation_search/notationsearch/math/SymbolCount", "refused", "()Z"⟩ : MethodName)) (rm := ⟨0, 0, 0, 0⟩) (W := 0) (a := a) (argsL := []) (rest := []) hown (own_w hw 9 rfl) (own_w hw 10 rfl) (notFace_of_selects (args := #[]) (mvT hZ (own_w hw 12 rfl))) (own_w hw 12 rfl) (own_w hw 11 rfl) (own_w hw 2 rfl) (own_w hw 13 rfl) (rmR l Z a0 hw a h0 F_r) e0 E_a (g := (mkF m 198 #[.val (.int p1), .val (.int k), .val (.ref a), .val (.int (0 : Int32)), .val (.int (1 : Int32)), .unset] [(.ref a)])) rfl (by rw [hml]; rfl) (lenOf own_pd0 rfl) rfl (by show 2 * 0 + _ ≤ _; exact Nat.le_of_eq rfl) (hb hby at_198) (by decide) (by decide) hcs hss
  obtain ⟨rfl, e11, rfl⟩ := hQ11
  rw [List.append_nil] at X11
  refine own_st (st11) ?_
  show OFin p e below s _ _ _ (T11.setTop (mkF m 201 #[.val (.int p1), .val (.int k), .val (.ref a), .val (.int (0 : Int32)), .val (.int (1 : Int32)), .unset] [(.int (0 : Int32))]))
  refine own_st (fun _ kS => XS.istore X11.here hx rfl (hb hby at_201) rfl (l' := #[.val (.int p1), .val (.int k), .val (.ref a), .val (.int (0 : Int32)), .val (.int (1 : Int32)), .val (.int (0 : Int32))]) rfl kS) ?_
  show OFin p e below s _ _ _ (T11.setTop (mkF m 203 #[.val (.int p1), .val (.int k), .val (.ref a), .val (.int (0 : Int32)), .val (.int (1 : Int32)), .val (.int (0 : Int32))] []))
  refine own_st (fun _ kS => XS.iload X11.here hx rfl (hb hby at_203) rfl kS) ?_
  show OFin p e below s _ _ _ (T11.setTop (mkF m 205 #[.val (.int p1), .val (.int k), .val (.ref a), .val (.int (0 : Int32)), .val (.int (1 : Int32)), .val (.int (0 : Int32))] [(.int (1 : Int32))]))
  refine own_st (fun _ kS => XS.ifNo X11.here hx rfl (hb hby at_205) rfl ((if0 _ _).trans (feq (by decide)).1) kS) ?_
  show OFin p e below s _ _ _ (T11.setTop (mkF m 208 #[.val (.int p1), .val (.int k), .val (.ref a), .val (.int (0 : Int32)), .val (.int (1 : Int32)), .val (.int (0 : Int32))] []))
  refine own_st (fun _ kS => XS.iload X11.here hx rfl (hb hby at_208) rfl kS) ?_
  show OFin p e below s _ _ _ (T11.setTop (mkF m 210 #[.val (.int p1), .val (.int k), .val (.ref a), .val (.int (0 : Int32)), .val (.int (1 : Int32)), .val (.int (0 : Int32))] [(.int (0 : Int32))]))
  refine own_st (fun _ kS => XS.ifNo X11.here hx rfl (hb hby at_210) rfl ((if0 _ _).trans (teq rfl).2) kS) ?_
  show OFin p e below s _ _ _ (T11.setTop (mkF m 213 #[.val (.int p1), .val (.int k), .val (.ref a), .val (.int (0 : Int32)), .val (.int (1 : Int32)), .val (.int (0 : Int32))] []))
  refine own_st (fun _ kS => XS.iconst X11.here hx rfl (hb hby at_213) kS) ?_
  show OFin p e below s _ _ _ (T11.setTop (mkF m 214 #[.val (.int p1), .val (.int k), .val (.ref a), .val (.int (0 : Int32)), .val (.int (1 : Int32)), .val (.int (0 : Int32))] [(.int (1 : Int32))]))
  refine own_st (fun _ kS => XS.goto X11.here hx rfl (pc0 := 214) (pc' := 218) rfl (hb hby at_214) (by decide) (by decide) kS) ?_
  show OFin p e below s _ _ _ (T11.setTop (mkF m 218 #[.val (.int p1), .val (.int k), .val (.ref a), .val (.int (0 : Int32)), .val (.int (1 : Int32)), .val (.int (0 : Int32))] [(.int (1 : Int32))]))
  exact own_ret X11 hx (t := .boolean) hret hlk rfl (Or.inl ⟨rfl, by simp, _, rfl⟩) (hb hby at_218) hcs hss ⟨rfl, N0⟩
set_option maxRecDepth 65536 in
set_option maxHeartbeats 40000000 in
theorem own_p6 {l : Launch} {Z : State} {a0 : Array Value} (hw : ∀ d ∈ tables_1, d.before a0 Z = true) {p : Program} {e : Env} {s : State} {m : MethodId} {args : Array Value} {below : List Frame} {meth : Method} {c : Code} (hC : OCtx Z p s m meth c "com/example/notation_search/notationsearch/math/SymbolCountTakePinLaw" "law" code maxLocals ret) {T0 : State} {locs : List Loc} {cells slots : Nat} (X0 : Stand p l e room_1 s m args below meth c T0 locs cells slots) {h0 : Heap} (e0 : T0.heap = h0) (n0 : Nat) (p1 k n : Int32) (a : Addr) (E_a : Exa Z h0 a "com/example/notation_search/notationsearch/math/SymbolCount") (F_p : Fld Z h0 a "com/example/notation_search/notationsearch/math/SymbolCount" "placed" "I" (.int n)) (F_r : Fld Z h0 a "com/example/notation_search/notationsearch/math/SymbolCount" "refused" "Z" (.int (0 : Int32))) (g_a : n0 ≤ a) (N0 : Fr n0 locs) (hcs : cells ≤ room_1.cells) (hss : slots ≤ room_1.slots) (hn : 0 ≤ n.toInt ∧ n.toInt ≤ 6) :
    OFin p e below s room_1.cells room_1.slots (fun v h L => v = some (.int (1 : Int32)) ∧ Fr n0 L) (T0.setTop (mkF m 172 #[.val (.int p1), .val (.int k), .val (.ref a), .val (.int (0 : Int32)), .val (.int (1 : Int32)), .unset] [])) := by
  have hC0 := hC
  obtain ⟨hx, hZ, hby, hml, hown, hret, hlk, hnm⟩ := hC
  refine own_st (fun _ kS => XS.iloadN X0.here hx rfl (hb hby at_172) rfl kS) ?_
  show OFin p e below s _ _ _ (T0.setTop (mkF m 173 #[.val (.int p1), .val (.int k), .val (.ref a), .val (.int (0 : Int32)), .val (.int (1 : Int32)), .unset] [(.int k)]))
  refine own_st (fun _ kS => XS.bipush X0.here hx rfl (hb hby at_173) kS) ?_
  show OFin p e below s _ _ _ (T0.setTop (mkF m 175 #[.val (.int p1), .val (.int k), .val (.ref a), .val (.int (0 : Int32)), .val (.int (1 : Int32)), .unset] [(.int (6 : Int32)), (.int k)]))
  by_cases c1 : (6 : Int32) < k
  · refine own_st (fun _ kS => XS.icmpNo X0.here hx rfl (hb hby at_175) rfl (tlt c1).2.2.2 kS) ?_
    show OFin p e below s _ _ _ (T0.setTop (mkF m 178 #[.val (.int p1), .val (.int k), .val (.ref a), .val (.int (0 : Int32)), .val (.int (1 : Int32)), .unset] []))
    refine own_st (fun _ kS => XS.aloadN X0.here hx rfl (hb hby at_178) rfl rfl kS) ?_
    show OFin p e below s _ _ _ (T0.setTop (mkF m 179 #[.val (.int p1), .val (.int k), .val (.ref a), .val (.int (0 : Int32)), .val (.int (1 : Int32)), .unset] [(.ref a)]))
    obtain ⟨i1, i2, i3⟩ := own_inc hn (by decide)
    obtain ⟨v12, T12, L12, X12, hQ12, st12⟩ := own_virtual X0 hx hZ (y := (⟨"com/example/notation_search/notationsearch/math/SymbolCount", "take", "()Z"⟩ : MethodName)) (z := (⟨"com/example/notation_search/notationsearch/math/SymbolCount", "take", "()Z"⟩ : MethodName)) (rm := ⟨0, 0, 0, 0⟩) (W := 0) (a := a) (argsL := []) (rest := []) hown (own_w hw 16 rfl) (own_w hw 17 rfl) (notFace_of_selects (args := #[]) (mvT hZ (own_w hw 19 rfl))) (own_w hw 19 rfl) (own_w hw 18 rfl) (own_w hw 2 rfl) (own_w hw 20 rfl) (rmT l Z a0 hw a h0 n0 n E_a F_p F_r g_a i1) e0 E_a (g := (mkF m 179 #[.val (.int p1), .val (.int k), .val (.ref a), .val (.int (0 : Int32)), .val (.int (1 : Int32)), .unset] [(.ref a)])) rfl (by rw [hml]; rfl) (lenOf own_pd0 rfl) rfl (by show 2 * 0 + _ ≤ _; exact Nat.le_of_eq rfl) (hb hby at_179) (by decide) (by decide) hcs hss
    obtain ⟨rfl, N12, K12, EE12, FP12, FR12⟩ := hQ12
    refine own_st (st12) ?_
    show OFin p e below s _ _ _ (T12.setTop (mkF m 182 #[.val (.int p1), .val (.int k), .val (.ref a), .val (.int (0 : Int32)), .val (.int (1 : Int32)), .unset] [(.int (1 : Int32))]))
    refine own_st (fun _ kS => XS.ifNo X12.here hx rfl (hb hby at_182) rfl ((if0 _ _).trans (feq (by decide)).1) kS) ?_
    show OFin p e below s _ _ _ (T12.setTop (mkF m 185 #[.val (.int p1), .val (.int k), .val (.ref a), .val (.int (0 : Int32)), .val (.int (1 : Int32)), .unset] []))
    refine own_st (fun _ kS => XS.iload X12.here hx rfl (hb hby at_185) rfl kS) ?_
    show OFin p e below s _ _ _ (T12.setTop (mkF m 187 #[.val (.int p1), .val (.int k), .val (.ref a), .val (.int (0 : Int32)), .val (.int (1 : Int32)), .unset] [(.int (1 : Int32))]))
    refine own_st (fun _ kS => XS.ifNo X12.here hx rfl (hb hby at_187) rfl ((if0 _ _).trans (feq (by decide)).1) kS) ?_
    show OFin p e below s _ _ _ (T12.setTop (mkF m 190 #[.val (.int p1), .val (.int k), .val (.ref a), .val (.int (0 : Int32)), .val (.int (1 : Int32)), .unset] []))
    refine own_st (fun _ kS => XS.iconst X12.here hx rfl (hb hby at_190) kS) ?_
    show OFin p e below s _ _ _ (T12.setTop (mkF m 191 #[.val (.int p1), .val (.int k), .val (.ref a), .val (.int (0 : Int32)), .val (.int (1 : Int32)), .unset] [(.int (1 : Int32))]))
    refine own_st (fun _ kS => XS.goto X12.here hx rfl (pc0 := 191) (pc' := 195) rfl (hb hby at_191) (by decide) (by decide) kS) ?_
    show OFin p e below s _ _ _ (T12.setTop (mkF m 195 #[.val (.int p1), .val (.int k), .val (.ref a), .val (.int (0 : Int32)), .val (.int (1 : Int32)), .unset] [(.int (1 : Int32))]))
    refine own_st (fun _ kS => XS.istore X12.here hx rfl (hb hby at_195) rfl (l' := #[.val (.int p1), .val (.int k), .val (.ref a), .val (.int (0 : Int32)), .val (.int (1 : Int32)), .unset]) rfl kS) ?_
    show OFin p e below s _ _ _ (T12.setTop (mkF m 197 #[.val (.int p1), .val (.int k), .val (.ref a), .val (.int (0 : Int32)), .val (.int (1 : Int32)), .unset] []))
    exact own_p7 hw hC0 X12 rfl n0 p1 k _ a EE12 FP12 FR12 g_a (Fr.app N0 N12) hcs hss ⟨i2, i3⟩
  · refine own_st (fun _ kS => XS.icmpYes X0.here hx rfl (pc0 := 175) (pc' := 197) rfl (hb hby at_175) rfl (flt c1).2.2.2 (by decide) (by decide) kS) ?_
    show OFin p e below s _ _ _ (T0.setTop (mkF m 197 #[.val (.int p1), .val (.int k), .val (.ref a), .val (.int (0 : Int32)), .val (.int (1 : Int32)), .unset] []))
    exact own_p7 hw hC0 X0 e0 n0 p1 k _ a E_a F_p F_r g_a N0 hcs hss ⟨hn.1, by omega⟩
set_option maxRecDepth 65536 in
set_option maxHeartbeats 40000000 in
theorem own_p5 {l : Launch} {Z : State} {a0 : Array Value} (hw : ∀ d ∈ tables_1, d.before a0 Z = true) {p : Program} {e : Env} {s : State} {m : MethodId} {args : Array Value} {below : List Frame} {meth : Method} {c : Code} (hC : OCtx Z p s m meth c "com/example/notation_search/notationsearch/math/SymbolCountTakePinLaw" "law" code maxLocals ret) {T0 : State} {locs : List Loc} {cells slots : Nat} (X0 : Stand p l e room_1 s m args below meth c T0 locs cells slots) {h0 : Heap} (e0 : T0.heap = h0) (n0 : Nat) (p1 k n : Int32) (a : Addr) (E_a : Exa Z h0 a "com/example/notation_search/notationsearch/math/SymbolCount") (F_p : Fld Z h0 a "com/example/notation_search/notationsearch/math/SymbolCount" "placed" "I" (.int n)) (F_r : Fld Z h0 a "com/example/notation_search/notationsearch/math/SymbolCount" "refused" "Z" (.int (0 : Int32))) (g_a : n0 ≤ a) (N0 : Fr n0 locs) (hcs : cells ≤ room_1.cells) (hss : slots ≤ room_1.slots) (hn : 0 ≤ n.toInt ∧ n.toInt ≤ 5) :
    OFin p e below s room_1.cells room_1.slots (fun v h L => v = some (.int (1 : Int32)) ∧ Fr n0 L) (T0.setTop (mkF m 148 #[.val (.int p1), .val (.int k), .val (.ref a), .val (.int (0 : Int32)), .val (.int (1 : Int32)), .unset] [])) := by
  have hC0 := hC
  obtain ⟨hx, hZ, hby, hml, hown, hret, hlk, hnm⟩ := hC
  refine own_st (fun _ kS => XS.iloadN X0.here hx rfl (hb hby at_148) rfl kS) ?_
  show OFin p e below s _ _ _ (T0.setTop (mkF m 149 #[.val (.int p1), .val (.int k), .val (.ref a), .val (.int (0 : Int32)), .val (.int (1 : Int32)), .unset] [(.int k)]))
  refine own_st (fun _ kS => XS.iconst X0.here hx rfl (hb hby at_149) kS) ?_
  show OFin p e below s _ _ _ (T0.setTop (mkF m 150 #[.val (.int p1), .val (.int k), .val (.ref a), .val (.int (0 : Int32)), .val (.int (1 : Int32)), .unset] [(.int (5 : Int32)), (.int k)]))
  by_cases c1 : (5 : Int32) < k
  · refine own_st (fun _ kS => XS.icmpNo X0.here hx rfl (hb hby at_150) rfl (tlt c1).2.2.2 kS) ?_
    show OFin p e below s _ _ _ (T0.setTop (mkF m 153 #[.val (.int p1), .val (.int k), .val (.ref a), .val (.int (0 : Int32)), .val (.int (1 : Int32)), .unset] []))
    refine own_st (fun _ kS => XS.aloadN X0.here hx rfl (hb hby at_153) rfl rfl kS) ?_
    show OFin p e below s _ _ _ (T0.setTop (mkF m 154 #[.val (.int p1), .val (.int k), .val (.ref a), .val (.int (0 : Int32)), .val (.int (1 : Int32)), .unset] [(.ref a)]))
    obtain ⟨i1, i2, i3⟩ := own_inc hn (by decide)
    obtain ⟨v13, T13, L13, X13, hQ13, st13⟩ := own_virtual X0 hx hZ (y := (⟨"com/example/notation_search/notationsearch/math/SymbolCount", "take", "()Z"⟩ : MethodName)) (z := (⟨"com/example/notation_search/notationsearch/math/SymbolCount", "take", "()Z"⟩ : MethodName)) (rm := ⟨0, 0, 0, 0⟩) (W := 0) (a := a) (argsL := []) (rest := []) hown (own_w hw 16 rfl) (own_w hw 17 rfl) (notFace_of_selects (args := #[]) (mvT hZ (own_w hw 19 rfl))) (own_w hw 19 rfl) (own_w hw 18 rfl) (own_w hw 2 rfl) (own_w hw 20 rfl) (rmT l Z a0 hw a h0 n0 n E_a F_p F_r g_a i1) e0 E_a (g := (mkF m 154 #[.val (.int p1), .val (.int k), .val (.ref a), .val (.int (0 : Int32)), .val (.int (1 : Int32)), .unset] [(.ref a)])) rfl (by rw [hml]; rfl) (lenOf own_pd0 rfl) rfl (by show 2 * 0 + _ ≤ _; exact Nat.le_of_eq rfl) (hb hby at_154) (by decide) (by decide) hcs hss
    obtain ⟨rfl, N13, K13, EE13, FP13, FR13⟩ := hQ13
    refine own_st (st13) ?_
    show OFin p e below s _ _ _ (T13.setTop (mkF m 157 #[.val (.int p1), .val (.int k), .val (.ref a), .val (.int (0 : Int32)), .val (.int (1 : Int32)), .unset] [(.int (1 : Int32))]))
    refine own_st (fun _ kS => XS.ifNo X13.here hx rfl (hb hby at_157) rfl ((if0 _ _).trans (feq (by decide)).1) kS) ?_
    show OFin p e below s _ _ _ (T13.setTop (mkF m 160 #[.val (.int p1), .val (.int k), .val (.ref a), .val (.int (0 : Int32)), .val (.int (1 : Int32)), .unset] []))
    refine own_st (fun _ kS => XS.iload X13.here hx rfl (hb hby at_160) rfl kS) ?_
    show OFin p e below s _ _ _ (T13.setTop (mkF m 162 #[.val (.int p1), .val (.int k), .val (.ref a), .val (.int (0 : Int32)), .val (.int (1 : Int32)), .unset] [(.int (1 : Int32))]))
    refine own_st (fun _ kS => XS.ifNo X13.here hx rfl (hb hby at_162) rfl ((if0 _ _).trans (feq (by decide)).1) kS) ?_
    show OFin p e below s _ _ _ (T13.setTop (mkF m 165 #[.val (.int p1), .val (.int k), .val (.ref a), .val (.int (0 : Int32)), .val (.int (1 : Int32)), .unset] []))
    refine own_st (fun _ kS => XS.iconst X13.here hx rfl (hb hby at_165) kS) ?_
    show OFin p e below s _ _ _ (T13.setTop (mkF m 166 #[.val (.int p1), .val (.int k), .val (.ref a), .val (.int (0 : Int32)), .val (.int (1 : Int32)), .unset] [(.int (1 : Int32))]))
    refine own_st (fun _ kS => XS.goto X13.here hx rfl (pc0 := 166) (pc' := 170) rfl (hb hby at_166) (by decide) (by decide) kS) ?_
    show OFin p e below s _ _ _ (T13.setTop (mkF m 170 #[.val (.int p1), .val (.int k), .val (.ref a), .val (.int (0 : Int32)), .val (.int (1 : Int32)), .unset] [(.int (1 : Int32))]))
    refine own_st (fun _ kS => XS.istore X13.here hx rfl (hb hby at_170) rfl (l' := #[.val (.int p1), .val (.int k), .val (.ref a), .val (.int (0 : Int32)), .val (.int (1 : Int32)), .unset]) rfl kS) ?_
    show OFin p e below s _ _ _ (T13.setTop (mkF m 172 #[.val (.int p1), .val (.int k), .val (.ref a), .val (.int (0 : Int32)), .val (.int (1 : Int32)), .unset] []))
    exact own_p6 hw hC0 X13 rfl n0 p1 k _ a EE13 FP13 FR13 g_a (Fr.app N0 N13) hcs hss ⟨i2, i3⟩
  · refine own_st (fun _ kS => XS.icmpYes X0.here hx rfl (pc0 := 150) (pc' := 172) rfl (hb hby at_150) rfl (flt c1).2.2.2 (by decide) (by decide) kS) ?_
    show OFin p e below s _ _ _ (T0.setTop (mkF m 172 #[.val (.int p1), .val (.int k), .val (.ref a), .val (.int (0 : Int32)), .val (.int (1 : Int32)), .unset] []))
    exact own_p6 hw hC0 X0 e0 n0 p1 k _ a E_a F_p F_r g_a N0 hcs hss ⟨hn.1, by omega⟩
set_option maxRecDepth 65536 in
set_option maxHeartbeats 40000000 in
theorem own_p4 {l : Launch} {Z : State} {a0 : Array Value} (hw : ∀ d ∈ tables_1, d.before a0 Z = true) {p : Program} {e : Env} {s : State} {m : MethodId} {args : Array Value} {below : List Frame} {meth : Method} {c : Code} (hC : OCtx Z p s m meth c "com/example/notation_search/notationsearch/math/SymbolCountTakePinLaw" "law" code maxLocals ret) {T0 : State} {locs : List Loc} {cells slots : Nat} (X0 : Stand p l e room_1 s m args below meth c T0 locs cells slots) {h0 : Heap} (e0 : T0.heap = h0) (n0 : Nat) (p1 k n : Int32) (a : Addr) (E_a : Exa Z h0 a "com/example/notation_search/notationsearch/math/SymbolCount") (F_p : Fld Z h0 a "com/example/notation_search/notationsearch/math/SymbolCount" "placed" "I" (.int n)) (F_r : Fld Z h0 a "com/example/notation_search/notationsearch/math/SymbolCount" "refused" "Z" (.int (0 : Int32))) (g_a : n0 ≤ a) (N0 : Fr n0 locs) (hcs : cells ≤ room_1.cells) (hss : slots ≤ room_1.slots) (hn : 0 ≤ n.toInt ∧ n.toInt ≤ 4) :
    OFin p e below s room_1.cells room_1.slots (fun v h L => v = some (.int (1 : Int32)) ∧ Fr n0 L) (T0.setTop (mkF m 124 #[.val (.int p1), .val (.int k), .val (.ref a), .val (.int (0 : Int32)), .val (.int (1 : Int32)), .unset] [])) := by
  have hC0 := hC
  obtain ⟨hx, hZ, hby, hml, hown, hret, hlk, hnm⟩ := hC
  refine own_st (fun _ kS => XS.iloadN X0.here hx rfl (hb hby at_124) rfl kS) ?_
  show OFin p e below s _ _ _ (T0.setTop (mkF m 125 #[.val (.int p1), .val (.int k), .val (.ref a), .val (.int (0 : Int32)), .val (.int (1 : Int32)), .unset] [(.int k)]))
  refine own_st (fun _ kS => XS.iconst X0.here hx rfl (hb hby at_125) kS) ?_
  show OFin p e below s _ _ _ (T0.setTop (mkF m 126 #[.val (.int p1), .val (.int k), .val (.ref a), .val (.int (0 : Int32)), .val (.int (1 : Int32)), .unset] [(.int (4 : Int32)), (.int k)]))
  by_cases c1 : (4 : Int32) < k
  · refine own_st (fun _ kS => XS.icmpNo X0.here hx rfl (hb hby at_126) rfl (tlt c1).2.2.2 kS) ?_
    show OFin p e below s _ _ _ (T0.setTop (mkF m 129 #[.val (.int p1), .val (.int k), .val (.ref a), .val (.int (0 : Int32)), .val (.int (1 : Int32)), .unset] []))
    refine own_st (fun _ kS => XS.aloadN X0.here hx rfl (hb hby at_129) rfl rfl kS) ?_
    show OFin p e below s _ _ _ (T0.setTop (mkF m 130 #[.val (.int p1), .val (.int k), .val (.ref a), .val (.int (0 : Int32)), .val (.int (1 : Int32)), .unset] [(.ref a)]))
    obtain ⟨i1, i2, i3⟩ := own_inc hn (by decide)
    obtain ⟨v14, T14, L14, X14, hQ14, st14⟩ := own_virtual X0 hx hZ (y := (⟨"com/example/notation_search/notationsearch/math/SymbolCount", "take", "()Z"⟩ : MethodName)) (z := (⟨"com/example/notation_search/notationsearch/math/SymbolCount", "take", "()Z"⟩ : MethodName)) (rm := ⟨0, 0, 0, 0⟩) (W := 0) (a := a) (argsL := []) (rest := []) hown (own_w hw 16 rfl) (own_w hw 17 rfl) (notFace_of_selects (args := #[]) (mvT hZ (own_w hw 19 rfl))) (own_w hw 19 rfl) (own_w hw 18 rfl) (own_w hw 2 rfl) (own_w hw 20 rfl) (rmT l Z a0 hw a h0 n0 n E_a F_p F_r g_a i1) e0 E_a (g := (mkF m 130 #[.val (.int p1), .val (.int k), .val (.ref a), .val (.int (0 : Int32)), .val (.int (1 : Int32)), .unset] [(.ref a)])) rfl (by rw [hml]; rfl) (lenOf own_pd0 rfl) rfl (by show 2 * 0 + _ ≤ _; exact Nat.le_of_eq rfl) (hb hby at_130) (by decide) (by decide) hcs hss
    obtain ⟨rfl, N14, K14, EE14, FP14, FR14⟩ := hQ14
    refine own_st (st14) ?_
    show OFin p e below s _ _ _ (T14.setTop (mkF m 133 #[.val (.int p1), .val (.int k), .val (.ref a), .val (.int (0 : Int32)), .val (.int (1 : Int32)), .unset] [(.int (1 : Int32))]))
    refine own_st (fun _ kS => XS.ifNo X14.here hx rfl (hb hby at_133) rfl ((if0 _ _).trans (feq (by decide)).1) kS) ?_
    show OFin p e below s _ _ _ (T14.setTop (mkF m 136 #[.val (.int p1), .val (.int k), .val (.ref a), .val (.int (0 : Int32)), .val (.int (1 : Int32)), .unset] []))
    refine own_st (fun _ kS => XS.iload X14.here hx rfl (hb hby at_136) rfl kS) ?_
    show OFin p e below s _ _ _ (T14.setTop (mkF m 138 #[.val (.int p1), .val (.int k), .val (.ref a), .val (.int (0 : Int32)), .val (.int (1 : Int32)), .unset] [(.int (1 : Int32))]))
    refine own_st (fun _ kS => XS.ifNo X14.here hx rfl (hb hby at_138) rfl ((if0 _ _).trans (feq (by decide)).1) kS) ?_
    show OFin p e below s _ _ _ (T14.setTop (mkF m 141 #[.val (.int p1), .val (.int k), .val (.ref a), .val (.int (0 : Int32)), .val (.int (1 : Int32)), .unset] []))
    refine own_st (fun _ kS => XS.iconst X14.here hx rfl (hb hby at_141) kS) ?_
    show OFin p e below s _ _ _ (T14.setTop (mkF m 142 #[.val (.int p1), .val (.int k), .val (.ref a), .val (.int (0 : Int32)), .val (.int (1 : Int32)), .unset] [(.int (1 : Int32))]))
    refine own_st (fun _ kS => XS.goto X14.here hx rfl (pc0 := 142) (pc' := 146) rfl (hb hby at_142) (by decide) (by decide) kS) ?_
    show OFin p e below s _ _ _ (T14.setTop (mkF m 146 #[.val (.int p1), .val (.int k), .val (.ref a), .val (.int (0 : Int32)), .val (.int (1 : Int32)), .unset] [(.int (1 : Int32))]))
    refine own_st (fun _ kS => XS.istore X14.here hx rfl (hb hby at_146) rfl (l' := #[.val (.int p1), .val (.int k), .val (.ref a), .val (.int (0 : Int32)), .val (.int (1 : Int32)), .unset]) rfl kS) ?_
    show OFin p e below s _ _ _ (T14.setTop (mkF m 148 #[.val (.int p1), .val (.int k), .val (.ref a), .val (.int (0 : Int32)), .val (.int (1 : Int32)), .unset] []))
    exact own_p5 hw hC0 X14 rfl n0 p1 k _ a EE14 FP14 FR14 g_a (Fr.app N0 N14) hcs hss ⟨i2, i3⟩
  · refine own_st (fun _ kS => XS.icmpYes X0.here hx rfl (pc0 := 126) (pc' := 148) rfl (hb hby at_126) rfl (flt c1).2.2.2 (by decide) (by decide) kS) ?_
    show OFin p e below s _ _ _ (T0.setTop (mkF m 148 #[.val (.int p1), .val (.int k), .val (.ref a), .val (.int (0 : Int32)), .val (.int (1 : Int32)), .unset] []))
    exact own_p5 hw hC0 X0 e0 n0 p1 k _ a E_a F_p F_r g_a N0 hcs hss ⟨hn.1, by omega⟩
set_option maxRecDepth 65536 in
set_option maxHeartbeats 40000000 in
theorem own_p3 {l : Launch} {Z : State} {a0 : Array Value} (hw : ∀ d ∈ tables_1, d.before a0 Z = true) {p : Program} {e : Env} {s : State} {m : MethodId} {args : Array Value} {below : List Frame} {meth : Method} {c : Code} (hC : OCtx Z p s m meth c "com/example/notation_search/notationsearch/math/SymbolCountTakePinLaw" "law" code maxLocals ret) {T0 : State} {locs : List Loc} {cells slots : Nat} (X0 : Stand p l e room_1 s m args below meth c T0 locs cells slots) {h0 : Heap} (e0 : T0.heap = h0) (n0 : Nat) (p1 k n : Int32) (a : Addr) (E_a : Exa Z h0 a "com/example/notation_search/notationsearch/math/SymbolCount") (F_p : Fld Z h0 a "com/example/notation_search/notationsearch/math/SymbolCount" "placed" "I" (.int n)) (F_r : Fld Z h0 a "com/example/notation_search/notationsearch/math/SymbolCount" "refused" "Z" (.int (0 : Int32))) (g_a : n0 ≤ a) (N0 : Fr n0 locs) (hcs : cells ≤ room_1.cells) (hss : slots ≤ room_1.slots) (hn : 0 ≤ n.toInt ∧ n.toInt ≤ 3) :
    OFin p e below s room_1.cells room_1.slots (fun v h L => v = some (.int (1 : Int32)) ∧ Fr n0 L) (T0.setTop (mkF m 100 #[.val (.int p1), .val (.int k), .val (.ref a), .val (.int (0 : Int32)), .val (.int (1 : Int32)), .unset] [])) := by
  have hC0 := hC
  obtain ⟨hx, hZ, hby, hml, hown, hret, hlk, hnm⟩ := hC
  refine own_st (fun _ kS => XS.iloadN X0.here hx rfl (hb hby at_100) rfl kS) ?_
  show OFin p e below s _ _ _ (T0.setTop (mkF m 101 #[.val (.int p1), .val (.int k), .val (.ref a), .val (.int (0 : Int32)), .val (.int (1 : Int32)), .unset] [(.int k)]))
  refine own_st (fun _ kS => XS.iconst X0.here hx rfl (hb hby at_101) kS) ?_
  show OFin p e below s _ _ _ (T0.setTop (mkF m 102 #[.val (.int p1), .val (.int k), .val (.ref a), .val (.int (0 : Int32)), .val (.int (1 : Int32)), .unset] [(.int (3 : Int32)), (.int k)]))
  by_cases c1 : (3 : Int32) < k
  · refine own_st (fun _ kS => XS.icmpNo X0.here hx rfl (hb hby at_102) rfl (tlt c1).2.2.2 kS) ?_
    show OFin p e below s _ _ _ (T0.setTop (mkF m 105 #[.val (.int p1), .val (.int k), .val (.ref a), .val (.int (0 : Int32)), .val (.int (1 : Int32)), .unset] []))
    refine own_st (fun _ kS => XS.aloadN X0.here hx rfl (hb hby at_105) rfl rfl kS) ?_
    show OFin p e below s _ _ _ (T0.setTop (mkF m 106 #[.val (.int p1), .val (.int k), .val (.ref a), .val (.int (0 : Int32)), .val (.int (1 : Int32)), .unset] [(.ref a)]))
    obtain ⟨i1, i2, i3⟩ := own_inc hn (by decide)
    obtain ⟨v15, T15, L15, X15, hQ15, st15⟩ := own_virtual X0 hx hZ (y := (⟨"com/example/notation_search/notationsearch/math/SymbolCount", "take", "()Z"⟩ : MethodName)) (z := (⟨"com/example/notation_search/notationsearch/math/SymbolCount", "take", "()Z"⟩ : MethodName)) (rm := ⟨0, 0, 0, 0⟩) (W := 0) (a := a) (argsL := []) (rest := []) hown (own_w hw 16 rfl) (own_w hw 17 rfl) (notFace_of_selects (args := #[]) (mvT hZ (own_w hw 19 rfl))) (own_w hw 19 rfl) (own_w hw 18 rfl) (own_w hw 2 rfl) (own_w hw 20 rfl) (rmT l Z a0 hw a h0 n0 n E_a F_p F_r g_a i1) e0 E_a (g := (mkF m 106 #[.val (.int p1), .val (.int k), .val (.ref a), .val (.int (0 : Int32)), .val (.int (1 : Int32)), .unset] [(.ref a)])) rfl (by rw [hml]; rfl) (lenOf own_pd0 rfl) rfl (by show 2 * 0 + _ ≤ _; exact Nat.le_of_eq rfl) (hb hby at_106) (by decide) (by decide) hcs hss
    obtain ⟨rfl, N15, K15, EE15, FP15, FR15⟩ := hQ15
    refine own_st (st15) ?_
    show OFin p e below s _ _ _ (T15.setTop (mkF m 109 #[.val (.int p1), .val (.int k), .val (.ref a), .val (.int (0 : Int32)), .val (.int (1 : Int32)), .unset] [(.int (1 : Int32))]))
    refine own_st (fun _ kS => XS.ifNo X15.here hx rfl (hb hby at_109) rfl ((if0 _ _).trans (feq (by decide)).1) kS) ?_
    show OFin p e below s _ _ _ (T15.setTop (mkF m 112 #[.val (.int p1), .val (.int k), .val (.ref a), .val (.int (0 : Int32)), .val (.int (1 : Int32)), .unset] []))
    refine own_st (fun _ kS => XS.iload X15.here hx rfl (hb hby at_112) rfl kS) ?_
    show OFin p e below s _ _ _ (T15.setTop (mkF m 114 #[.val (.int p1), .val (.int k), .val (.ref a), .val (.int (0 : Int32)), .val (.int (1 : Int32)), .unset] [(.int (1 : Int32))]))
    refine own_st (fun _ kS => XS.ifNo X15.here hx rfl (hb hby at_114) rfl ((if0 _ _).trans (feq (by decide)).1) kS) ?_
    show OFin p e below s _ _ _ (T15.setTop (mkF m 117 #[.val (.int p1), .val (.int k), .val (.ref a), .val (.int (0 : Int32)), .val (.int (1 : Int32)), .unset] []))
    refine own_st (fun _ kS => XS.iconst X15.here hx rfl (hb hby at_117) kS) ?_
    show OFin p e below s _ _ _ (T15.setTop (mkF m 118 #[.val (.int p1), .val (.int k), .val (.ref a), .val (.int (0 : Int32)), .val (.int (1 : Int32)), .unset] [(.int (1 : Int32))]))
    refine own_st (fun _ kS => XS.goto X15.here hx rfl (pc0 := 118) (pc' := 122) rfl (hb hby at_118) (by decide) (by decide) kS) ?_
    show OFin p e below s _ _ _ (T15.setTop (mkF m 122 #[.val (.int p1), .val (.int k), .val (.ref a), .val (.int (0 : Int32)), .val (.int (1 : Int32)), .unset] [(.int (1 : Int32))]))
    refine own_st (fun _ kS => XS.istore X15.here hx rfl (hb hby at_122) rfl (l' := #[.val (.int p1), .val (.int k), .val (.ref a), .val (.int (0 : Int32)), .val (.int (1 : Int32)), .unset]) rfl kS) ?_
    show OFin p e below s _ _ _ (T15.setTop (mkF m 124 #[.val (.int p1), .val (.int k), .val (.ref a), .val (.int (0 : Int32)), .val (.int (1 : Int32)), .unset] []))
    exact own_p4 hw hC0 X15 rfl n0 p1 k _ a EE15 FP15 FR15 g_a (Fr.app N0 N15) hcs hss ⟨i2, i3⟩
  · refine own_st (fun _ kS => XS.icmpYes X0.here hx rfl (pc0 := 102) (pc' := 124) rfl (hb hby at_102) rfl (flt c1).2.2.2 (by decide) (by decide) kS) ?_
    show OFin p e below s _ _ _ (T0.setTop (mkF m 124 #[.val (.int p1), .val (.int k), .val (.ref a), .val (.int (0 : Int32)), .val (.int (1 : Int32)), .unset] []))
    exact own_p4 hw hC0 X0 e0 n0 p1 k _ a E_a F_p F_r g_a N0 hcs hss ⟨hn.1, by omega⟩
set_option maxRecDepth 65536 in
set_option maxHeartbeats 40000000 in
theorem own_p2 {l : Launch} {Z : State} {a0 : Array Value} (hw : ∀ d ∈ tables_1, d.before a0 Z = true) {p : Program} {e : Env} {s : State} {m : MethodId} {args : Array Value} {below : List Frame} {meth : Method} {c : Code} (hC : OCtx Z p s m meth c "com/example/notation_search/notationsearch/math/SymbolCountTakePinLaw" "law" code maxLocals ret) {T0 : State} {locs : List Loc} {cells slots : Nat} (X0 : Stand p l e room_1 s m args below meth c T0 locs cells slots) {h0 : Heap} (e0 : T0.heap = h0) (n0 : Nat) (p1 k n : Int32) (a : Addr) (E_a : Exa Z h0 a "com/example/notation_search/notationsearch/math/SymbolCount") (F_p : Fld Z h0 a "com/example/notation_search/notationsearch/math/SymbolCount" "placed" "I" (.int n)) (F_r : Fld Z h0 a "com/example/notation_search/notationsearch/math/SymbolCount" "refused" "Z" (.int (0 : Int32))) (g_a : n0 ≤ a) (N0 : Fr n0 locs) (hcs : cells ≤ room_1.cells) (hss : slots ≤ room_1.slots) (hn : 0 ≤ n.toInt ∧ n.toInt ≤ 2) :
    OFin p e below s room_1.cells room_1.slots (fun v h L => v = some (.int (1 : Int32)) ∧ Fr n0 L) (T0.setTop (mkF m 76 #[.val (.int p1), .val (.int k), .val (.ref a), .val (.int (0 : Int32)), .val (.int (1 : Int32)), .unset] [])) := by
  have hC0 := hC
  obtain ⟨hx, hZ, hby, hml, hown, hret, hlk, hnm⟩ := hC
  refine own_st (fun _ kS => XS.iloadN X0.here hx rfl (hb hby at_76) rfl kS) ?_
  show OFin p e below s _ _ _ (T0.setTop (mkF m 77 #[.val (.int p1), .val (.int k), .val (.ref a), .val (.int (0 : Int32)), .val (.int (1 : Int32)), .unset] [(.int k)]))
  refine own_st (fun _ kS => XS.iconst X0.here hx rfl (hb hby at_77) kS) ?_
  show OFin p e below s _ _ _ (T0.setTop (mkF m 78 #[.val (.int p1), .val (.int k), .val (.ref a), .val (.int (0 : Int32)), .val (.int (1 : Int32)), .unset] [(.int (2 : Int32)), (.int k)]))
  by_cases c1 : (2 : Int32) < k
  · refine own_st (fun _ kS => XS.icmpNo X0.here hx rfl (hb hby at_78) rfl (tlt c1).2.2.2 kS) ?_
    show OFin p e below s _ _ _ (T0.setTop (mkF m 81 #[.val (.int p1), .val (.int k), .val (.ref a), .val (.int (0 : Int32)), .val (.int (1 : Int32)), .unset] []))
    refine own_st (fun _ kS => XS.aloadN X0.here hx rfl (hb hby at_81) rfl rfl kS) ?_
    show OFin p e below s _ _ _ (T0.setTop (mkF m 82 #[.val (.int p1), .val (.int k), .val (.ref a), .val (.int (0 : Int32)), .val (.int (1 : Int32)), .unset] [(.ref a)]))
    obtain ⟨i1, i2, i3⟩ := own_inc hn (by decide)
    obtain ⟨v16, T16, L16, X16, hQ16, st16⟩ := own_virtual X0 hx hZ (y := (⟨"com/example/notation_search/notationsearch/math/SymbolCount", "take", "()Z"⟩ : MethodName)) (z := (⟨"com/example/notation_search/notationsearch/math/SymbolCount", "take", "()Z"⟩ : MethodName)) (rm := ⟨0, 0, 0, 0⟩) (W := 0) (a := a) (argsL := []) (rest := []) hown (own_w hw 16 rfl) (own_w hw 17 rfl) (notFace_of_selects (args := #[]) (mvT hZ (own_w hw 19 rfl))) (own_w hw 19 rfl) (own_w hw 18 rfl) (own_w hw 2 rfl) (own_w hw 20 rfl) (rmT l Z a0 hw a h0 n0 n E_a F_p F_r g_a i1) e0 E_a (g := (mkF m 82 #[.val (.int p1), .val (.int k), .val (.ref a), .val (.int (0 : Int32)), .val (.int (1 : Int32)), .unset] [(.ref a)])) rfl (by rw [hml]; rfl) (lenOf own_pd0 rfl) rfl (by show 2 * 0 + _ ≤ _; exact Nat.le_of_eq rfl) (hb hby at_82) (by decide) (by decide) hcs hss
    obtain ⟨rfl, N16, K16, EE16, FP16, FR16⟩ := hQ16
    refine own_st (st16) ?_
    show OFin p e below s _ _ _ (T16.setTop (mkF m 85 #[.val (.int p1), .val (.int k), .val (.ref a), .val (.int (0 : Int32)), .val (.int (1 : Int32)), .unset] [(.int (1 : Int32))]))
    refine own_st (fun _ kS => XS.ifNo X16.here hx rfl (hb hby at_85) rfl ((if0 _ _).trans (feq (by decide)).1) kS) ?_
    show OFin p e below s _ _ _ (T16.setTop (mkF m 88 #[.val (.int p1), .val (.int k), .val (.ref a), .val (.int (0 : Int32)), .val (.int (1 : Int32)), .unset] []))
    refine own_st (fun _ kS => XS.iload X16.here hx rfl (hb hby at_88) rfl kS) ?_
    show OFin p e below s _ _ _ (T16.setTop (mkF m 90 #[.val (.int p1), .val (.int k), .val (.ref a), .val (.int (0 : Int32)), .val (.int (1 : Int32)), .unset] [(.int (1 : Int32))]))
    refine own_st (fun _ kS => XS.ifNo X16.here hx rfl (hb hby at_90) rfl ((if0 _ _).trans (feq (by decide)).1) kS) ?_
    show OFin p e below s _ _ _ (T16.setTop (mkF m 93 #[.val (.int p1), .val (.int k), .val (.ref a), .val (.int (0 : Int32)), .val (.int (1 : Int32)), .unset] []))
    refine own_st (fun _ kS => XS.iconst X16.here hx rfl (hb hby at_93) kS) ?_
    show OFin p e below s _ _ _ (T16.setTop (mkF m 94 #[.val (.int p1), .val (.int k), .val (.ref a), .val (.int (0 : Int32)), .val (.int (1 : Int32)), .unset] [(.int (1 : Int32))]))
    refine own_st (fun _ kS => XS.goto X16.here hx rfl (pc0 := 94) (pc' := 98) rfl (hb hby at_94) (by decide) (by decide) kS) ?_
    show OFin p e below s _ _ _ (T16.setTop (mkF m 98 #[.val (.int p1), .val (.int k), .val (.ref a), .val (.int (0 : Int32)), .val (.int (1 : Int32)), .unset] [(.int (1 : Int32))]))
    refine own_st (fun _ kS => XS.istore X16.here hx rfl (hb hby at_98) rfl (l' := #[.val (.int p1), .val (.int k), .val (.ref a), .val (.int (0 : Int32)), .val (.int (1 : Int32)), .unset]) rfl kS) ?_
    show OFin p e below s _ _ _ (T16.setTop (mkF m 100 #[.val (.int p1), .val (.int k), .val (.ref a), .val (.int (0 : Int32)), .val (.int (1 : Int32)), .unset] []))
    exact own_p3 hw hC0 X16 rfl n0 p1 k _ a EE16 FP16 FR16 g_a (Fr.app N0 N16) hcs hss ⟨i2, i3⟩
  · refine own_st (fun _ kS => XS.icmpYes X0.here hx rfl (pc0 := 78) (pc' := 100) rfl (hb hby at_78) rfl (flt c1).2.2.2 (by decide) (by decide) kS) ?_
    show OFin p e below s _ _ _ (T0.setTop (mkF m 100 #[.val (.int p1), .val (.int k), .val (.ref a), .val (.int (0 : Int32)), .val (.int (1 : Int32)), .unset] []))
    exact own_p3 hw hC0 X0 e0 n0 p1 k _ a E_a F_p F_r g_a N0 hcs hss ⟨hn.1, by omega⟩
set_option maxRecDepth 65536 in
set_option maxHeartbeats 40000000 in
theorem own_p1 {l : Launch} {Z : State} {a0 : Array Value} (hw : ∀ d ∈ tables_1, d.before a0 Z = true) {p : Program} {e : Env} {s : State} {m : MethodId} {args : Array Value} {below : List Frame} {meth : Method} {c : Code} (hC : OCtx Z p s m meth c "com/example/notation_search/notationsearch/math/SymbolCountTakePinLaw" "law" code maxLocals ret) {T0 : State} {locs : List Loc} {cells slots : Nat} (X0 : Stand p l e room_1 s m args below meth c T0 locs cells slots) {h0 : Heap} (e0 : T0.heap = h0) (n0 : Nat) (p1 k n : Int32) (a : Addr) (E_a : Exa Z h0 a "com/example/notation_search/notationsearch/math/SymbolCount") (F_p : Fld Z h0 a "com/example/notation_search/notationsearch/math/SymbolCount" "placed" "I" (.int n)) (F_r : Fld Z h0 a "com/example/notation_search/notationsearch/math/SymbolCount" "refused" "Z" (.int (0 : Int32))) (g_a : n0 ≤ a) (N0 : Fr n0 locs) (hcs : cells ≤ room_1.cells) (hss : slots ≤ room_1.slots) (hn : 0 ≤ n.toInt ∧ n.toInt ≤ 1) :
    OFin p e below s room_1.cells room_1.slots (fun v h L => v = some (.int (1 : Int32)) ∧ Fr n0 L) (T0.setTop (mkF m 52 #[.val (.int p1), .val (.int k), .val (.ref a), .val (.int (0 : Int32)), .val (.int (1 : Int32)), .unset] [])) := by
  have hC0 := hC
  obtain ⟨hx, hZ, hby, hml, hown, hret, hlk, hnm⟩ := hC
  refine own_st (fun _ kS => XS.iloadN X0.here hx rfl (hb hby at_52) rfl kS) ?_
  show OFin p e below s _ _ _ (T0.setTop (mkF m 53 #[.val (.int p1), .val (.int k), .val (.ref a), .val (.int (0 : Int32)), .val (.int (1 : Int32)), .unset] [(.int k)]))
  refine own_st (fun _ kS => XS.iconst X0.here hx rfl (hb hby at_53) kS) ?_
  show OFin p e below s _ _ _ (T0.setTop (mkF m 54 #[.val (.int p1), .val (.int k), .val (.ref a), .val (.int (0 : Int32)), .val (.int (1 : Int32)), .unset] [(.int (1 : Int32)), (.int k)]))
  by_cases c1 : (1 : Int32) < k
  · refine own_st (fun _ kS => XS.icmpNo X0.here hx rfl (hb hby at_54) rfl (tlt c1).2.2.2 kS) ?_
    show OFin p e below s _ _ _ (T0.setTop (mkF m 57 #[.val (.int p1), .val (.int k), .val (.ref a), .val (.int (0 : Int32)), .val (.int (1 : Int32)), .unset] []))
    refine own_st (fun _ kS => XS.aloadN X0.here hx rfl (hb hby at_57) rfl rfl kS) ?_
    show OFin p e below s _ _ _ (T0.setTop (mkF m 58 #[.val (.int p1), .val (.int k), .val (.ref a), .val (.int (0 : Int32)), .val (.int (1 : Int32)), .unset] [(.ref a)]))
    obtain ⟨i1, i2, i3⟩ := own_inc hn (by decide)
    obtain ⟨v17, T17, L17, X17, hQ17, st17⟩ := own_virtual X0 hx hZ (y := (⟨"com/example/notation_search/notationsearch/math/SymbolCount", "take", "()Z"⟩ : MethodName)) (z := (⟨"com/example/notation_search/notationsearch/math/SymbolCount", "take", "()Z"⟩ : MethodName)) (rm := ⟨0, 0, 0, 0⟩) (W := 0) (a := a) (argsL := []) (rest := []) hown (own_w hw 16 rfl) (own_w hw 17 rfl) (notFace_of_selects (args := #[]) (mvT hZ (own_w hw 19 rfl))) (own_w hw 19 rfl) (own_w hw 18 rfl) (own_w hw 2 rfl) (own_w hw 20 rfl) (rmT l Z a0 hw a h0 n0 n E_a F_p F_r g_a i1) e0 E_a (g := (mkF m 58 #[.val (.int p1), .val (.int k), .val (.ref a), .val (.int (0 : Int32)), .val (.int (1 : Int32)), .unset] [(.ref a)])) rfl (by rw [hml]; rfl) (lenOf own_pd0 rfl) rfl (by show 2 * 0 + _ ≤ _; exact Nat.le_of_eq rfl) (hb hby at_58) (by decide) (by decide) hcs hss
    obtain ⟨rfl, N17, K17, EE17, FP17, FR17⟩ := hQ17
    refine own_st (st17) ?_
    show OFin p e below s _ _ _ (T17.setTop (mkF m 61 #[.val (.int p1), .val (.int k), .val (.ref a), .val (.int (0 : Int32)), .val (.int (1 : Int32)), .unset] [(.int (1 : Int32))]))
    refine own_st (fun _ kS => XS.ifNo X17.here hx rfl (hb hby at_61) rfl ((if0 _ _).trans (feq (by decide)).1) kS) ?_
    show OFin p e below s _ _ _ (T17.setTop (mkF m 64 #[.val (.int p1), .val (.int k), .val (.ref a), .val (.int (0 : Int32)), .val (.int (1 : Int32)), .unset] []))
    refine own_st (fun _ kS => XS.iload X17.here hx rfl (hb hby at_64) rfl kS) ?_
    show OFin p e below s _ _ _ (T17.setTop (mkF m 66 #[.val (.int p1), .val (.int k), .val (.ref a), .val (.int (0 : Int32)), .val (.int (1 : Int32)), .unset] [(.int (1 : Int32))]))
    refine own_st (fun _ kS => XS.ifNo X17.here hx rfl (hb hby at_66) rfl ((if0 _ _).trans (feq (by decide)).1) kS) ?_
    show OFin p e below s _ _ _ (T17.setTop (mkF m 69 #[.val (.int p1), .val (.int k), .val (.ref a), .val (.int (0 : Int32)), .val (.int (1 : Int32)), .unset] []))
    refine own_st (fun _ kS => XS.iconst X17.here hx rfl (hb hby at_69) kS) ?_
    show OFin p e below s _ _ _ (T17.setTop (mkF m 70 #[.val (.int p1), .val (.int k), .val (.ref a), .val (.int (0 : Int32)), .val (.int (1 : Int32)), .unset] [(.int (1 : Int32))]))
    refine own_st (fun _ kS => XS.goto X17.here hx rfl (pc0 := 70) (pc' := 74) rfl (hb hby at_70) (by decide) (by decide) kS) ?_
    show OFin p e below s _ _ _ (T17.setTop (mkF m 74 #[.val (.int p1), .val (.int k), .val (.ref a), .val (.int (0 : Int32)), .val (.int (1 : Int32)), .unset] [(.int (1 : Int32))]))
    refine own_st (fun _ kS => XS.istore X17.here hx rfl (hb hby at_74) rfl (l' := #[.val (.int p1), .val (.int k), .val (.ref a), .val (.int (0 : Int32)), .val (.int (1 : Int32)), .unset]) rfl kS) ?_
    show OFin p e below s _ _ _ (T17.setTop (mkF m 76 #[.val (.int p1), .val (.int k), .val (.ref a), .val (.int (0 : Int32)), .val (.int (1 : Int32)), .unset] []))
    exact own_p2 hw hC0 X17 rfl n0 p1 k _ a EE17 FP17 FR17 g_a (Fr.app N0 N17) hcs hss ⟨i2, i3⟩
  · refine own_st (fun _ kS => XS.icmpYes X0.here hx rfl (pc0 := 54) (pc' := 76) rfl (hb hby at_54) rfl (flt c1).2.2.2 (by decide) (by decide) kS) ?_
    show OFin p e below s _ _ _ (T0.setTop (mkF m 76 #[.val (.int p1), .val (.int k), .val (.ref a), .val (.int (0 : Int32)), .val (.int (1 : Int32)), .unset] []))
    exact own_p2 hw hC0 X0 e0 n0 p1 k _ a E_a F_p F_r g_a N0 hcs hss ⟨hn.1, by omega⟩
set_option maxRecDepth 65536 in
set_option maxHeartbeats 40000000 in
theorem own_p0 {l : Launch} {Z : State} {a0 : Array Value} (hw : ∀ d ∈ tables_1, d.before a0 Z = true) {p : Program} {e : Env} {s : State} {m : MethodId} {args : Array Value} {below : List Frame} {meth : Method} {c : Code} (hC : OCtx Z p s m meth c "com/example/notation_search/notationsearch/math/SymbolCountTakePinLaw" "law" code maxLocals ret) {T0 : State} {locs : List Loc} {cells slots : Nat} (X0 : Stand p l e room_1 s m args below meth c T0 locs cells slots) {h0 : Heap} (e0 : T0.heap = h0) (n0 : Nat) (p1 k n : Int32) (a : Addr) (E_a : Exa Z h0 a "com/example/notation_search/notationsearch/math/SymbolCount") (F_p : Fld Z h0 a "com/example/notation_search/notationsearch/math/SymbolCount" "placed" "I" (.int n)) (F_r : Fld Z h0 a "com/example/notation_search/notationsearch/math/SymbolCount" "refused" "Z" (.int (0 : Int32))) (g_a : n0 ≤ a) (N0 : Fr n0 locs) (hcs : cells ≤ room_1.cells) (hss : slots ≤ room_1.slots) (hn : 0 ≤ n.toInt ∧ n.toInt ≤ 0) :
    OFin p e below s room_1.cells room_1.slots (fun v h L => v = some (.int (1 : Int32)) ∧ Fr n0 L) (T0.setTop (mkF m 29 #[.val (.int p1), .val (.int k), .val (.ref a), .val (.int (0 : Int32)), .val (.int (1 : Int32)), .unset] [])) := by
  have hC0 := hC
  obtain ⟨hx, hZ, hby, hml, hown, hret, hlk, hnm⟩ := hC
  refine own_st (fun _ kS => XS.iloadN X0.here hx rfl (hb hby at_29) rfl kS) ?_
  show OFin p e below s _ _ _ (T0.setTop (mkF m 30 #[.val (.int p1), .val (.int k), .val (.ref a), .val (.int (0 : Int32)), .val (.int (1 : Int32)), .unset] [(.int k)]))
  by_cases c1 : (0 : Int32) < k
  · refine own_st (fun _ kS => XS.ifNo X0.here hx rfl (hb hby at_30) rfl ((if0 _ _).trans (tlt c1).2.2.2) kS) ?_
    show OFin p e below s _ _ _ (T0.setTop (mkF m 33 #[.val (.int p1), .val (.int k), .val (.ref a), .val (.int (0 : Int32)), .val (.int (1 : Int32)), .unset] []))
    refine own_st (fun _ kS => XS.aloadN X0.here hx rfl (hb hby at_33) rfl rfl kS) ?_
    show OFin p e below s _ _ _ (T0.setTop (mkF m 34 #[.val (.int p1), .val (.int k), .val (.ref a), .val (.int (0 : Int32)), .val (.int (1 : Int32)), .unset] [(.ref a)]))
    obtain ⟨i1, i2, i3⟩ := own_inc hn (by decide)
    obtain ⟨v18, T18, L18, X18, hQ18, st18⟩ := own_virtual X0 hx hZ (y := (⟨"com/example/notation_search/notationsearch/math/SymbolCount", "take", "()Z"⟩ : MethodName)) (z := (⟨"com/example/notation_search/notationsearch/math/SymbolCount", "take", "()Z"⟩ : MethodName)) (rm := ⟨0, 0, 0, 0⟩) (W := 0) (a := a) (argsL := []) (rest := []) hown (own_w hw 16 rfl) (own_w hw 17 rfl) (notFace_of_selects (args := #[]) (mvT hZ (own_w hw 19 rfl))) (own_w hw 19 rfl) (own_w hw 18 rfl) (own_w hw 2 rfl) (own_w hw 20 rfl) (rmT l Z a0 hw a h0 n0 n E_a F_p F_r g_a i1) e0 E_a (g := (mkF m 34 #[.val (.int p1), .val (.int k), .val (.ref a), .val (.int (0 : Int32)), .val (.int (1 : Int32)), .unset] [(.ref a)])) rfl (by rw [hml]; rfl) (lenOf own_pd0 rfl) rfl (by show 2 * 0 + _ ≤ _; exact Nat.le_of_eq rfl) (hb hby at_34) (by decide) (by decide) hcs hss
    obtain ⟨rfl, N18, K18, EE18, FP18, FR18⟩ := hQ18
    refine own_st (st18) ?_
    show OFin p e below s _ _ _ (T18.setTop (mkF m 37 #[.val (.int p1), .val (.int k), .val (.ref a), .val (.int (0 : Int32)), .val (.int (1 : Int32)), .unset] [(.int (1 : Int32))]))
    refine own_st (fun _ kS => XS.ifNo X18.here hx rfl (hb hby at_37) rfl ((if0 _ _).trans (feq (by decide)).1) kS) ?_
    show OFin p e below s _ _ _ (T18.setTop (mkF m 40 #[.val (.int p1), .val (.int k), .val (.ref a), .val (.int (0 : Int32)), .val (.int (1 : Int32)), .unset] []))
    refine own_st (fun _ kS => XS.iload X18.here hx rfl (hb hby at_40) rfl kS) ?_
    show OFin p e below s _ _ _ (T18.setTop (mkF m 42 #[.val (.int p1), .val (.int k), .val (.ref a), .val (.int (0 : Int32)), .val (.int (1 : Int32)), .unset] [(.int (1 : Int32))]))
    refine own_st (fun _ kS => XS.ifNo X18.here hx rfl (hb hby at_42) rfl ((if0 _ _).trans (feq (by decide)).1) kS) ?_
    show OFin p e below s _ _ _ (T18.setTop (mkF m 45 #[.val (.int p1), .val (.int k), .val (.ref a), .val (.int (0 : Int32)), .val (.int (1 : Int32)), .unset] []))
    refine own_st (fun _ kS => XS.iconst X18.here hx rfl (hb hby at_45) kS) ?_
    show OFin p e below s _ _ _ (T18.setTop (mkF m 46 #[.val (.int p1), .val (.int k), .val (.ref a), .val (.int (0 : Int32)), .val (.int (1 : Int32)), .unset] [(.int (1 : Int32))]))
    refine own_st (fun _ kS => XS.goto X18.here hx rfl (pc0 := 46) (pc' := 50) rfl (hb hby at_46) (by decide) (by decide) kS) ?_
    show OFin p e below s _ _ _ (T18.setTop (mkF m 50 #[.val (.int p1), .val (.int k), .val (.ref a), .val (.int (0 : Int32)), .val (.int (1 : Int32)), .unset] [(.int (1 : Int32))]))
    refine own_st (fun _ kS => XS.istore X18.here hx rfl (hb hby at_50) rfl (l' := #[.val (.int p1), .val (.int k), .val (.ref a), .val (.int (0 : Int32)), .val (.int (1 : Int32)), .unset]) rfl kS) ?_
    show OFin p e below s _ _ _ (T18.setTop (mkF m 52 #[.val (.int p1), .val (.int k), .val (.ref a), .val (.int (0 : Int32)), .val (.int (1 : Int32)), .unset] []))
    exact own_p1 hw hC0 X18 rfl n0 p1 k _ a EE18 FP18 FR18 g_a (Fr.app N0 N18) hcs hss ⟨i2, i3⟩
  · refine own_st (fun _ kS => XS.ifYes X0.here hx rfl (pc0 := 30) (pc' := 52) rfl (hb hby at_30) rfl ((if0 _ _).trans (flt c1).2.2.2) (by decide) (by decide) kS) ?_
    show OFin p e below s _ _ _ (T0.setTop (mkF m 52 #[.val (.int p1), .val (.int k), .val (.ref a), .val (.int (0 : Int32)), .val (.int (1 : Int32)), .unset] []))
    exact own_p1 hw hC0 X0 e0 n0 p1 k _ a E_a F_p F_r g_a N0 hcs hss ⟨hn.1, by omega⟩
set_option maxRecDepth 65536 in
set_option maxHeartbeats 40000000 in
theorem rm0 (l : Launch) (Z : State) (a0 : Array Value) (hw : ∀ d ∈ tables_1, d.before a0 Z = true) (p1 : Int32) (h0 : Heap) (n0 : Nat) (Z0 : n0 ≤ h0.size)  :
    OMet l Z x code maxLocals ret room_1 #[(.int p1)] h0 (fun v h L => v = some (.int (1 : Int32)) ∧ Fr n0 L) := by
  refine own_enter own_pn0 ?_
  intro p e s m below meth c T0 X0 hC e0
  obtain ⟨hx, hZ, hby, hml, hown, hret, hlk, hnm⟩ := hC
  have hown : s.vm.findClass "com/example/notation_search/notationsearch/math/SymbolCountTakePinLaw" = some m.cls := hown
  refine own_at (own_ef0_I m p1) ?_
  show OFin p e below s _ _ _ (T0.setTop (mkF m 0 #[.val (.int p1), .unset, .unset, .unset, .unset, .unset] []))
  have N0 := Fr.nil n0
  have hC0 : OCtx Z p s m meth c "com/example/notation_search/notationsearch/math/SymbolCountTakePinLaw" "law" code maxLocals ret := ⟨hx, hZ, hby, hml, hown, hret, hlk, hnm⟩
  refine own_st (fun _ kS => XS.iloadN X0.here hx rfl (hb hby at_0) rfl kS) ?_
  show OFin p e below s _ _ _ (T0.setTop (mkF m 1 #[.val (.int p1), .unset, .unset, .unset, .unset, .unset] [(.int p1)]))
  refine own_st (fun _ kS => XS.bipush X0.here hx rfl (hb hby at_1) kS) ?_
  show OFin p e below s _ _ _ (T0.setTop (mkF m 3 #[.val (.int p1), .unset, .unset, .unset, .unset, .unset] [(.int (7 : Int32)), (.int p1)]))
  refine own_st (fun _ kS => XS.iand X0.here hx rfl (hb hby at_3) rfl kS) ?_
  show OFin p e below s _ _ _ (T0.setTop (mkF m 4 #[.val (.int p1), .unset, .unset, .unset, .unset, .unset] [(.int (p1 &&& (7 : Int32)))]))
  refine own_st (fun _ kS => XS.istoreN X0.here hx rfl (hb hby at_4) rfl (l' := #[.val (.int p1), .val (.int (p1 &&& (7 : Int32))), .unset, .unset, .unset, .unset]) rfl kS) ?_
  show OFin p e below s _ _ _ (T0.setTop (mkF m 5 #[.val (.int p1), .val (.int (p1 &&& (7 : Int32))), .unset, .unset, .unset, .unset] []))
  generalize hk : (p1 &&& (7 : Int32)) = k
  show OFin p e below s _ _ _ (T0.setTop (mkF m 5 #[.val (.int p1), .val (.int k), .unset, .unset, .unset, .unset] []))
  obtain ⟨T19, h19, X19, e19, E19, A19, D19, -, st19⟩ := newO X0 hx hZ hown (own_w hw 0 rfl) (own_w hw 1 rfl) (own_w hw 2 rfl) e0 (g := (mkF m 5 #[.val (.int p1), .val (.int k), .unset, .unset, .unset, .unset] [])) rfl (hb hby at_5) (by decide) (by decide)
  obtain ⟨a, g19⟩ : ∃ z, z = h0.size := ⟨_, rfl⟩
  rw [← g19] at A19 D19 st19
  have g_a : n0 ≤ a := Nat.le_trans Z0 (Nat.le_of_eq g19.symm)
  have f20 : Fld Z h19 a "com/example/notation_search/notationsearch/math/SymbolCount" "refused" "Z" (.int (0 : Int32)) := D19 (Or.inl (own_w hw 15 rfl)) (ty := .boolean) (by decide)
  have f21 : Fld Z h19 a "com/example/notation_search/notationsearch/math/SymbolCount" "placed" "I" (.int (0 : Int32)) := D19 (Or.inl (own_w hw 22 rfl)) (ty := .int) (by decide)
  have sz19 : n0 ≤ h19.size := Nat.le_trans Z0 E19.1
  refine own_st (st19) ?_
  show OFin p e below s _ _ _ (T19.setTop (mkF m 8 #[.val (.int p1), .val (.int k), .unset, .unset, .unset, .unset] [(.ref a)]))
  refine own_st (fun _ kS => XS.dup X19.here hx rfl (hb hby at_8) rfl rfl kS) ?_
  show OFin p e below s _ _ _ (T19.setTop (mkF m 9 #[.val (.int p1), .val (.int k), .unset, .unset, .unset, .unset] [(.ref a), (.ref a)]))
  obtain ⟨v22, T22, L22, X22, hQ22, st22⟩ := own_init X19 hx hZ (y := (⟨"com/example/notation_search/notationsearch/math/SymbolCount", "<init>", "()V"⟩ : MethodName)) (rm := ⟨1, 0, 0, 12⟩) (W := 1) (a := a) (argsL := []) (rest := [(.ref a)]) rfl hown (own_w hw 3 rfl) (own_w hw 4 rfl) (own_w hw 2 rfl) (own_w hw 5 rfl) (rmI l Z a0 hw a h19) e19 (g := (mkF m 9 #[.val (.int p1), .val (.int k), .unset, .unset, .unset, .unset] [(.ref a), (.ref a)])) rfl (by rw [hml]; rfl) (lenOf own_pd1 rfl) rfl (by show 2 * 0 + _ ≤ _; exact Nat.le_of_eq rfl) (hb hby at_9) (by decide) (by decide) (by decide) (by decide)
  obtain ⟨rfl, e22, rfl⟩ := hQ22
  rw [List.append_nil] at X22
  refine own_st (st22) ?_
  show OFin p e below s _ _ _ (T22.setTop (mkF m 12 #[.val (.int p1), .val (.int k), .unset, .unset, .unset, .unset] [(.ref a)]))
  refine own_st (fun _ kS => XS.astoreN X22.here hx rfl (hb hby at_12) rfl rfl (l' := #[.val (.int p1), .val (.int k), .val (.ref a), .unset, .unset, .unset]) rfl kS) ?_
  show OFin p e below s _ _ _ (T22.setTop (mkF m 13 #[.val (.int p1), .val (.int k), .val (.ref a), .unset, .unset, .unset] []))
  refine own_st (fun _ kS => XS.aloadN X22.here hx rfl (hb hby at_13) rfl rfl kS) ?_
  show OFin p e below s _ _ _ (T22.setTop (mkF m 14 #[.val (.int p1), .val (.int k), .val (.ref a), .unset, .unset, .unset] [(.ref a)]))
  obtain ⟨v23, T23, L23, X23, hQ23, st23⟩ := own_virtual X22 hx hZ (y := (⟨"com/example/notation_search/notationsearch/math/SymbolCount", "refused", "()Z"⟩ : MethodName)) (z := (⟨"com/example/notation_search/notationsearch/math/SymbolCount", "refused", "()Z"⟩ : MethodName)) (rm := ⟨0, 0, 0, 0⟩) (W := 0) (a := a) (argsL := []) (rest := []) hown (own_w hw 9 rfl) (own_w hw 10 rfl) (notFace_of_selects (args := #[]) (mvT hZ (own_w hw 12 rfl))) (own_w hw 12 rfl) (own_w hw 11 rfl) (own_w hw 2 rfl) (own_w hw 13 rfl) (rmR l Z a0 hw a h19 f20) e22 A19 (g := (mkF m 14 #[.val (.int p1), .val (.int k), .val (.ref a), .unset, .unset, .unset] [(.ref a)])) rfl (by rw [hml]; rfl) (lenOf own_pd0 rfl) rfl (by show 2 * 0 + _ ≤ _; exact Nat.le_of_eq rfl) (hb hby at_14) (by decide) (by decide) (by decide) (by decide)
  obtain ⟨rfl, e23, rfl⟩ := hQ23
  rw [List.append_nil] at X23
  refine own_st (st23) ?_
  show OFin p e below s _ _ _ (T23.setTop (mkF m 17 #[.val (.int p1), .val (.int k), .val (.ref a), .unset, .unset, .unset] [(.int (0 : Int32))]))
  refine own_st (fun _ kS => XS.istoreN X23.here hx rfl (hb hby at_17) rfl (l' := #[.val (.int p1), .val (.int k), .val (.ref a), .val (.int (0 : Int32)), .unset, .unset]) rfl kS) ?_
  show OFin p e below s _ _ _ (T23.setTop (mkF m 18 #[.val (.int p1), .val (.int k), .val (.ref a), .val (.int (0 : Int32)), .unset, .unset] []))
  refine own_st (fun _ kS => XS.iloadN X23.here hx rfl (hb hby at_18) rfl kS) ?_
  show OFin p e below s _ _ _ (T23.setTop (mkF m 19 #[.val (.int p1), .val (.int k), .val (.ref a), .val (.int (0 : Int32)), .unset, .unset] [(.int (0 : Int32))]))
  refine own_st (fun _ kS => XS.ifNo X23.here hx rfl (hb hby at_19) rfl ((if0 _ _).trans (teq rfl).2) kS) ?_
  show OFin p e below s _ _ _ (T23.setTop (mkF m 22 #[.val (.int p1), .val (.int k), .val (.ref a), .val (.int (0 : Int32)), .unset, .unset] []))
  refine own_st (fun _ kS => XS.iconst X23.here hx rfl (hb hby at_22) kS) ?_
  show OFin p e below s _ _ _ (T23.setTop (mkF m 23 #[.val (.int p1), .val (.int k), .val (.ref a), .val (.int (0 : Int32)), .unset, .unset] [(.int (1 : Int32))]))
  refine own_st (fun _ kS => XS.goto X23.here hx rfl (pc0 := 23) (pc' := 27) rfl (hb hby at_23) (by decide) (by decide) kS) ?_
  show OFin p e below s _ _ _ (T23.setTop (mkF m 27 #[.val (.int p1), .val (.int k), .val (.ref a), .val (.int (0 : Int32)), .unset, .unset] [(.int (1 : Int32))]))
  refine own_st (fun _ kS => XS.istore X23.here hx rfl (hb hby at_27) rfl (l' := #[.val (.int p1), .val (.int k), .val (.ref a), .val (.int (0 : Int32)), .val (.int (1 : Int32)), .unset]) rfl kS) ?_
  show OFin p e below s _ _ _ (T23.setTop (mkF m 29 #[.val (.int p1), .val (.int k), .val (.ref a), .val (.int (0 : Int32)), .val (.int (1 : Int32)), .unset] []))
  exact own_p0 hw hC0 X23 e23 n0 p1 k _ a A19 f21 f20 g_a N0 (by decide) (by decide) (by decide)
set_option maxRecDepth 65536 in
set_option maxHeartbeats 40000000 in
theorem comes_1 {Post : Tables → Env → Array Value → State → Outcome → State → Prop} (hpost : ∀ tb e args s v u, (limb_1_1.after args s (.returned v) u = true ∧ limb_1_2.after args s (.returned v) u = true ∧ True) → FrameEnd s (.returned v) u (Jvm.fieldLocs frame_1_writes args s ++ Jvm.arrayLocs frame_1_arrays args s ++ Jvm.staticLocs frame_1_statics s) 16 128 → Post tb e args s (.returned v) u) :
    ArmFor flags0 classFile x code maxLocals ret World_1 tables_1 room_1 Calls_1 rest_1 Pre_1 Post := by
  intro l hfl _ _ p e ha hc hk s m args below hf hA hF happ hP
  obtain ⟨hcalls, hrest, hpre⟩ := hP
  obtain ⟨-, -, -, hnamed, -, -, -, hat⟩ := (Spec.applies_iff hf).mp happ
  obtain ⟨hg, hn⟩ := and_e (Cond.before_iff.mp (show (Jvm.Cond.and given_1 narrow_1).before args s = true from hpre))
  obtain ⟨gc, hg0⟩ := and_e hg
  obtain ⟨w0, rfl⟩ : ∃ w0 : Value, args = #[w0] := by
    have hs : args.size = 1 := by simpa [Cond.value, given_1] using gc
    obtain ⟨L⟩ := args
    match L, hs with
    | [w0], _ => exact ⟨w0, rfl⟩
  have hw := fun d (hd : d ∈ tables_1) => atoms_spec (ws := Jvm.Cond.code x code maxLocals ret :: tables_1) hat d (List.mem_cons_of_mem _ hd)
  have hfit : Fit s := fun {y c} hc i hi => by
    obtain ⟨ha, rfl⟩ := Array.getElem?_eq_some_iff.mp hc
    have q := List.all_eq_true.mp ((Array.all_eq_true_iff_forall_mem.mp hF) _ (Array.getElem_mem ha)) i (List.mem_range.mpr hi)
    simpa [Array.getElem?_eq_getElem hi] using q
  obtain ⟨i0, ei0⟩ := is_v hg0
  obtain rfl : w0 = (.int i0) := Option.some.inj ei0
  obtain ⟨n, o, h1, h2, h3, _, L, rfl, ⟨rfl, N⟩, hq⟩ := rm0 l s _ hw i0 s.heap s.heap.size (Nat.le_refl _) tables_1 p e ha hc hk s m _ below hf ((Spec.applies_iff_loose hf).mp happ).1 ⟨rfl, State.Warmed39.refl s, rfl⟩ trivial
  refine ⟨n, _, h1, h2, h3, hpost _ _ _ _ _ _ ⟨Cond.after_iff.mpr rfl, Cond.after_iff.mpr (eq_i res_at (Term.int_eval (1)) rfl), trivial⟩ ⟨hq.1, hq.2.1, (hq.2.2.sift fun y hy => Or.inr (N y hy)).mono (by decide) (by decide)⟩⟩
theorem main_1_1 : Claimed_1_1 := comes_1 fun _ _ _ _ _ _ h hF => ⟨h.1, hF⟩
theorem main_1_2 : Claimed_1_2 := comes_1 fun _ _ _ _ _ _ h hF => ⟨h.2.1, hF⟩
end Jvm.Pilot.@@N@@
namespace Jvm.Pilot.@@N@@
open Jvm Jvm.ClassFile Sem Op Lib Jvm.Free Jvm.Stand Jvm.Pilot.@@N@@.Jvm.D
/-! MADE BY PROGRAM (witnessworld.py) out of the Statement's table words and the real class files: 9 classes; the members and pool entries that the words name. The judged class is class 1, her method 1. -/
namespace start1
open Jvm.ClassFile
def u (s : String) : CpInfo := .utf8 (stringToUtf16 s)
/-- a pool by its gaps: so many unusable entries, then the entry; so many at the end -/
def gap : Nat → List CpInfo → List CpInfo
  | 0, r => r
  | n + 1, r => .unusable :: gap n r
def poolList (es : List (Nat × CpInfo)) (last : Nat) : List CpInfo := es.foldr (fun e r => gap e.1 (e.2 :: r)) (gap last [])
def pool (es : List (Nat × CpInfo)) (last : Nat) : Array CpInfo := ⟨poolList es last⟩
def fileOf (pool : Array CpInfo) (this : Nat) (attrs : Array Attribute := #[]) (ms : Array MethodInfo := #[]) (fl : Nat := 33) (sup : Nat := 0) (ifs : Array Nat := #[]) (fds : Array FieldInfo := #[]) : ClassFile where
  minorVersion := 0
  majorVersion := 65
  constantPool := pool
  accessFlags := fl
  thisClass := this
  superClass := sup
  interfaces := ifs
  fields := fds
  methods := ms
  attributes := attrs
def plain (name : String) (sup : Option ClassId) : Class where
  name := name
  kind := .ordinary
  loader := none
  accessFlags := 33
  super := sup
  interfaces := #[]
  cf := none
  fields := #[]
  methods := #[]
  instanceTypes := #[]
  staticTypes := #[]
  resolved := #[]
  callSites := []
  init := .initialized
  statics := none
  mirror := none

def pool0 : Array CpInfo := pool [(5, u "<init>"), (0, u "()V"), (1, .class_ 10), (1, u "java/lang/Object")] 113

def k0c0 : Code := { maxStack := 0, maxLocals := 1, code := object_method_1_code, exceptionTable := #[], attributes := #[] }
def k0m0 : Method := { name := "<init>", desc := "()V", sig := { parameters := [], returnType := none }, accessFlags := 1, code := some k0c0 }
/-- java/lang/Object -/
def k0 : Class := { plain "java/lang/Object" none with
  accessFlags := 33
  interfaces := #[]
  cf := some (fileOf pool0 8 #[] #[{ accessFlags := 1, nameIndex := 5, descriptorIndex := 6, attributes := #[] }] 33 0 #[] #[])
  fields := #[]
  methods := #[k0m0]
  instanceTypes := #[]
  staticTypes := #[]
  resolved := Array.replicate 124 none
  statics := none }

def pool1 : Array CpInfo := pool [(2, .class_ 4), (0, .nameAndType 5 6), (0, u "java/lang/Object"), (0, u "<init>"), (0, u "()V"), (0, .class_ 8), (0, u "com/example/notation_search/notationsearch/math/SymbolCount"), (0, .methodref 7 3), (0, .methodref 7 11), (0, .nameAndType 12 13), (0, u "refused"), (0, u "()Z"), (0, .methodref 7 15), (0, .nameAndType 16 13), (0, u "take"), (0, .class_ 18), (0, u "com/example/notation_search/notationsearch/math/SymbolCountTakePinLaw"), (2, u "law"), (0, u "(I)Z")] 3

def k1m0 : Method := { name := "<init>", desc := "()V", sig := { parameters := [], returnType := none }, accessFlags := 2, code := none }
def k1c1 : Code := { maxStack := 2, maxLocals := 6, code := code, exceptionTable := #[], attributes := #[] }
def k1m1 : Method := { name := "law", desc := "(I)Z", sig := { parameters := [.int], returnType := some .boolean }, accessFlags := 9, code := some k1c1 }
/-- com/example/notation_search/notationsearch/math/SymbolCountTakePinLaw -/
def k1 : Class := { plain "com/example/notation_search/notationsearch/math/SymbolCountTakePinLaw" (some 0) with
  accessFlags := 49
  interfaces := #[]
  cf := some (fileOf pool1 17 #[] #[{ accessFlags := 2, nameIndex := 5, descriptorIndex := 6, attributes := #[] }, { accessFlags := 9, nameIndex := 21, descriptorIndex := 22, attributes := #[] }] 49 2 #[] #[])
  fields := #[]
  methods := #[k1m0, k1m1]
  instanceTypes := #[]
  staticTypes := #[]
  resolved := Array.replicate 26 none
  statics := none }

def pool2 : Array CpInfo := pool [(1, .methodref 2 3), (0, .class_ 4), (0, .nameAndType 5 6), (0, u "java/lang/Object"), (0, u "<init>"), (0, u "()V"), (0, .fieldref 8 9), (0, .class_ 10), (0, .nameAndType 11 12), (0, u "com/example/notation_search/notationsearch/math/SymbolCount"), (0, u "placed"), (0, u "I"), (2, .integer 131072), (0, .fieldref 8 17), (0, .nameAndType 18 19), (0, u "refused"), (0, u "Z"), (2, u "take"), (0, u "()Z")] 3

def k2c0 : Code := { maxStack := 1, maxLocals := 1, code := prog_37_method_1_code, exceptionTable := #[], attributes := #[] }
def k2m0 : Method := { name := "<init>", desc := "()V", sig := { parameters := [], returnType := none }, accessFlags := 0, code := some k2c0 }
def k2c1 : Code := { maxStack := 3, maxLocals := 1, code := prog_37_method_2_code, exceptionTable := #[], attributes := #[] }
def k2m1 : Method := { name := "take", desc := "()Z", sig := { parameters := [], returnType := some .boolean }, accessFlags := 0, code := some k2c1 }
def k2c2 : Code := { maxStack := 1, maxLocals := 1, code := prog_37_method_3_code, exceptionTable := #[], attributes := #[] }
def k2m2 : Method := { name := "refused", desc := "()Z", sig := { parameters := [], returnType := some .boolean }, accessFlags := 0, code := some k2c2 }
/-- com/example/notation_search/notationsearch/math/SymbolCount -/
def k2 : Class := { plain "com/example/notation_search/notationsearch/math/SymbolCount" (some 0) with
  accessFlags := 48
  interfaces := #[]
  cf := some (fileOf pool2 8 #[] #[{ accessFlags := 0, nameIndex := 5, descriptorIndex := 6, attributes := #[] }, { accessFlags := 0, nameIndex := 22, descriptorIndex := 23, attributes := #[] }, { accessFlags := 0, nameIndex := 18, descriptorIndex := 23, attributes := #[] }] 48 2 #[] #[{ accessFlags := 2, nameIndex := 11, descriptorIndex := 12, attributes := #[] }, { accessFlags := 2, nameIndex := 18, descriptorIndex := 19, attributes := #[] }])
  fields := #[{ name := "placed", type := .int, accessFlags := 2, slot := 0, constantValue := 0 }, { name := "refused", type := .boolean, accessFlags := 2, slot := 1, constantValue := 0 }]
  methods := #[k2m0, k2m1, k2m2]
  instanceTypes := #[.int, .boolean]
  staticTypes := #[]
  resolved := Array.replicate 27 none
  statics := none }

def pool3 : Array CpInfo := pool [(1, u "java/lang/Cloneable"), (0, .class_ 1), (0, u "java/lang/Object"), (0, .class_ 3)] 3

/-- java/lang/Cloneable -/
def k3 : Class := { plain "java/lang/Cloneable" (some 0) with
  accessFlags := 1537
  interfaces := #[]
  cf := some (fileOf pool3 2 #[] #[] 1537 4 #[] #[])
  fields := #[]
  methods := #[]
  instanceTypes := #[]
  staticTypes := #[]
  resolved := Array.replicate 8 none
  statics := none }

def pool4 : Array CpInfo := pool [(1, u "java/io/Serializable"), (0, .class_ 1), (0, u "java/lang/Object"), (0, .class_ 3)] 3

/-- java/io/Serializable -/
def k4 : Class := { plain "java/io/Serializable" (some 0) with
  accessFlags := 1537
  interfaces := #[]
  cf := some (fileOf pool4 2 #[] #[] 1537 4 #[] #[])
  fields := #[]
  methods := #[]
  instanceTypes := #[]
  staticTypes := #[]
  resolved := Array.replicate 8 none
  statics := none }

/-- the primitive byte -/
def k5 : Class := { plain "byte" none with kind := .primitive 'B', accessFlags := 0x411 }
/-- [B -/
def k6 : Class := { plain "[B" (some 0) with kind := .array 5 .byte, interfaces := #[3, 4], accessFlags := 1041 }

/-- the primitive int -/
def k7 : Class := { plain "int" none with kind := .primitive 'I', accessFlags := 0x411 }
/-- [I -/
def k8 : Class := { plain "[I" (some 0) with kind := .array 7 .int, interfaces := #[3, 4], accessFlags := 1041 }

def heap : Heap := #[]
def classes : Array Class := #[k0, k1, k2, k3, k4, k5, k6, k7, k8]
def interned : List (Array UInt16 × Addr) := []
def slotsUsed : Nat := 0
def theMethod : MethodId := ⟨1, 1⟩
def args0 : Array Value := #[.int 5]
def aboutOver (below : List Frame) : State where
  vm := { classes := classes, interned := interned.toArray }
  heap := heap
  slotsUsed := slotsUsed
  threads := #[{ frames := .invoking theMethod args0 :: below }]
def below0 : List Frame := [.native { method := ⟨0, 0⟩, args := #[] }]
def about1 : State := aboutOver below0
def p0 : Program := .bare "" "" ""
def e0 : Env := launch0.env 0 0 0
theorem w_frames : about1.frames = Frame.invoking theMethod args0 :: below0 := rfl
set_option maxRecDepth 65536 in
theorem w_args : argsFit about1.vm theMethod args0 = true := by decide +kernel
set_option maxRecDepth 65536 in
theorem w_heap : heapFits about1 = true := by decide +kernel
set_option maxRecDepth 65536 in
theorem w_runnable : about1.curStatus? = some .runnable := by decide +kernel
set_option maxRecDepth 65536 in
theorem w_alone : about1.alone = true := by decide +kernel
set_option maxRecDepth 65536 in
theorem w_named : about1.methodNamed? x = some theMethod := by decide +kernel
set_option maxRecDepth 65536 in
theorem w_hears : about1.hears theMethod below0 = true := by decide +kernel
set_option maxRecDepth 65536 in
theorem w_ripe : about1.ripe theMethod args0 below0 = true := by decide +kernel
theorem w_running : about1.status = .running := rfl
set_option maxRecDepth 65536 in
theorem w_room : about1.hasRoom e0.platform room_1 = true :=
  launch0.hasRoom_least _ room_1 (by decide +kernel) (by decide +kernel) (by decide +kernel) (by decide +kernel) (by decide +kernel) (by decide +kernel)
theorem allAtoms_all (ts : List Jvm.Cond) (a : Array Jvm.Value) (st : Jvm.State) : (allAtoms ts).before a st = ts.all (fun c => c.before a st) := by
  induction ts with
  | nil => rfl
  | cons c t ih =>
    show (Jvm.Cond.and c (allAtoms t)).before a st = _
    rw [Jvm.Cond.before_and, ih, List.all_cons]
def words1 : List Jvm.Cond := Jvm.Cond.code x code maxLocals ret :: tables_1
/-- a 'code' word, met by the world's own term for the bytes: nothing is compared byte by byte -/
theorem code_word {y : MethodName} {bytes : ByteArray} {mx : Nat} {rt : Option FieldType} {a : Array Value} {s : State} {m : MethodId} {meth : Method} {c : Code} (h1 : s.methodNamed? y = some m) (h2 : s.vm.method? m = some meth) (h3 : meth.code = some c) (h4 : c.code = bytes)
    (h5 : (c.maxLocals == mx && c.exceptionTable.isEmpty && decide (c.maxStack ≤ mostOperands) && decide (meth.sig.returnType = rt) && !meth.locks && decide (parseMethodDescriptor y.desc = some meth.sig)) = true) : (Jvm.Cond.code y bytes mx rt).before a s = true := by
  simp only [Bool.and_eq_true, beq_iff_eq, Bool.not_eq_true', decide_eq_true_eq] at h5
  obtain ⟨⟨⟨⟨⟨g1, g2⟩, g3⟩, g4⟩, g5⟩, g6⟩ := h5
  simp [Cond.before, Cond.holds, Cond.value, h1, h2, h3, h4, g1, g2, g3, g4, g5, g6]
def isCode : Jvm.Cond → Bool
  | .code _ _ _ _ => true
  | _ => false
theorem all_split {L : List Jvm.Cond} {P : Jvm.Cond → Bool} (h1 : L.all (fun c => isCode c || P c) = true) (h2 : ∀ c ∈ L.filter isCode, P c = true) : L.all P = true := by
  refine List.all_eq_true.mpr fun c hc => ?_
  have h := List.all_eq_true.mp h1 c hc
  rcases Bool.eq_false_or_eq_true (isCode c) with hi | hi
  · exact h2 c (List.mem_filter.mpr ⟨hc, hi⟩)
  · simpa [hi] using h
set_option maxRecDepth 65536 in
theorem w_c0 : (Jvm.Cond.code x code maxLocals ret).before args0 about1 = true := code_word (m := ⟨1, 1⟩) (meth := k1m1) (c := k1c1) (by decide +kernel) rfl rfl rfl (by decide +kernel)
set_option maxRecDepth 65536 in
theorem w_c1 : (Jvm.Cond.code ({ cls := "com/example/notation_search/notationsearch/math/SymbolCount", name := "<init>", desc := "()V" } : Jvm.MethodName) prog_37_method_1_code (1 : Nat) (Option.none : Option Jvm.ClassFile.FieldType)).before args0 about1 = true := code_word (m := ⟨2, 0⟩) (meth := k2m0) (c := k2c0) (by decide +kernel) rfl rfl rfl (by decide +kernel)
set_option maxRecDepth 65536 in
theorem w_c2 : (Jvm.Cond.code ({ cls := "java/lang/Object", name := "<init>", desc := "()V" } : Jvm.MethodName) object_method_1_code (1 : Nat) (Option.none : Option Jvm.ClassFile.FieldType)).before args0 about1 = true := code_word (m := ⟨0, 0⟩) (meth := k0m0) (c := k0c0) (by decide +kernel) rfl rfl rfl (by decide +kernel)
set_option maxRecDepth 65536 in
theorem w_c3 : (Jvm.Cond.code ({ cls := "com/example/notation_search/notationsearch/math/SymbolCount", name := "refused", desc := "()Z" } : Jvm.MethodName) prog_37_method_3_code (1 : Nat) (Option.some Jvm.ClassFile.FieldType.boolean)).before args0 about1 = true := code_word (m := ⟨2, 2⟩) (meth := k2m2) (c := k2c2) (by decide +kernel) rfl rfl rfl (by decide +kernel)
set_option maxRecDepth 65536 in
theorem w_c4 : (Jvm.Cond.code ({ cls := "com/example/notation_search/notationsearch/math/SymbolCount", name := "take", desc := "()Z" } : Jvm.MethodName) prog_37_method_2_code (1 : Nat) (Option.some Jvm.ClassFile.FieldType.boolean)).before args0 about1 = true := code_word (m := ⟨2, 1⟩) (meth := k2m1) (c := k2c1) (by decide +kernel) rfl rfl rfl (by decide +kernel)
def codes1 : List Jvm.Cond := [Jvm.Cond.code x code maxLocals ret, Jvm.Cond.code ({ cls := "com/example/notation_search/notationsearch/math/SymbolCount", name := "<init>", desc := "()V" } : Jvm.MethodName) prog_37_method_1_code (1 : Nat) (Option.none : Option Jvm.ClassFile.FieldType), Jvm.Cond.code ({ cls := "java/lang/Object", name := "<init>", desc := "()V" } : Jvm.MethodName) object_method_1_code (1 : Nat) (Option.none : Option Jvm.ClassFile.FieldType), Jvm.Cond.code ({ cls := "com/example/notation_search/notationsearch/math/SymbolCount", name := "refused", desc := "()Z" } : Jvm.MethodName) prog_37_method_3_code (1 : Nat) (Option.some Jvm.ClassFile.FieldType.boolean), Jvm.Cond.code ({ cls := "com/example/notation_search/notationsearch/math/SymbolCount", name := "take", desc := "()Z" } : Jvm.MethodName) prog_37_method_2_code (1 : Nat) (Option.some Jvm.ClassFile.FieldType.boolean)]
set_option maxRecDepth 65536 in
theorem codes_eq : words1.filter isCode = codes1 := rfl
theorem w_codes : ∀ c ∈ words1.filter isCode, c.before args0 about1 = true := by
  rw [codes_eq]
  intro c hc
  simp only [codes1, List.mem_cons, List.not_mem_nil, or_false] at hc
  rcases hc with rfl | rfl | rfl | rfl | rfl
  · exact w_c0
  · exact w_c1
  · exact w_c2
  · exact w_c3
  · exact w_c4
set_option maxRecDepth 65536 in
theorem w_t1 : (words1.take 24).all (fun c => isCode c || c.before args0 about1) = true := by decide +kernel
set_option maxRecDepth 65536 in
theorem w_t2 : (words1.drop 24).all (fun c => isCode c || c.before args0 about1) = true := by decide +kernel
theorem w_tables : (allAtoms (Jvm.Cond.code x code maxLocals ret :: tables_1)).before args0 about1 = true := by
  rw [allAtoms_all]
  show words1.all (fun c => c.before args0 about1) = true
  refine all_split ?_ w_codes
  rw [← List.take_append_drop 24 words1, List.all_append, w_t1, w_t2]
  rfl
set_option maxRecDepth 65536 in
theorem w_case : (Jvm.Cond.and given_1 narrow_1).before args0 about1 = true := by decide +kernel
theorem w_applies : (headSpec (Jvm.Cond.code x code maxLocals ret :: tables_1) room_1).applies x e0.platform about1 = true :=
  (Spec.applies_iff w_frames).mpr ⟨w_running, w_runnable, w_alone, w_named, w_hears, w_ripe, w_room, w_tables⟩
theorem atStart : AtStart classFile x code maxLocals ret World_1 tables_1 room_1 Calls_1 rest_1 Pre_1 launch0 p0 e0 about1 theMethod args0 below0 :=
  ⟨lists_1, trivial, launch0.admits_env _ _ _, launch0.least_env, fairChoices_fair.cas, fairChoices_fair.clock, w_frames, w_args, w_heap, w_applies, trivial, trivial, w_case⟩
end start1
theorem witness_1 : WitnessClaimed_1 := ⟨start1.p0, start1.e0, start1.about1, start1.theMethod, start1.args0, start1.below0, start1.atStart⟩
end Jvm.Pilot.@@N@@
