import JvmDerived
import JvmDerived.Pilot.@@N@@Statement
import JvmDerived.Pilot.@@N@@Code
set_option linter.unusedVariables false
set_option linter.unusedSimpArgs false

namespace Jvm.Pilot.@@N@@
open Jvm Jvm.ClassFile Sem Op Lib Jvm.Free Jvm.Stand Jvm.LawKit Jvm.RoadKit Bundle Jvm.Pilot.@@N@@.Jvm.D
theorem own_w {Z : State} {a0 : Array Value} (hw : ∀ d ∈ tables_1, d.before a0 Z = true) (i : Nat) {d : Jvm.Cond} (h : tables_1[i]? = some d) : d.before a0 Z = true := hw _ (List.mem_of_getElem? h)
/-! own layer: a body's rest as one predicate (OFin), a contract (OMet), calls that give the plain facts back -/
def OFin (p : Program) (e : Env) (below : List Frame) (s : State) (kc ks : Nat) (Q : Option Value → Heap → List Loc → Prop) (S : State) : Prop :=
  ∃ s₂ o, Steps p.tables e below S s₂ ∧ s₂.status = .running ∧ Ended s₂ below o ∧ ∃ v L, o = .returned v ∧ Q v s₂.heap L ∧ FrameEnd s o s₂ L kc ks
def OMet (l : Launch) (Z : State) (y : MethodName) (bytes : ByteArray) (maxL : Nat) (ret : Option FieldType) (rm : Room) (as' : Array Value) (h0 : Heap) (Q : Option Value → Heap → List Loc → Prop) : Prop :=
  ∀ ws : List Jvm.Cond, MetFree l y (head1 (Jvm.Cond.code y bytes maxL ret :: ws) rm) (fun a U => a = as' ∧ Z.Warmed39 U.vm ∧ U.heap = h0) (fun _ _ _ _ _ => True) (fun _ U o U' => ∃ v L, o = .returned v ∧ Q v U'.heap L ∧ FrameEnd U o U' L rm.cells rm.slots)
def OCtx (Z : State) (p : Program) (s : State) (m : MethodId) (meth : Method) (c : Code) (cls nam : String) (bytes : ByteArray) (maxL : Nat) (ret : Option FieldType) : Prop :=
  p.tables.exec = Jvm.exec ∧ Z.Warmed39 s.vm ∧ c.code = bytes ∧ c.maxLocals = maxL ∧ s.vm.findClass cls = some m.cls ∧ meth.sig.returnType = ret ∧ meth.locks = false ∧ meth.name = nam
section OwnLayer
variable {p : Program} {l : Launch} {e : Env} {R : Room} {s : State} {m : MethodId} {args : Array Value} {below : List Frame} {meth : Method} {c : Code} {T : State} {locs : List Loc} {cells slots : Nat} {Z : State} {a0 : Array Value} {h : Heap}
variable {kc ks : Nat} {Q : Option Value → Heap → List Loc → Prop}
theorem own_st {A B : State} (hs : ∀ t, Steps p.tables e below B t → Steps p.tables e below A t) (k : OFin p e below s kc ks Q B) : OFin p e below s kc ks Q A := by
  obtain ⟨s₂, o, h1, r⟩ := k; exact ⟨s₂, o, hs _ h1, r⟩
theorem own_at {g g' : JFrame} (q : g = g') (k : OFin p e below s kc ks Q (T.setTop g')) : OFin p e below s kc ks Q (T.setTop g) := q ▸ k
theorem own_mono {Q' : Option Value → Heap → List Loc → Prop} {S : State} (k : OFin p e below s kc ks Q S) (q : ∀ v h L, Q v h L → Q' v h L) : OFin p e below s kc ks Q' S := by
  obtain ⟨s₂, o, h1, h2, h3, v, L, h4, h5, h6⟩ := k; exact ⟨s₂, o, h1, h2, h3, v, L, h4, q _ _ _ h5, h6⟩
theorem own_enter {y : MethodName} {bytes : ByteArray} {maxL : Nat} {ret : Option FieldType} {rm : Room} {as' : Array Value} {h0 : Heap} (hp : plainFor y = true)
    (hB : ∀ (p : Program) (e : Env) (s : State) (m : MethodId) (below : List Frame) (meth : Method) (c : Code) (T : State), Stand p l e rm s m as' below meth c T [] 0 0 → OCtx Z p s m meth c y.cls y.name bytes maxL ret → T.heap = h0 → OFin p e below s rm.cells rm.slots Q (T.setTop (entryFrame m as' maxL))) :
    OMet l Z y bytes maxL ret rm as' h0 Q := by
  intro ws
  refine MetFree.of_bodySF hp hisR ?_
  intro p e s m args below meth c s₁ Bd hml0 hP hK
  obtain ⟨rfl, hZ, hh⟩ := hP
  exact hB p e s m below meth c s₁ (Stand.of_body Bd) ⟨Bd.exec, hZ, Bd.bytes, hml0, findClass_of_methodNamed Bd.named, Bd.returns, BodyLoose.notSynchronized Bd, (name_of_methodNamed Bd.named Bd.method).1⟩ (by rw [← hh, Bd.state]; rfl)
theorem own_ret (X : Stand p l e R s m args below meth c T locs cells slots) (hx : p.tables.exec = Jvm.exec) {t : FieldType} (hret : meth.sig.returnType = some t) (hlk : meth.locks = false) {pc : Nat} {Ls : Array Slot} {w : Value} {i : Instr} {rest : List Value} (hn : narrow t w = w)
    (hi : (i = .ireturn ∧ (t = .int ∨ t = .boolean ∨ t = .byte ∨ t = .char ∨ t = .short) ∧ ∃ z, w = .int z) ∨ (i = .lreturn ∧ t = .long ∧ ∃ z, w = .long z) ∨ (i = .dreturn ∧ t = .double ∧ ∃ z, w = .double z) ∨ (i = .freturn ∧ t = .float ∧ ∃ z, w = .float z) ∨ (i = .areturn ∧ t.isReference = true ∧ w.isRef = true))
    (hd : decode c.code pc = .ok (i, 1)) (hc : cells ≤ kc) (hs : slots ≤ ks) (hq : Q (some w) T.heap locs) : OFin p e below s kc ks Q (T.setTop (mkF m pc Ls (w :: rest))) := by
  obtain ⟨fs, hr, hrun, hended, hW, hsame⟩ := X.leave (v := some w) (fun h => by rw [hret] at h; cases h) hlk
  exact ⟨_, _, retOut X hx hret hn hi hd hr, hrun, hended, _, _, rfl, hq, ⟨_, rfl⟩, hW, hsame.mono hc hs⟩
theorem own_retV (X : Stand p l e R s m args below meth c T locs cells slots) (hx : p.tables.exec = Jvm.exec) (hret : meth.sig.returnType = none) (hlk : meth.locks = false) {pc : Nat} {Ls : Array Slot}
    (hd : decode c.code pc = .ok (.return_, 1)) (hc : cells ≤ kc) (hs : slots ≤ ks) (hq : Q none T.heap locs) : OFin p e below s kc ks Q (T.setTop (mkF m pc Ls [])) := by
  obtain ⟨fs, hr, hrun, hended, hW, hsame⟩ := X.leave (v := none) (fun _ => rfl) hlk
  exact ⟨_, _, X.returnOut hx hret hd hr, hrun, hended, _, _, rfl, hq, ⟨_, rfl⟩, hW, hsame.mono hc hs⟩
theorem own_back {y : MethodName} {bytes : ByteArray} {maxL : Nat} {ret : Option FieldType} {rm : Room} {len W : Nat} {as' : Array Value} (hM : OMet l Z y bytes maxL ret rm as' h Q) (hZ : Z.Warmed39 s.vm) (wc : (Jvm.Cond.code y bytes maxL ret).before a0 Z = true) (wz : (Jvm.Cond.initialized y.cls).before a0 Z = true) (hf : rm.frames + 1 ≤ R.frames) (hl : W + (maxL + 11) + rm.locals ≤ R.locals) :
    Back l R p e below s args y len W (fun A a => a = as' ∧ A.U.heap = h ∧ A.cells + rm.cells ≤ R.cells ∧ A.slots + rm.slots ≤ R.slots)
      (fun A _ v B => ∃ L, Q v B.U.heap L ∧ B.locs = A.locs ++ L ∧ B.cells = A.cells + rm.cells ∧ B.slots = A.slots + rm.slots) := backOf (hM []) hZ wc wz hf hl
theorem own_static (X : Stand p l e R s m args below meth c T locs cells slots) (hx : p.tables.exec = Jvm.exec) (hZ : Z.Warmed39 s.vm) {own : String} {index : Nat} {y : MethodName} {bytes : ByteArray} {maxL : Nat} {ret : Option FieldType} {rm : Room} {W : Nat} {argsL rest : List Value}
    (hown : s.vm.findClass own = some m.cls) (w1 : (Jvm.Cond.methodLink own index y).before a0 Z = true) (w2 : (Jvm.Cond.static y).before a0 Z = true) (wz : (Jvm.Cond.initialized y.cls).before a0 Z = true) (wc : (Jvm.Cond.code y bytes maxL ret).before a0 Z = true)
    (hM : OMet l Z y bytes maxL ret rm argsL.toArray h Q) (eT : T.heap = h) {g : JFrame} (hg : g.method = m) (hsize : g.locals.size = c.maxLocals) (hlen : ∀ sig, parseMethodDescriptor y.desc = some sig → argsL.length = sig.parameters.length)
    (hstack : g.stack = argsL.reverse ++ rest) (hW : 2 * g.monitorRoom + (rest.map fun v => v.category).sum ≤ W) (hdg : decode c.code g.pc = .ok (.invokestatic index, 3))
    (hf : rm.frames + 1 ≤ R.frames) (hl : W + (maxL + 11) + rm.locals ≤ R.locals) (hc : cells + rm.cells ≤ R.cells) (hs : slots + rm.slots ≤ R.slots)
    (hy : y.cls ≠ "java/lang/invoke/MethodHandle" ∧ y.cls ≠ "java/lang/invoke/VarHandle" := by decide) :
    ∃ (v : Option Value) (T' : State) (L : List Loc), Stand p l e R s m args below meth c T' (locs ++ L) (cells + rm.cells) (slots + rm.slots) ∧ Q v T'.heap L ∧
      ∀ target, Steps p.tables e below (T'.setTop { g with pc := g.pc + 3, stack := v.toList ++ rest }) target → Steps p.tables e below (T.setTop g) target := by
  obtain ⟨v, vm₁, ⟨T', L', k', n'⟩, -, X', ⟨L, hQ, l1, y1, z1⟩, st⟩ := Jvm.LawKit.callS X hx hown (mvT hZ w1) (mvT hZ w2) (mvT hZ wz) (mvT hZ wc) hy (own_back (W := W) hM hZ wc wz hf hl) hg hsize hlen hstack hW hdg (fun _ _ => ⟨rfl, eT, hc, hs⟩)
  dsimp only [Pt.U, Pt.locs, Pt.cells, Pt.slots] at X' l1 y1 z1 st hQ
  subst l1 y1 z1
  exact ⟨v, T', L, X', hQ, st⟩
theorem own_init (X : Stand p l e R s m args below meth c T locs cells slots) (hx : p.tables.exec = Jvm.exec) (hZ : Z.Warmed39 s.vm) {own : String} {index : Nat} {y : MethodName} {bytes : ByteArray} {maxL : Nat} {rm : Room} {W : Nat} {a : Addr} {argsL rest : List Value} (hy1 : y.name = "<init>")
    (hown : s.vm.findClass own = some m.cls) (w1 : (Jvm.Cond.methodLink own index y).before a0 Z = true) (w2 : (Jvm.Cond.instanceMethod y).before a0 Z = true) (wz : (Jvm.Cond.initialized y.cls).before a0 Z = true) (wc : (Jvm.Cond.code y bytes maxL none).before a0 Z = true)
    (hM : OMet l Z y bytes maxL none rm (.ref a :: argsL).toArray h Q) (eT : T.heap = h) {g : JFrame} (hg : g.method = m) (hsize : g.locals.size = c.maxLocals) (hlen : ∀ sig, parseMethodDescriptor y.desc = some sig → argsL.length = sig.parameters.length)
    (hstack : g.stack = argsL.reverse ++ .ref a :: rest) (hW : 2 * g.monitorRoom + (rest.map fun v => v.category).sum ≤ W) (hdg : decode c.code g.pc = .ok (.invokespecial index, 3))
    (hf : rm.frames + 1 ≤ R.frames) (hl : W + (maxL + 11) + rm.locals ≤ R.locals) (hc : cells + rm.cells ≤ R.cells) (hs : slots + rm.slots ≤ R.slots)
    (hy : y.cls ≠ "java/lang/invoke/MethodHandle" ∧ y.cls ≠ "java/lang/invoke/VarHandle" := by decide) :
    ∃ (v : Option Value) (T' : State) (L : List Loc), Stand p l e R s m args below meth c T' (locs ++ L) (cells + rm.cells) (slots + rm.slots) ∧ Q v T'.heap L ∧
      ∀ target, Steps p.tables e below (T'.setTop { g with pc := g.pc + 3, stack := v.toList ++ rest }) target → Steps p.tables e below (T.setTop g) target := by
  obtain ⟨v, vm₁, ⟨T', L', k', n'⟩, -, X', ⟨L, hQ, l1, y1, z1⟩, st⟩ := X.specialBack hx hy1 hown (mvT hZ w1) (mvT hZ w2) (mvT hZ wc) hy (own_back (W := W) hM hZ wc wz hf hl) hg hsize (Steps.refl _) hlen hstack hW hdg (fun _ _ => ⟨rfl, eT, hc, hs⟩)
  dsimp only [Pt.U, Pt.locs, Pt.cells, Pt.slots] at X' l1 y1 z1 st hQ
  subst l1 y1 z1
  exact ⟨v, T', L, X', hQ, fun t k => st.trans k⟩
theorem own_virtual (X : Stand p l e R s m args below meth c T locs cells slots) (hx : p.tables.exec = Jvm.exec) (hZ : Z.Warmed39 s.vm) {own C : String} {index : Nat} {y z : MethodName} {bytes : ByteArray} {maxL : Nat} {ret : Option FieldType} {rm : Room} {W : Nat} {a : Addr} {argsL rest : List Value}
    (hown : s.vm.findClass own = some m.cls) (w1 : (Jvm.Cond.methodLink own index y).before a0 Z = true) (w2 : (Jvm.Cond.declares y).before a0 Z = true) (hnf : NotFace s y) (w3 : (Jvm.Cond.selects C y z).before a0 Z = true) (w4 : (Jvm.Cond.instanceMethod z).before a0 Z = true) (wz : (Jvm.Cond.initialized z.cls).before a0 Z = true) (wc : (Jvm.Cond.code z bytes maxL ret).before a0 Z = true)
    (hM : OMet l Z z bytes maxL ret rm (.ref a :: argsL).toArray h Q) (eT : T.heap = h) (E : Exa Z h a C) {g : JFrame} (hg : g.method = m) (hsize : g.locals.size = c.maxLocals) (hlen : ∀ sig, parseMethodDescriptor y.desc = some sig → argsL.length = sig.parameters.length)
    (hstack : g.stack = argsL.reverse ++ .ref a :: rest) (hW : 2 * g.monitorRoom + (rest.map fun v => v.category).sum ≤ W) (hdg : decode c.code g.pc = .ok (.invokevirtual index, 3))
    (hf : rm.frames + 1 ≤ R.frames) (hl : W + (maxL + 11) + rm.locals ≤ R.locals) (hc : cells + rm.cells ≤ R.cells) (hs : slots + rm.slots ≤ R.slots)
    (hy : y.cls ≠ "java/lang/invoke/MethodHandle" ∧ y.cls ≠ "java/lang/invoke/VarHandle" := by decide) :
    ∃ (v : Option Value) (T' : State) (L : List Loc), Stand p l e R s m args below meth c T' (locs ++ L) (cells + rm.cells) (slots + rm.slots) ∧ Q v T'.heap L ∧
      ∀ target, Steps p.tables e below (T'.setTop { g with pc := g.pc + 3, stack := v.toList ++ rest }) target → Steps p.tables e below (T.setTop g) target := by
  obtain ⟨cq, kq, qa, qb, qc⟩ := isOf hZ eT E
  obtain ⟨v, vm₁, ⟨T', L', k', n'⟩, -, X', ⟨L, hQ, l1, y1, z1⟩, st⟩ := X.virtualBack hx hown (mvT hZ w1) (mvT hZ w2) hnf (mvT hZ w3) (mvT hZ w4) hy (own_back (W := W) hM hZ wc wz hf hl) qa qc hg hsize (Steps.refl _) hlen hstack hW hdg (fun _ _ => ⟨rfl, eT, hc, hs⟩)
  dsimp only [Pt.U, Pt.locs, Pt.cells, Pt.slots] at X' l1 y1 z1 st hQ
  subst l1 y1 z1
  exact ⟨v, T', L, X', hQ, fun t k => st.trans k⟩
end OwnLayer
theorem own_pn2 : plainFor (⟨"java/lang/Record", "<init>", "()V"⟩ : MethodName) = true := plainFor_of_name (by first | (simp [plainName, overriddenIn]; done) | decide +kernel)
theorem own_ef2_R (m : MethodId) (x0 : Addr) : entryFrame m #[(.ref x0)] 1 = mkF m 0 #[.val (.ref x0)] [] := by first | (simp [entryFrame, mkF, argsToLocals, Value.category]; done) | rfl
theorem own_d2_0 : decode jdk_30_method_1_code 0 = .ok (.aload_n 0, 1) := by decide +kernel
theorem own_d2_1 : decode jdk_30_method_1_code 1 = .ok (.invokespecial 1, 3) := by decide +kernel
theorem own_d2_4 : decode jdk_30_method_1_code 4 = .ok (.return_, 1) := by decide +kernel
theorem own_pn1 : plainFor (⟨"com/example/ordinate/ordinate/client/KeyVersion", "<init>", "(J[B)V"⟩ : MethodName) = true := plainFor_of_name (by first | (simp [plainName, overriddenIn]; done) | decide +kernel)
theorem own_ef1_RJN (m : MethodId) (x0 : Addr) (x1 : Int64) : entryFrame m #[(.ref x0), (.long x1), .null] 4 = mkF m 0 #[.val (.ref x0), .val (.long x1), .second, .val .null] [] := by first | (simp [entryFrame, mkF, argsToLocals, Value.category]; done) | rfl
theorem own_d1_0 : decode prog_22_method_1_code 0 = .ok (.aload_n 0, 1) := by decide +kernel
theorem own_d1_1 : decode prog_22_method_1_code 1 = .ok (.invokespecial 1, 3) := by decide +kernel
theorem own_pd0 : parseMethodDescriptor "()V" = some ⟨[], none⟩ := by decide +kernel
theorem own_d1_4 : decode prog_22_method_1_code 4 = .ok (.aload_n 0, 1) := by decide +kernel
theorem own_d1_5 : decode prog_22_method_1_code 5 = .ok (.lload_n 1, 1) := by decide +kernel
theorem own_d1_6 : decode prog_22_method_1_code 6 = .ok (.putfield 7, 3) := by decide +kernel
theorem own_d1_9 : decode prog_22_method_1_code 9 = .ok (.aload_n 0, 1) := by decide +kernel
theorem own_d1_10 : decode prog_22_method_1_code 10 = .ok (.aload_n 3, 1) := by decide +kernel
theorem own_d1_11 : decode prog_22_method_1_code 11 = .ok (.putfield 13, 3) := by decide +kernel
theorem own_d1_14 : decode prog_22_method_1_code 14 = .ok (.return_, 1) := by decide +kernel
theorem own_ef1_RJR (m : MethodId) (x0 : Addr) (x1 : Int64) (x2 : Addr) : entryFrame m #[(.ref x0), (.long x1), (.ref x2)] 4 = mkF m 0 #[.val (.ref x0), .val (.long x1), .second, .val (.ref x2)] [] := by first | (simp [entryFrame, mkF, argsToLocals, Value.category]; done) | rfl
theorem own_pn4 : plainFor (⟨"com/example/ordinate/ordinate/client/KeyVersion", "isDeletion", "()Z"⟩ : MethodName) = true := plainFor_of_name (by first | (simp [plainName, overriddenIn]; done) | decide +kernel)
theorem own_ef4_R (m : MethodId) (x0 : Addr) : entryFrame m #[(.ref x0)] 1 = mkF m 0 #[.val (.ref x0)] [] := by first | (simp [entryFrame, mkF, argsToLocals, Value.category]; done) | rfl
theorem own_d4_0 : decode prog_22_method_2_code 0 = .ok (.aload_n 0, 1) := by decide +kernel
theorem own_d4_1 : decode prog_22_method_2_code 1 = .ok (.getfield 13, 3) := by decide +kernel
theorem own_d4_4 : decode prog_22_method_2_code 4 = .ok (.ifnonnull 7, 3) := by decide +kernel
theorem own_d4_7 : decode prog_22_method_2_code 7 = .ok (.iconst 1, 1) := by decide +kernel
theorem own_d4_8 : decode prog_22_method_2_code 8 = .ok (.goto 4, 3) := by decide +kernel
theorem own_d4_12 : decode prog_22_method_2_code 12 = .ok (.ireturn, 1) := by decide +kernel
theorem own_d4_11 : decode prog_22_method_2_code 11 = .ok (.iconst 0, 1) := by decide +kernel
theorem own_pn0 : plainFor (⟨"com/example/ordinate/ordinate/client/KeyVersionIsDeletionPinLaw", "law", "(JII)Z"⟩ : MethodName) = true := plainFor_of_name (by first | (simp [plainName, overriddenIn]; done) | decide +kernel)
theorem own_ef0_JII (m : MethodId) (x0 : Int64) (x1 : Int32) (x2 : Int32) : entryFrame m #[(.long x0), (.int x1), (.int x2)] maxLocals = mkF m 0 #[.val (.long x0), .second, .val (.int x1), .val (.int x2), .unset, .unset, .unset, .unset, .unset, .unset] [] := by first | (simp [entryFrame, mkF, argsToLocals, Value.category, maxLocals]; done) | rfl
theorem own_pd1 : parseMethodDescriptor "(J[B)V" = some ⟨[.long, (.array .byte)], none⟩ := by decide +kernel
theorem own_pd2 : parseMethodDescriptor "()Z" = some ⟨[], some .boolean⟩ := by decide +kernel
set_option maxRecDepth 65536 in
set_option maxHeartbeats 40000000 in
theorem rm2 (l : Launch) (Z : State) (a0 : Array Value) (hw : ∀ d ∈ tables_1, d.before a0 Z = true) (a1 : Addr) (h0 : Heap)  :
    OMet l Z (⟨"java/lang/Record", "<init>", "()V"⟩ : MethodName) jdk_30_method_1_code 1 none (⟨1, 0, 0, 12⟩ : Room) #[(.ref a1)] h0 (fun v h L => v = none ∧ h = h0 ∧ L = []) := by
  refine own_enter own_pn2 ?_
  intro p e s m below meth c T0 X0 hC e0
  obtain ⟨hx, hZ, hby, hml, hown, hret, hlk, hnm⟩ := hC
  have hown : s.vm.findClass "java/lang/Record" = some m.cls := hown
  refine own_at (own_ef2_R m a1) ?_
  show OFin p e below s _ _ _ (T0.setTop (mkF m 0 #[.val (.ref a1)] []))
  refine own_st (fun _ k => XS.aloadN X0.here hx rfl (hb hby own_d2_0) rfl rfl k) ?_
  show OFin p e below s _ _ _ (T0.setTop (mkF m 1 #[.val (.ref a1)] [(.ref a1)]))
  obtain ⟨T1, X1, e1, st1⟩ := initO X0 hx hZ hown (own_w hw 13 rfl) (own_w hw 14 rfl) (own_w hw 15 rfl) e0 (g := (mkF m 1 #[.val (.ref a1)] [(.ref a1)])) rfl (by rw [hml]; rfl) rfl (hb hby own_d2_1) (by decide) (W := 0) (by show 2 * 0 + _ ≤ _; exact Nat.le_of_eq rfl) (by decide)
  refine own_st (st1) ?_
  show OFin p e below s _ _ _ (T1.setTop (mkF m 4 #[.val (.ref a1)] []))
  exact own_retV X1 hx hret hlk (hb hby own_d2_4) (by decide) (by decide) ⟨rfl, e1, rfl⟩
set_option maxRecDepth 65536 in
set_option maxHeartbeats 40000000 in
theorem rm1n (l : Launch) (Z : State) (a0 : Array Value) (hw : ∀ d ∈ tables_1, d.before a0 Z = true) (a1 : Addr) (q2 : Int64) (h0 : Heap) (n0 : Nat) (E_a : Exa Z h0 a1 "com/example/ordinate/ordinate/client/KeyVersion") (F_1 : Fld Z h0 a1 "com/example/ordinate/ordinate/client/KeyVersion" "version" "J" (.long (0 : Int64))) (F_2 : Fld Z h0 a1 "com/example/ordinate/ordinate/client/KeyVersion" "value" "[B" .null) (g_a : n0 ≤ a1) :
    OMet l Z (⟨"com/example/ordinate/ordinate/client/KeyVersion", "<init>", "(J[B)V"⟩ : MethodName) prog_22_method_1_code 4 none (⟨2, 0, 0, 24⟩ : Room) #[(.ref a1), (.long q2), .null] h0 (fun v h L => v = none ∧ Fr n0 L ∧ Keep h0 h [a1] ∧ Exa Z h a1 "com/example/ordinate/ordinate/client/KeyVersion" ∧ Fld Z h a1 "com/example/ordinate/ordinate/client/KeyVersion" "value" "[B" .null) := by
  refine own_enter own_pn1 ?_
  intro p e s m below meth c T0 X0 hC e0
  obtain ⟨hx, hZ, hby, hml, hown, hret, hlk, hnm⟩ := hC
  have hown : s.vm.findClass "com/example/ordinate/ordinate/client/KeyVersion" = some m.cls := hown
  refine own_at (own_ef1_RJN m a1 q2) ?_
  show OFin p e below s _ _ _ (T0.setTop (mkF m 0 #[.val (.ref a1), .val (.long q2), .second, .val .null] []))
  have N0 := Fr.nil n0
  have kp0 := Keep.refl h0 [a1]
  refine own_st (fun _ k => XS.aloadN X0.here hx rfl (hb hby own_d1_0) rfl rfl k) ?_
  show OFin p e below s _ _ _ (T0.setTop (mkF m 1 #[.val (.ref a1), .val (.long q2), .second, .val .null] [(.ref a1)]))
  obtain ⟨v2, T2, L2, X2, hQ2, st2⟩ := own_init X0 hx hZ (y := (⟨"java/lang/Record", "<init>", "()V"⟩ : MethodName)) (rm := ⟨1, 0, 0, 12⟩) (W := 0) (a := a1) (argsL := []) (rest := []) rfl hown (own_w hw 8 rfl) (own_w hw 9 rfl) (own_w hw 11 rfl) (own_w hw 12 rfl) (rm2 l Z a0 hw a1 h0) e0 (g := (mkF m 1 #[.val (.ref a1), .val (.long q2), .second, .val .null] [(.ref a1)])) rfl (by rw [hml]; rfl) (lenOf own_pd0 rfl) rfl (by show 2 * 0 + _ ≤ _; exact Nat.le_of_eq rfl) (hb hby own_d1_1) (by decide) (by decide) (by decide) (by decide)
  obtain ⟨rfl, e2, rfl⟩ := hQ2
  rw [List.append_nil] at X2
  refine own_st (st2) ?_
  show OFin p e below s _ _ _ (T2.setTop (mkF m 4 #[.val (.ref a1), .val (.long q2), .second, .val .null] []))
  refine own_st (fun _ k => XS.aloadN X2.here hx rfl (hb hby own_d1_4) rfl rfl k) ?_
  show OFin p e below s _ _ _ (T2.setTop (mkF m 5 #[.val (.ref a1), .val (.long q2), .second, .val .null] [(.ref a1)]))
  refine own_st (fun _ k => XS.lloadN X2.here hx rfl (hb hby own_d1_5) rfl k) ?_
  show OFin p e below s _ _ _ (T2.setTop (mkF m 6 #[.val (.ref a1), .val (.long q2), .second, .val .null] [(.long q2), (.ref a1)]))
  obtain ⟨T3, h3, X3, e3, W3, st3⟩ := putF X2 hx hZ hown (host := "") (Or.inl (own_w hw 16 rfl)) Via.refl e2 F_1 E_a (Or.inr ⟨(own_w hw 17 rfl), rfl, hnm⟩) (own_w hw 3 rfl) (ty := .long) (by decide) rfl rfl (g := (mkF m 6 #[.val (.ref a1), .val (.long q2), .second, .val .null] [(.long q2), (.ref a1)])) rfl rfl (hb hby own_d1_6)
  have f4 := F_1.same W3
  have f5 := E_a.wr W3
  have f7 := F_2.other W3 (Or.inr (slot_ne (Or.inr (own_w hw 19 rfl)) (Or.inr (own_w hw 17 rfl)) (by decide) (t := (.array .byte)) (t' := .long) (by decide) (by decide)))
  have fr3 := Fr.snoc X3 N0 g_a
  have kp3 := kp0.wr W3 (Or.inl (List.mem_of_getElem? (i := 0) rfl))
  refine own_st (st3) ?_
  show OFin p e below s _ _ _ (T3.setTop (mkF m 9 #[.val (.ref a1), .val (.long q2), .second, .val .null] []))
  refine own_st (fun _ k => XS.aloadN X3.here hx rfl (hb hby own_d1_9) rfl rfl k) ?_
  show OFin p e below s _ _ _ (T3.setTop (mkF m 10 #[.val (.ref a1), .val (.long q2), .second, .val .null] [(.ref a1)]))
  refine own_st (fun _ k => XS.aloadN X3.here hx rfl (hb hby own_d1_10) rfl rfl k) ?_
  show OFin p e below s _ _ _ (T3.setTop (mkF m 11 #[.val (.ref a1), .val (.long q2), .second, .val .null] [.null, (.ref a1)]))
  obtain ⟨T8, h8, X8, e8, W8, st8⟩ := putF X3 hx hZ hown (host := "") (Or.inl (own_w hw 18 rfl)) Via.refl e3 f7 f5 (Or.inr ⟨(own_w hw 19 rfl), rfl, hnm⟩) (own_w hw 3 rfl) (ty := (.array .byte)) (by decide) rfl rfl (g := (mkF m 11 #[.val (.ref a1), .val (.long q2), .second, .val .null] [.null, (.ref a1)])) rfl rfl (hb hby own_d1_11)
  have f9 := f7.same W8
  have f10 := f5.wr W8
  have f11 := f4.other W8 (Or.inr (slot_ne (Or.inr (own_w hw 17 rfl)) (Or.inr (own_w hw 19 rfl)) (by decide) (t := .long) (t' := (.array .byte)) (by decide) (by decide)))
  have fr8 := Fr.snoc X8 fr3 g_a
  have kp8 := kp3.wr W8 (Or.inl (List.mem_of_getElem? (i := 0) rfl))
  refine own_st (st8) ?_
  show OFin p e below s _ _ _ (T8.setTop (mkF m 14 #[.val (.ref a1), .val (.long q2), .second, .val .null] []))
  exact own_retV X8 hx hret hlk (hb hby own_d1_14) (by decide) (by decide) (by show _ ∧ _ ∧ Keep h0 T8.heap _ ∧ _; rw [e8]; exact ⟨rfl, fr8, kp8, f10, f9⟩)
set_option maxRecDepth 65536 in
set_option maxHeartbeats 40000000 in
theorem rm1r (l : Launch) (Z : State) (a0 : Array Value) (hw : ∀ d ∈ tables_1, d.before a0 Z = true) (a1 : Addr) (q2 : Int64) (a3 : Addr) (h0 : Heap) (n0 : Nat) (E_a : Exa Z h0 a1 "com/example/ordinate/ordinate/client/KeyVersion") (F_1 : Fld Z h0 a1 "com/example/ordinate/ordinate/client/KeyVersion" "version" "J" (.long (0 : Int64))) (F_2 : Fld Z h0 a1 "com/example/ordinate/ordinate/client/KeyVersion" "value" "[B" .null) (g_a : n0 ≤ a1) :
    OMet l Z (⟨"com/example/ordinate/ordinate/client/KeyVersion", "<init>", "(J[B)V"⟩ : MethodName) prog_22_method_1_code 4 none (⟨2, 0, 0, 24⟩ : Room) #[(.ref a1), (.long q2), (.ref a3)] h0 (fun v h L => v = none ∧ Fr n0 L ∧ Keep h0 h [a1] ∧ Exa Z h a1 "com/example/ordinate/ordinate/client/KeyVersion" ∧ Fld Z h a1 "com/example/ordinate/ordinate/client/KeyVersion" "value" "[B" (.ref a3)) := by
  refine own_enter own_pn1 ?_
  intro p e s m below meth c T0 X0 hC e0
  obtain ⟨hx, hZ, hby, hml, hown, hret, hlk, hnm⟩ := hC
  have hown : s.vm.findClass "com/example/ordinate/ordinate/client/KeyVersion" = some m.cls := hown
  refine own_at (own_ef1_RJR m a1 q2 a3) ?_
  show OFin p e below s _ _ _ (T0.setTop (mkF m 0 #[.val (.ref a1), .val (.long q2), .second, .val (.ref a3)] []))
  have N0 := Fr.nil n0
  have kp0 := Keep.refl h0 [a1]
  refine own_st (fun _ k => XS.aloadN X0.here hx rfl (hb hby own_d1_0) rfl rfl k) ?_
  show OFin p e below s _ _ _ (T0.setTop (mkF m 1 #[.val (.ref a1), .val (.long q2), .second, .val (.ref a3)] [(.ref a1)]))
  obtain ⟨v13, T13, L13, X13, hQ13, st13⟩ := own_init X0 hx hZ (y := (⟨"java/lang/Record", "<init>", "()V"⟩ : MethodName)) (rm := ⟨1, 0, 0, 12⟩) (W := 0) (a := a1) (argsL := []) (rest := []) rfl hown (own_w hw 8 rfl) (own_w hw 9 rfl) (own_w hw 11 rfl) (own_w hw 12 rfl) (rm2 l Z a0 hw a1 h0) e0 (g := (mkF m 1 #[.val (.ref a1), .val (.long q2), .second, .val (.ref a3)] [(.ref a1)])) rfl (by rw [hml]; rfl) (lenOf own_pd0 rfl) rfl (by show 2 * 0 + _ ≤ _; exact Nat.le_of_eq rfl) (hb hby own_d1_1) (by decide) (by decide) (by decide) (by decide)
  obtain ⟨rfl, e13, rfl⟩ := hQ13
  rw [List.append_nil] at X13
  refine own_st (st13) ?_
  show OFin p e below s _ _ _ (T13.setTop (mkF m 4 #[.val (.ref a1), .val (.long q2), .second, .val (.ref a3)] []))
  refine own_st (fun _ k => XS.aloadN X13.here hx rfl (hb hby own_d1_4) rfl rfl k) ?_
  show OFin p e below s _ _ _ (T13.setTop (mkF m 5 #[.val (.ref a1), .val (.long q2), .second, .val (.ref a3)] [(.ref a1)]))
  refine own_st (fun _ k => XS.lloadN X13.here hx rfl (hb hby own_d1_5) rfl k) ?_
  show OFin p e below s _ _ _ (T13.setTop (mkF m 6 #[.val (.ref a1), .val (.long q2), .second, .val (.ref a3)] [(.long q2), (.ref a1)]))
  obtain ⟨T14, h14, X14, e14, W14, st14⟩ := putF X13 hx hZ hown (host := "") (Or.inl (own_w hw 16 rfl)) Via.refl e13 F_1 E_a (Or.inr ⟨(own_w hw 17 rfl), rfl, hnm⟩) (own_w hw 3 rfl) (ty := .long) (by decide) rfl rfl (g := (mkF m 6 #[.val (.ref a1), .val (.long q2), .second, .val (.ref a3)] [(.long q2), (.ref a1)])) rfl rfl (hb hby own_d1_6)
  have f15 := F_1.same W14
  have f16 := E_a.wr W14
  have f18 := F_2.other W14 (Or.inr (slot_ne (Or.inr (own_w hw 19 rfl)) (Or.inr (own_w hw 17 rfl)) (by decide) (t := (.array .byte)) (t' := .long) (by decide) (by decide)))
  have fr14 := Fr.snoc X14 N0 g_a
  have kp14 := kp0.wr W14 (Or.inl (List.mem_of_getElem? (i := 0) rfl))
  refine own_st (st14) ?_
  show OFin p e below s _ _ _ (T14.setTop (mkF m 9 #[.val (.ref a1), .val (.long q2), .second, .val (.ref a3)] []))
  refine own_st (fun _ k => XS.aloadN X14.here hx rfl (hb hby own_d1_9) rfl rfl k) ?_
  show OFin p e below s _ _ _ (T14.setTop (mkF m 10 #[.val (.ref a1), .val (.long q2), .second, .val (.ref a3)] [(.ref a1)]))
  refine own_st (fun _ k => XS.aloadN X14.here hx rfl (hb hby own_d1_10) rfl rfl k) ?_
  show OFin p e below s _ _ _ (T14.setTop (mkF m 11 #[.val (.ref a1), .val (.long q2), .second, .val (.ref a3)] [(.ref a3), (.ref a1)]))
  obtain ⟨T19, h19, X19, e19, W19, st19⟩ := putF X14 hx hZ hown (host := "") (Or.inl (own_w hw 18 rfl)) Via.refl e14 f18 f16 (Or.inr ⟨(own_w hw 19 rfl), rfl, hnm⟩) (own_w hw 3 rfl) (ty := (.array .byte)) (by decide) rfl rfl (g := (mkF m 11 #[.val (.ref a1), .val (.long q2), .second, .val (.ref a3)] [(.ref a3), (.ref a1)])) rfl rfl (hb hby own_d1_11)
  have f20 := f18.same W19
  have f21 := f16.wr W19
  have f22 := f15.other W19 (Or.inr (slot_ne (Or.inr (own_w hw 17 rfl)) (Or.inr (own_w hw 19 rfl)) (by decide) (t := .long) (t' := (.array .byte)) (by decide) (by decide)))
  have fr19 := Fr.snoc X19 fr14 g_a
  have kp19 := kp14.wr W19 (Or.inl (List.mem_of_getElem? (i := 0) rfl))
  refine own_st (st19) ?_
  show OFin p e below s _ _ _ (T19.setTop (mkF m 14 #[.val (.ref a1), .val (.long q2), .second, .val (.ref a3)] []))
  exact own_retV X19 hx hret hlk (hb hby own_d1_14) (by decide) (by decide) (by show _ ∧ _ ∧ Keep h0 T19.heap _ ∧ _; rw [e19]; exact ⟨rfl, fr19, kp19, f21, f20⟩)
set_option maxRecDepth 65536 in
set_option maxHeartbeats 40000000 in
theorem rm4n (l : Launch) (Z : State) (a0 : Array Value) (hw : ∀ d ∈ tables_1, d.before a0 Z = true) (a1 : Addr) (h0 : Heap) (F_2 : Fld Z h0 a1 "com/example/ordinate/ordinate/client/KeyVersion" "value" "[B" .null) :
    OMet l Z (⟨"com/example/ordinate/ordinate/client/KeyVersion", "isDeletion", "()Z"⟩ : MethodName) prog_22_method_2_code 1 (some .boolean) (⟨0, 0, 0, 0⟩ : Room) #[(.ref a1)] h0 (fun v h L => v = some (.int (1 : Int32)) ∧ h = h0 ∧ L = []) := by
  refine own_enter own_pn4 ?_
  intro p e s m below meth c T0 X0 hC e0
  obtain ⟨hx, hZ, hby, hml, hown, hret, hlk, hnm⟩ := hC
  have hown : s.vm.findClass "com/example/ordinate/ordinate/client/KeyVersion" = some m.cls := hown
  refine own_at (own_ef4_R m a1) ?_
  show OFin p e below s _ _ _ (T0.setTop (mkF m 0 #[.val (.ref a1)] []))
  refine own_st (fun _ k => XS.aloadN X0.here hx rfl (hb hby own_d4_0) rfl rfl k) ?_
  show OFin p e below s _ _ _ (T0.setTop (mkF m 1 #[.val (.ref a1)] [(.ref a1)]))
  obtain ⟨T24, X24, e24, st24⟩ := getF X0 hx hZ hown (host := "") (Or.inl (own_w hw 18 rfl)) Via.refl e0 F_2 (g := (mkF m 1 #[.val (.ref a1)] [(.ref a1)])) rfl rfl (hb hby own_d4_1)
  refine own_st (st24) ?_
  show OFin p e below s _ _ _ (T24.setTop (mkF m 4 #[.val (.ref a1)] [.null]))
  refine own_st (fun _ k => XS.ifnonnullNo X24.here hx rfl (hb hby own_d4_4) rfl k) ?_
  show OFin p e below s _ _ _ (T24.setTop (mkF m 7 #[.val (.ref a1)] []))
  refine own_st (fun _ k => XS.iconst X24.here hx rfl (hb hby own_d4_7) k) ?_
  show OFin p e below s _ _ _ (T24.setTop (mkF m 8 #[.val (.ref a1)] [(.int (1 : Int32))]))
  refine own_st (fun _ k => XS.goto X24.here hx rfl (pc0 := 8) (pc' := 12) rfl (hb hby own_d4_8) (by decide) (by decide) k) ?_
  show OFin p e below s _ _ _ (T24.setTop (mkF m 12 #[.val (.ref a1)] [(.int (1 : Int32))]))
  exact own_ret X24 hx (t := .boolean) hret hlk rfl (Or.inl ⟨rfl, by simp, _, rfl⟩) (hb hby own_d4_12) (by decide) (by decide) ⟨rfl, e24, rfl⟩
set_option maxRecDepth 65536 in
set_option maxHeartbeats 40000000 in
theorem rm4r (l : Launch) (Z : State) (a0 : Array Value) (hw : ∀ d ∈ tables_1, d.before a0 Z = true) (a1 : Addr) (h0 : Heap) (b1 : Addr) (F_2 : Fld Z h0 a1 "com/example/ordinate/ordinate/client/KeyVersion" "value" "[B" (.ref b1)) :
    OMet l Z (⟨"com/example/ordinate/ordinate/client/KeyVersion", "isDeletion", "()Z"⟩ : MethodName) prog_22_method_2_code 1 (some .boolean) (⟨0, 0, 0, 0⟩ : Room) #[(.ref a1)] h0 (fun v h L => v = some (.int (0 : Int32)) ∧ h = h0 ∧ L = []) := by
  refine own_enter own_pn4 ?_
  intro p e s m below meth c T0 X0 hC e0
  obtain ⟨hx, hZ, hby, hml, hown, hret, hlk, hnm⟩ := hC
  have hown : s.vm.findClass "com/example/ordinate/ordinate/client/KeyVersion" = some m.cls := hown
  refine own_at (own_ef4_R m a1) ?_
  show OFin p e below s _ _ _ (T0.setTop (mkF m 0 #[.val (.ref a1)] []))
  refine own_st (fun _ k => XS.aloadN X0.here hx rfl (hb hby own_d4_0) rfl rfl k) ?_
  show OFin p e below s _ _ _ (T0.setTop (mkF m 1 #[.val (.ref a1)] [(.ref a1)]))
  obtain ⟨T25, X25, e25, st25⟩ := getF X0 hx hZ hown (host := "") (Or.inl (own_w hw 18 rfl)) Via.refl e0 F_2 (g := (mkF m 1 #[.val (.ref a1)] [(.ref a1)])) rfl rfl (hb hby own_d4_1)
  refine own_st (st25) ?_
  show OFin p e below s _ _ _ (T25.setTop (mkF m 4 #[.val (.ref a1)] [(.ref b1)]))
  refine own_st (fun _ k => XS.ifnonnullYes X25.here hx rfl (pc0 := 4) (pc' := 11) rfl (hb hby own_d4_4) rfl (by decide) (by decide) k) ?_
  show OFin p e below s _ _ _ (T25.setTop (mkF m 11 #[.val (.ref a1)] []))
  refine own_st (fun _ k => XS.iconst X25.here hx rfl (hb hby own_d4_11) k) ?_
  show OFin p e below s _ _ _ (T25.setTop (mkF m 12 #[.val (.ref a1)] [(.int (0 : Int32))]))
  exact own_ret X25 hx (t := .boolean) hret hlk rfl (Or.inl ⟨rfl, by simp, _, rfl⟩) (hb hby own_d4_12) (by decide) (by decide) ⟨rfl, e25, rfl⟩
set_option maxRecDepth 65536 in
set_option maxHeartbeats 40000000 in
theorem rm0 (l : Launch) (Z : State) (a0 : Array Value) (hw : ∀ d ∈ tables_1, d.before a0 Z = true) (q1 : Int64) (p2 : Int32) (p3 : Int32) (h0 : Heap) (n0 : Nat) (Z0 : n0 ≤ h0.size)  :
    OMet l Z x code maxLocals ret room_1 #[(.long q1), (.int p2), (.int p3)] h0 (fun v h L => v = some (.int (1 : Int32)) ∧ Fr n0 L) := by
  refine own_enter own_pn0 ?_
  intro p e s m below meth c T0 X0 hC e0
  obtain ⟨hx, hZ, hby, hml, hown, hret, hlk, hnm⟩ := hC
  have hown : s.vm.findClass "com/example/ordinate/ordinate/client/KeyVersionIsDeletionPinLaw" = some m.cls := hown
  refine own_at (own_ef0_JII m q1 p2 p3) ?_
  show OFin p e below s _ _ _ (T0.setTop (mkF m 0 #[.val (.long q1), .second, .val (.int p2), .val (.int p3), .unset, .unset, .unset, .unset, .unset, .unset] []))
  have N0 := Fr.nil n0
  refine own_st (fun _ k => XS.iconst X0.here hx rfl (hb hby at_0) k) ?_
  show OFin p e below s _ _ _ (T0.setTop (mkF m 1 #[.val (.long q1), .second, .val (.int p2), .val (.int p3), .unset, .unset, .unset, .unset, .unset, .unset] [(.int (0 : Int32))]))
  obtain ⟨T26, h26, k26, X26, e26, E26, A26, st26⟩ := newP X0 hx hZ (own_w hw 0 rfl) e0 (g := (mkF m 1 #[.val (.long q1), .second, .val (.int p2), .val (.int p3), .unset, .unset, .unset, .unset, .unset, .unset] [(.int (0 : Int32))])) rfl (hb hby at_1) rfl (by decide) (cap := 0) (by decide) (by decide) (by decide) (by decide)
  obtain ⟨be, g26⟩ : ∃ z, z = h0.size := ⟨_, rfl⟩
  rw [← g26] at A26 st26
  have g_be : n0 ≤ be := Nat.le_trans Z0 (Nat.le_of_eq g26.symm)
  have f27 : Arv Z h26 be k26 .byte (0 : Int32) [] (.int (0 : Int32)) := Arv.new A26 (by decide)
  have sz26 : n0 ≤ h26.size := Nat.le_trans Z0 E26.1
  refine own_st (st26) ?_
  show OFin p e below s _ _ _ (T26.setTop (mkF m 3 #[.val (.long q1), .second, .val (.int p2), .val (.int p3), .unset, .unset, .unset, .unset, .unset, .unset] [(.ref be)]))
  refine own_st (fun _ k => XS.astore X26.here hx rfl (hb hby at_3) rfl rfl (l' := #[.val (.long q1), .second, .val (.int p2), .val (.int p3), .val (.ref be), .unset, .unset, .unset, .unset, .unset]) rfl k) ?_
  show OFin p e below s _ _ _ (T26.setTop (mkF m 5 #[.val (.long q1), .second, .val (.int p2), .val (.int p3), .val (.ref be), .unset, .unset, .unset, .unset, .unset] []))
  refine own_st (fun _ k => XS.iconst X26.here hx rfl (hb hby at_5) k) ?_
  show OFin p e below s _ _ _ (T26.setTop (mkF m 6 #[.val (.long q1), .second, .val (.int p2), .val (.int p3), .val (.ref be), .unset, .unset, .unset, .unset, .unset] [(.int (1 : Int32))]))
  obtain ⟨T28, h28, k28, X28, e28, E28, A28, st28⟩ := newP X26 hx hZ (own_w hw 0 rfl) e26 (g := (mkF m 6 #[.val (.long q1), .second, .val (.int p2), .val (.int p3), .val (.ref be), .unset, .unset, .unset, .unset, .unset] [(.int (1 : Int32))])) rfl (hb hby at_6) rfl (by decide) (cap := 1) (by decide) (by decide) (by decide) (by decide)
  obtain ⟨bo, g28⟩ : ∃ z, z = h26.size := ⟨_, rfl⟩
  rw [← g28] at A28 st28
  have ne_be_bo : be ≠ bo := Nat.ne_of_lt (Nat.lt_of_lt_of_le f27.lt (Nat.le_of_eq g28.symm))
  have g_bo : n0 ≤ bo := Nat.le_trans sz26 (Nat.le_of_eq g28.symm)
  have f29 := f27.ext E28
  have f30 : Arv Z h28 bo k28 .byte (1 : Int32) [(.int (0 : Int32))] (.int (0 : Int32)) := (Arv.new A28 (by decide)).pad (pad_rep [] (.int (0 : Int32)) 1)
  have sz28 : n0 ≤ h28.size := Nat.le_trans sz26 E28.1
  refine own_st (st28) ?_
  show OFin p e below s _ _ _ (T28.setTop (mkF m 8 #[.val (.long q1), .second, .val (.int p2), .val (.int p3), .val (.ref be), .unset, .unset, .unset, .unset, .unset] [(.ref bo)]))
  refine own_st (fun _ k => XS.dup X28.here hx rfl (hb hby at_8) rfl rfl k) ?_
  show OFin p e below s _ _ _ (T28.setTop (mkF m 9 #[.val (.long q1), .second, .val (.int p2), .val (.int p3), .val (.ref be), .unset, .unset, .unset, .unset, .unset] [(.ref bo), (.ref bo)]))
  refine own_st (fun _ k => XS.iconst X28.here hx rfl (hb hby at_9) k) ?_
  show OFin p e below s _ _ _ (T28.setTop (mkF m 10 #[.val (.long q1), .second, .val (.int p2), .val (.int p3), .val (.ref be), .unset, .unset, .unset, .unset, .unset] [(.int (0 : Int32)), (.ref bo), (.ref bo)]))
  refine own_st (fun _ k => XS.iloadN X28.here hx rfl (hb hby at_10) rfl k) ?_
  show OFin p e below s _ _ _ (T28.setTop (mkF m 11 #[.val (.long q1), .second, .val (.int p2), .val (.int p3), .val (.ref be), .unset, .unset, .unset, .unset, .unset] [(.int p3), (.int (0 : Int32)), (.ref bo), (.ref bo)]))
  refine own_st (fun _ k => XS.i2b X28.here hx rfl (hb hby at_11) rfl k) ?_
  show OFin p e below s _ _ _ (T28.setTop (mkF m 12 #[.val (.long q1), .second, .val (.int p2), .val (.int p3), .val (.ref be), .unset, .unset, .unset, .unset, .unset] [(.int (p3.toInt8.toInt32)), (.int (0 : Int32)), (.ref bo), (.ref bo)]))
  obtain ⟨cl31, Ar31, q31, S31, N31, H31, G31⟩ := f30
  have hin31 : ¬ ((0 : Int32) < 0 ∨ cl31.slots.size ≤ ((0 : Int32)).toNatClampNeg) := inb_of S31 ⟨by decide, by decide⟩
  obtain ⟨T31, h31, X31, e31, W31, st31⟩ := stB X28 hx hZ e28 Ar31 (j := (0 : Int32)) hin31 (g := (mkF m 12 #[.val (.long q1), .second, .val (.int p2), .val (.int p3), .val (.ref be), .unset, .unset, .unset, .unset, .unset] [(.int (p3.toInt8.toInt32)), (.int (0 : Int32)), (.ref bo), (.ref bo)])) rfl rfl (hb hby at_12)
  have f32 := Arv.set Ar31 q31 S31 N31 H31 G31 (fits_nar_byte _) W31 0 rfl (Nat.le_of_ble_eq_true rfl)
  have f33 := f29.other W31 ne_be_bo
  have sz31 : n0 ≤ h31.size := by rw [W31.size]; exact sz28
  have fr31 := Fr.snoc X31 N0 g_bo
  refine own_st (st31) ?_
  show OFin p e below s _ _ _ (T31.setTop (mkF m 13 #[.val (.long q1), .second, .val (.int p2), .val (.int p3), .val (.ref be), .unset, .unset, .unset, .unset, .unset] [(.ref bo)]))
  refine own_st (fun _ k => XS.astore X31.here hx rfl (hb hby at_13) rfl rfl (l' := #[.val (.long q1), .second, .val (.int p2), .val (.int p3), .val (.ref be), .val (.ref bo), .unset, .unset, .unset, .unset]) rfl k) ?_
  show OFin p e below s _ _ _ (T31.setTop (mkF m 15 #[.val (.long q1), .second, .val (.int p2), .val (.int p3), .val (.ref be), .val (.ref bo), .unset, .unset, .unset, .unset] []))
  refine own_st (fun _ k => XS.iloadN X31.here hx rfl (hb hby at_15) rfl k) ?_
  show OFin p e below s _ _ _ (T31.setTop (mkF m 16 #[.val (.long q1), .second, .val (.int p2), .val (.int p3), .val (.ref be), .val (.ref bo), .unset, .unset, .unset, .unset] [(.int p2)]))
  refine own_st (X31.ldcInt hx hown (mvT hZ (own_w hw 1 rfl)) (g := (mkF m 16 #[.val (.long q1), .second, .val (.int p2), .val (.int p3), .val (.ref be), .val (.ref bo), .unset, .unset, .unset, .unset] [(.int p2)])) rfl (hb hby at_16)) ?_
  show OFin p e below s _ _ _ (T31.setTop (mkF m 18 #[.val (.long q1), .second, .val (.int p2), .val (.int p3), .val (.ref be), .val (.ref bo), .unset, .unset, .unset, .unset] [(.int (2147483647 : Int32)), (.int p2)]))
  refine own_st (fun _ k => XS.iand X31.here hx rfl (hb hby at_18) rfl k) ?_
  show OFin p e below s _ _ _ (T31.setTop (mkF m 19 #[.val (.long q1), .second, .val (.int p2), .val (.int p3), .val (.ref be), .val (.ref bo), .unset, .unset, .unset, .unset] [(.int (p2 &&& (2147483647 : Int32)))]))
  refine own_st (fun _ k => XS.iconst X31.here hx rfl (hb hby at_19) k) ?_
  show OFin p e below s _ _ _ (T31.setTop (mkF m 20 #[.val (.long q1), .second, .val (.int p2), .val (.int p3), .val (.ref be), .val (.ref bo), .unset, .unset, .unset, .unset] [(.int (3 : Int32)), (.int (p2 &&& (2147483647 : Int32)))]))
  refine own_st (fun _ k => iremM (g := (mkF m 20 #[.val (.long q1), .second, .val (.int p2), .val (.int p3), .val (.ref be), .val (.ref bo), .unset, .unset, .unset, .unset] [(.int (3 : Int32)), (.int (p2 &&& (2147483647 : Int32)))])) X31 hx rfl (hb hby at_20) rfl (by decide) k) ?_
  show OFin p e below s _ _ _ (T31.setTop (mkF m 21 #[.val (.long q1), .second, .val (.int p2), .val (.int p3), .val (.ref be), .val (.ref bo), .unset, .unset, .unset, .unset] [(.int ((p2 &&& (2147483647 : Int32)) % (3 : Int32)))]))
  refine own_st (fun _ k => XS.istore X31.here hx rfl (hb hby at_21) rfl (l' := #[.val (.long q1), .second, .val (.int p2), .val (.int p3), .val (.ref be), .val (.ref bo), .val (.int ((p2 &&& (2147483647 : Int32)) % (3 : Int32))), .unset, .unset, .unset]) rfl k) ?_
  show OFin p e below s _ _ _ (T31.setTop (mkF m 23 #[.val (.long q1), .second, .val (.int p2), .val (.int p3), .val (.ref be), .val (.ref bo), .val (.int ((p2 &&& (2147483647 : Int32)) % (3 : Int32))), .unset, .unset, .unset] []))
  refine own_st (fun _ k => XS.iload X31.here hx rfl (hb hby at_23) rfl k) ?_
  show OFin p e below s _ _ _ (T31.setTop (mkF m 25 #[.val (.long q1), .second, .val (.int p2), .val (.int p3), .val (.ref be), .val (.ref bo), .val (.int ((p2 &&& (2147483647 : Int32)) % (3 : Int32))), .unset, .unset, .unset] [(.int ((p2 &&& (2147483647 : Int32)) % (3 : Int32)))]))
  generalize hkd : ((p2 &&& (2147483647 : Int32)) % (3 : Int32)) = kd
  show OFin p e below s _ _ _ (T31.setTop (mkF m 25 #[.val (.long q1), .second, .val (.int p2), .val (.int p3), .val (.ref be), .val (.ref bo), .val (.int kd), .unset, .unset, .unset] [(.int kd)]))
  by_cases c1 : kd = (0 : Int32)
  · refine own_st (fun _ k => XS.ifNo X31.here hx rfl (hb hby at_25) rfl ((if0 _ _).trans (teq c1).2) k) ?_
    show OFin p e below s _ _ _ (T31.setTop (mkF m 28 #[.val (.long q1), .second, .val (.int p2), .val (.int p3), .val (.ref be), .val (.ref bo), .val (.int kd), .unset, .unset, .unset] []))
    refine own_st (fun _ k => XS.aconstNull X31.here hx rfl (hb hby at_28) k) ?_
    show OFin p e below s _ _ _ (T31.setTop (mkF m 29 #[.val (.long q1), .second, .val (.int p2), .val (.int p3), .val (.ref be), .val (.ref bo), .val (.int kd), .unset, .unset, .unset] [.null]))
    refine own_st (fun _ k => XS.astore X31.here hx rfl (hb hby at_29) rfl rfl (l' := #[.val (.long q1), .second, .val (.int p2), .val (.int p3), .val (.ref be), .val (.ref bo), .val (.int kd), .val .null, .unset, .unset]) rfl k) ?_
    show OFin p e below s _ _ _ (T31.setTop (mkF m 31 #[.val (.long q1), .second, .val (.int p2), .val (.int p3), .val (.ref be), .val (.ref bo), .val (.int kd), .val .null, .unset, .unset] []))
    refine own_st (fun _ k => XS.iconst X31.here hx rfl (hb hby at_31) k) ?_
    show OFin p e below s _ _ _ (T31.setTop (mkF m 32 #[.val (.long q1), .second, .val (.int p2), .val (.int p3), .val (.ref be), .val (.ref bo), .val (.int kd), .val .null, .unset, .unset] [(.int (1 : Int32))]))
    refine own_st (fun _ k => XS.istore X31.here hx rfl (hb hby at_32) rfl (l' := #[.val (.long q1), .second, .val (.int p2), .val (.int p3), .val (.ref be), .val (.ref bo), .val (.int kd), .val .null, .val (.int (1 : Int32)), .unset]) rfl k) ?_
    show OFin p e below s _ _ _ (T31.setTop (mkF m 34 #[.val (.long q1), .second, .val (.int p2), .val (.int p3), .val (.ref be), .val (.ref bo), .val (.int kd), .val .null, .val (.int (1 : Int32)), .unset] []))
    refine own_st (fun _ k => XS.goto X31.here hx rfl (pc0 := 34) (pc' := 60) rfl (hb hby at_34) (by decide) (by decide) k) ?_
    show OFin p e below s _ _ _ (T31.setTop (mkF m 60 #[.val (.long q1), .second, .val (.int p2), .val (.int p3), .val (.ref be), .val (.ref bo), .val (.int kd), .val .null, .val (.int (1 : Int32)), .unset] []))
    obtain ⟨T35, h35, X35, e35, E35, A35, D35, -, st35⟩ := newO X31 hx hZ hown (own_w hw 2 rfl) (own_w hw 3 rfl) (own_w hw 4 rfl) e31 (g := (mkF m 60 #[.val (.long q1), .second, .val (.int p2), .val (.int p3), .val (.ref be), .val (.ref bo), .val (.int kd), .val .null, .val (.int (1 : Int32)), .unset] [])) rfl (hb hby at_60) (by decide) (by decide)
    obtain ⟨kv, g35⟩ : ∃ z, z = h31.size := ⟨_, rfl⟩
    rw [← g35] at A35 D35 st35
    have ne_be_kv : be ≠ kv := Nat.ne_of_lt (Nat.lt_of_lt_of_le f33.lt (Nat.le_of_eq g35.symm))
    have ne_bo_kv : bo ≠ kv := Nat.ne_of_lt (Nat.lt_of_lt_of_le f32.lt (Nat.le_of_eq g35.symm))
    have g_kv : n0 ≤ kv := Nat.le_trans sz31 (Nat.le_of_eq g35.symm)
    have f36 := f33.ext E35
    have f37 := f32.ext E35
    have f38 : Fld Z h35 kv "com/example/ordinate/ordinate/client/KeyVersion" "version" "J" (.long (0 : Int64)) := D35 (Or.inr (own_w hw 17 rfl)) (ty := .long) (by decide)
    have f39 : Fld Z h35 kv "com/example/ordinate/ordinate/client/KeyVersion" "value" "[B" .null := D35 (Or.inr (own_w hw 19 rfl)) (ty := (.array .byte)) (by decide)
    have sz35 : n0 ≤ h35.size := Nat.le_trans sz31 E35.1
    refine own_st (st35) ?_
    show OFin p e below s _ _ _ (T35.setTop (mkF m 63 #[.val (.long q1), .second, .val (.int p2), .val (.int p3), .val (.ref be), .val (.ref bo), .val (.int kd), .val .null, .val (.int (1 : Int32)), .unset] [(.ref kv)]))
    refine own_st (fun _ k => XS.dup X35.here hx rfl (hb hby at_63) rfl rfl k) ?_
    show OFin p e below s _ _ _ (T35.setTop (mkF m 64 #[.val (.long q1), .second, .val (.int p2), .val (.int p3), .val (.ref be), .val (.ref bo), .val (.int kd), .val .null, .val (.int (1 : Int32)), .unset] [(.ref kv), (.ref kv)]))
    refine own_st (fun _ k => XS.lloadN X35.here hx rfl (hb hby at_64) rfl k) ?_
    show OFin p e below s _ _ _ (T35.setTop (mkF m 65 #[.val (.long q1), .second, .val (.int p2), .val (.int p3), .val (.ref be), .val (.ref bo), .val (.int kd), .val .null, .val (.int (1 : Int32)), .unset] [(.long q1), (.ref kv), (.ref kv)]))
    refine own_st (fun _ k => XS.aload X35.here hx rfl (hb hby at_65) rfl rfl k) ?_
    show OFin p e below s _ _ _ (T35.setTop (mkF m 67 #[.val (.long q1), .second, .val (.int p2), .val (.int p3), .val (.ref be), .val (.ref bo), .val (.int kd), .val .null, .val (.int (1 : Int32)), .unset] [.null, (.long q1), (.ref kv), (.ref kv)]))
    obtain ⟨v40, T40, L40, X40, hQ40, st40⟩ := own_init X35 hx hZ (y := (⟨"com/example/ordinate/ordinate/client/KeyVersion", "<init>", "(J[B)V"⟩ : MethodName)) (rm := ⟨2, 0, 0, 24⟩) (W := 1) (a := kv) (argsL := [(.long q1), .null]) (rest := [(.ref kv)]) rfl hown (own_w hw 5 rfl) (own_w hw 6 rfl) (own_w hw 4 rfl) (own_w hw 7 rfl) (rm1n l Z a0 hw kv q1 h35 n0 A35 f38 f39 g_kv) e35 (g := (mkF m 67 #[.val (.long q1), .second, .val (.int p2), .val (.int p3), .val (.ref be), .val (.ref bo), .val (.int kd), .val .null, .val (.int (1 : Int32)), .unset] [.null, (.long q1), (.ref kv), (.ref kv)])) rfl (by rw [hml]; rfl) (lenOf own_pd1 rfl) rfl (by show 2 * 0 + _ ≤ _; exact Nat.le_of_eq rfl) (hb hby at_67) (by decide) (by decide) (by decide) (by decide)
    obtain ⟨rfl, N40, K40, EE40, FF40⟩ := hQ40
    have fr40 := Fr.app fr31 N40
    refine own_st (st40) ?_
    show OFin p e below s _ _ _ (T40.setTop (mkF m 70 #[.val (.long q1), .second, .val (.int p2), .val (.int p3), .val (.ref be), .val (.ref bo), .val (.int kd), .val .null, .val (.int (1 : Int32)), .unset] [(.ref kv)]))
    refine own_st (fun _ k => XS.astore X40.here hx rfl (hb hby at_70) rfl rfl (l' := #[.val (.long q1), .second, .val (.int p2), .val (.int p3), .val (.ref be), .val (.ref bo), .val (.int kd), .val .null, .val (.int (1 : Int32)), .val (.ref kv)]) rfl k) ?_
    show OFin p e below s _ _ _ (T40.setTop (mkF m 72 #[.val (.long q1), .second, .val (.int p2), .val (.int p3), .val (.ref be), .val (.ref bo), .val (.int kd), .val .null, .val (.int (1 : Int32)), .val (.ref kv)] []))
    refine own_st (fun _ k => XS.aload X40.here hx rfl (hb hby at_72) rfl rfl k) ?_
    show OFin p e below s _ _ _ (T40.setTop (mkF m 74 #[.val (.long q1), .second, .val (.int p2), .val (.int p3), .val (.ref be), .val (.ref bo), .val (.int kd), .val .null, .val (.int (1 : Int32)), .val (.ref kv)] [(.ref kv)]))
    obtain ⟨v41, T41, L41, X41, hQ41, st41⟩ := own_virtual X40 hx hZ (y := (⟨"com/example/ordinate/ordinate/client/KeyVersion", "isDeletion", "()Z"⟩ : MethodName)) (z := (⟨"com/example/ordinate/ordinate/client/KeyVersion", "isDeletion", "()Z"⟩ : MethodName)) (rm := ⟨0, 0, 0, 0⟩) (W := 0) (a := kv) (argsL := []) (rest := []) hown (own_w hw 20 rfl) (own_w hw 21 rfl) (notFace_of_selects (args := #[]) (mvT hZ (own_w hw 23 rfl))) (own_w hw 23 rfl) (own_w hw 22 rfl) (own_w hw 4 rfl) (own_w hw 24 rfl) (rm4n l Z a0 hw kv T40.heap FF40) rfl EE40 (g := (mkF m 74 #[.val (.long q1), .second, .val (.int p2), .val (.int p3), .val (.ref be), .val (.ref bo), .val (.int kd), .val .null, .val (.int (1 : Int32)), .val (.ref kv)] [(.ref kv)])) rfl (by rw [hml]; rfl) (lenOf own_pd2 rfl) rfl (by show 2 * 0 + _ ≤ _; exact Nat.le_of_eq rfl) (hb hby at_74) (by decide) (by decide) (by decide) (by decide)
    obtain ⟨rfl, e41, rfl⟩ := hQ41
    rw [List.append_nil] at X41
    refine own_st (st41) ?_
    show OFin p e below s _ _ _ (T41.setTop (mkF m 77 #[.val (.long q1), .second, .val (.int p2), .val (.int p3), .val (.ref be), .val (.ref bo), .val (.int kd), .val .null, .val (.int (1 : Int32)), .val (.ref kv)] [(.int (1 : Int32))]))
    refine own_st (fun _ k => XS.iload X41.here hx rfl (hb hby at_77) rfl k) ?_
    show OFin p e below s _ _ _ (T41.setTop (mkF m 79 #[.val (.long q1), .second, .val (.int p2), .val (.int p3), .val (.ref be), .val (.ref bo), .val (.int kd), .val .null, .val (.int (1 : Int32)), .val (.ref kv)] [(.int (1 : Int32)), (.int (1 : Int32))]))
    refine own_st (fun _ k => XS.icmpNo X41.here hx rfl (hb hby at_79) rfl (teq rfl).2 k) ?_
    show OFin p e below s _ _ _ (T41.setTop (mkF m 82 #[.val (.long q1), .second, .val (.int p2), .val (.int p3), .val (.ref be), .val (.ref bo), .val (.int kd), .val .null, .val (.int (1 : Int32)), .val (.ref kv)] []))
    refine own_st (fun _ k => XS.iconst X41.here hx rfl (hb hby at_82) k) ?_
    show OFin p e below s _ _ _ (T41.setTop (mkF m 83 #[.val (.long q1), .second, .val (.int p2), .val (.int p3), .val (.ref be), .val (.ref bo), .val (.int kd), .val .null, .val (.int (1 : Int32)), .val (.ref kv)] [(.int (1 : Int32))]))
    refine own_st (fun _ k => XS.goto X41.here hx rfl (pc0 := 83) (pc' := 87) rfl (hb hby at_83) (by decide) (by decide) k) ?_
    show OFin p e below s _ _ _ (T41.setTop (mkF m 87 #[.val (.long q1), .second, .val (.int p2), .val (.int p3), .val (.ref be), .val (.ref bo), .val (.int kd), .val .null, .val (.int (1 : Int32)), .val (.ref kv)] [(.int (1 : Int32))]))
    exact own_ret X41 hx (t := .boolean) hret hlk rfl (Or.inl ⟨rfl, by simp, _, rfl⟩) (hb hby at_87) (by decide) (by decide) ⟨rfl, fr40⟩
  · refine own_st (fun _ k => XS.ifYes X31.here hx rfl (pc0 := 25) (pc' := 37) rfl (hb hby at_25) rfl ((if0 _ _).trans (feq c1).2) (by decide) (by decide) k) ?_
    show OFin p e below s _ _ _ (T31.setTop (mkF m 37 #[.val (.long q1), .second, .val (.int p2), .val (.int p3), .val (.ref be), .val (.ref bo), .val (.int kd), .unset, .unset, .unset] []))
    refine own_st (fun _ k => XS.iload X31.here hx rfl (hb hby at_37) rfl k) ?_
    show OFin p e below s _ _ _ (T31.setTop (mkF m 39 #[.val (.long q1), .second, .val (.int p2), .val (.int p3), .val (.ref be), .val (.ref bo), .val (.int kd), .unset, .unset, .unset] [(.int kd)]))
    refine own_st (fun _ k => XS.iconst X31.here hx rfl (hb hby at_39) k) ?_
    show OFin p e below s _ _ _ (T31.setTop (mkF m 40 #[.val (.long q1), .second, .val (.int p2), .val (.int p3), .val (.ref be), .val (.ref bo), .val (.int kd), .unset, .unset, .unset] [(.int (1 : Int32)), (.int kd)]))
    by_cases c2 : kd = (1 : Int32)
    · refine own_st (fun _ k => XS.icmpNo X31.here hx rfl (hb hby at_40) rfl (teq c2).2 k) ?_
      show OFin p e below s _ _ _ (T31.setTop (mkF m 43 #[.val (.long q1), .second, .val (.int p2), .val (.int p3), .val (.ref be), .val (.ref bo), .val (.int kd), .unset, .unset, .unset] []))
      refine own_st (fun _ k => XS.aload X31.here hx rfl (hb hby at_43) rfl rfl k) ?_
      show OFin p e below s _ _ _ (T31.setTop (mkF m 45 #[.val (.long q1), .second, .val (.int p2), .val (.int p3), .val (.ref be), .val (.ref bo), .val (.int kd), .unset, .unset, .unset] [(.ref be)]))
      refine own_st (fun _ k => XS.astore X31.here hx rfl (hb hby at_45) rfl rfl (l' := #[.val (.long q1), .second, .val (.int p2), .val (.int p3), .val (.ref be), .val (.ref bo), .val (.int kd), .val (.ref be), .unset, .unset]) rfl k) ?_
      show OFin p e below s _ _ _ (T31.setTop (mkF m 47 #[.val (.long q1), .second, .val (.int p2), .val (.int p3), .val (.ref be), .val (.ref bo), .val (.int kd), .val (.ref be), .unset, .unset] []))
      refine own_st (fun _ k => XS.iconst X31.here hx rfl (hb hby at_47) k) ?_
      show OFin p e below s _ _ _ (T31.setTop (mkF m 48 #[.val (.long q1), .second, .val (.int p2), .val (.int p3), .val (.ref be), .val (.ref bo), .val (.int kd), .val (.ref be), .unset, .unset] [(.int (0 : Int32))]))
      refine own_st (fun _ k => XS.istore X31.here hx rfl (hb hby at_48) rfl (l' := #[.val (.long q1), .second, .val (.int p2), .val (.int p3), .val (.ref be), .val (.ref bo), .val (.int kd), .val (.ref be), .val (.int (0 : Int32)), .unset]) rfl k) ?_
      show OFin p e below s _ _ _ (T31.setTop (mkF m 50 #[.val (.long q1), .second, .val (.int p2), .val (.int p3), .val (.ref be), .val (.ref bo), .val (.int kd), .val (.ref be), .val (.int (0 : Int32)), .unset] []))
      refine own_st (fun _ k => XS.goto X31.here hx rfl (pc0 := 50) (pc' := 60) rfl (hb hby at_50) (by decide) (by decide) k) ?_
      show OFin p e below s _ _ _ (T31.setTop (mkF m 60 #[.val (.long q1), .second, .val (.int p2), .val (.int p3), .val (.ref be), .val (.ref bo), .val (.int kd), .val (.ref be), .val (.int (0 : Int32)), .unset] []))
      obtain ⟨T42, h42, X42, e42, E42, A42, D42, -, st42⟩ := newO X31 hx hZ hown (own_w hw 2 rfl) (own_w hw 3 rfl) (own_w hw 4 rfl) e31 (g := (mkF m 60 #[.val (.long q1), .second, .val (.int p2), .val (.int p3), .val (.ref be), .val (.ref bo), .val (.int kd), .val (.ref be), .val (.int (0 : Int32)), .unset] [])) rfl (hb hby at_60) (by decide) (by decide)
      obtain ⟨kv, g42⟩ : ∃ z, z = h31.size := ⟨_, rfl⟩
      rw [← g42] at A42 D42 st42
      have ne_be_kv : be ≠ kv := Nat.ne_of_lt (Nat.lt_of_lt_of_le f33.lt (Nat.le_of_eq g42.symm))
      have ne_bo_kv : bo ≠ kv := Nat.ne_of_lt (Nat.lt_of_lt_of_le f32.lt (Nat.le_of_eq g42.symm))
      have g_kv : n0 ≤ kv := Nat.le_trans sz31 (Nat.le_of_eq g42.symm)
      have f43 := f33.ext E42
      have f44 := f32.ext E42
      have f45 : Fld Z h42 kv "com/example/ordinate/ordinate/client/KeyVersion" "version" "J" (.long (0 : Int64)) := D42 (Or.inr (own_w hw 17 rfl)) (ty := .long) (by decide)
      have f46 : Fld Z h42 kv "com/example/ordinate/ordinate/client/KeyVersion" "value" "[B" .null := D42 (Or.inr (own_w hw 19 rfl)) (ty := (.array .byte)) (by decide)
      have sz42 : n0 ≤ h42.size := Nat.le_trans sz31 E42.1
      refine own_st (st42) ?_
      show OFin p e below s _ _ _ (T42.setTop (mkF m 63 #[.val (.long q1), .second, .val (.int p2), .val (.int p3), .val (.ref be), .val (.ref bo), .val (.int kd), .val (.ref be), .val (.int (0 : Int32)), .unset] [(.ref kv)]))
      refine own_st (fun _ k => XS.dup X42.here hx rfl (hb hby at_63) rfl rfl k) ?_
      show OFin p e below s _ _ _ (T42.setTop (mkF m 64 #[.val (.long q1), .second, .val (.int p2), .val (.int p3), .val (.ref be), .val (.ref bo), .val (.int kd), .val (.ref be), .val (.int (0 : Int32)), .unset] [(.ref kv), (.ref kv)]))
      refine own_st (fun _ k => XS.lloadN X42.here hx rfl (hb hby at_64) rfl k) ?_
      show OFin p e below s _ _ _ (T42.setTop (mkF m 65 #[.val (.long q1), .second, .val (.int p2), .val (.int p3), .val (.ref be), .val (.ref bo), .val (.int kd), .val (.ref be), .val (.int (0 : Int32)), .unset] [(.long q1), (.ref kv), (.ref kv)]))
      refine own_st (fun _ k => XS.aload X42.here hx rfl (hb hby at_65) rfl rfl k) ?_
      show OFin p e below s _ _ _ (T42.setTop (mkF m 67 #[.val (.long q1), .second, .val (.int p2), .val (.int p3), .val (.ref be), .val (.ref bo), .val (.int kd), .val (.ref be), .val (.int (0 : Int32)), .unset] [(.ref be), (.long q1), (.ref kv), (.ref kv)]))
      obtain ⟨v47, T47, L47, X47, hQ47, st47⟩ := own_init X42 hx hZ (y := (⟨"com/example/ordinate/ordinate/client/KeyVersion", "<init>", "(J[B)V"⟩ : MethodName)) (rm := ⟨2, 0, 0, 24⟩) (W := 1) (a := kv) (argsL := [(.long q1), (.ref be)]) (rest := [(.ref kv)]) rfl hown (own_w hw 5 rfl) (own_w hw 6 rfl) (own_w hw 4 rfl) (own_w hw 7 rfl) (rm1r l Z a0 hw kv q1 be h42 n0 A42 f45 f46 g_kv) e42 (g := (mkF m 67 #[.val (.long q1), .second, .val (.int p2), .val (.int p3), .val (.ref be), .val (.ref bo), .val (.int kd), .val (.ref be), .val (.int (0 : Int32)), .unset] [(.ref be), (.long q1), (.ref kv), (.ref kv)])) rfl (by rw [hml]; rfl) (lenOf own_pd1 rfl) rfl (by show 2 * 0 + _ ≤ _; exact Nat.le_of_eq rfl) (hb hby at_67) (by decide) (by decide) (by decide) (by decide)
      obtain ⟨rfl, N47, K47, EE47, FF47⟩ := hQ47
      have fr47 := Fr.app fr31 N47
      refine own_st (st47) ?_
      show OFin p e below s _ _ _ (T47.setTop (mkF m 70 #[.val (.long q1), .second, .val (.int p2), .val (.int p3), .val (.ref be), .val (.ref bo), .val (.int kd), .val (.ref be), .val (.int (0 : Int32)), .unset] [(.ref kv)]))
      refine own_st (fun _ k => XS.astore X47.here hx rfl (hb hby at_70) rfl rfl (l' := #[.val (.long q1), .second, .val (.int p2), .val (.int p3), .val (.ref be), .val (.ref bo), .val (.int kd), .val (.ref be), .val (.int (0 : Int32)), .val (.ref kv)]) rfl k) ?_
      show OFin p e below s _ _ _ (T47.setTop (mkF m 72 #[.val (.long q1), .second, .val (.int p2), .val (.int p3), .val (.ref be), .val (.ref bo), .val (.int kd), .val (.ref be), .val (.int (0 : Int32)), .val (.ref kv)] []))
      refine own_st (fun _ k => XS.aload X47.here hx rfl (hb hby at_72) rfl rfl k) ?_
      show OFin p e below s _ _ _ (T47.setTop (mkF m 74 #[.val (.long q1), .second, .val (.int p2), .val (.int p3), .val (.ref be), .val (.ref bo), .val (.int kd), .val (.ref be), .val (.int (0 : Int32)), .val (.ref kv)] [(.ref kv)]))
      obtain ⟨v48, T48, L48, X48, hQ48, st48⟩ := own_virtual X47 hx hZ (y := (⟨"com/example/ordinate/ordinate/client/KeyVersion", "isDeletion", "()Z"⟩ : MethodName)) (z := (⟨"com/example/ordinate/ordinate/client/KeyVersion", "isDeletion", "()Z"⟩ : MethodName)) (rm := ⟨0, 0, 0, 0⟩) (W := 0) (a := kv) (argsL := []) (rest := []) hown (own_w hw 20 rfl) (own_w hw 21 rfl) (notFace_of_selects (args := #[]) (mvT hZ (own_w hw 23 rfl))) (own_w hw 23 rfl) (own_w hw 22 rfl) (own_w hw 4 rfl) (own_w hw 24 rfl) (rm4r l Z a0 hw kv T47.heap be FF47) rfl EE47 (g := (mkF m 74 #[.val (.long q1), .second, .val (.int p2), .val (.int p3), .val (.ref be), .val (.ref bo), .val (.int kd), .val (.ref be), .val (.int (0 : Int32)), .val (.ref kv)] [(.ref kv)])) rfl (by rw [hml]; rfl) (lenOf own_pd2 rfl) rfl (by show 2 * 0 + _ ≤ _; exact Nat.le_of_eq rfl) (hb hby at_74) (by decide) (by decide) (by decide) (by decide)
      obtain ⟨rfl, e48, rfl⟩ := hQ48
      rw [List.append_nil] at X48
      refine own_st (st48) ?_
      show OFin p e below s _ _ _ (T48.setTop (mkF m 77 #[.val (.long q1), .second, .val (.int p2), .val (.int p3), .val (.ref be), .val (.ref bo), .val (.int kd), .val (.ref be), .val (.int (0 : Int32)), .val (.ref kv)] [(.int (0 : Int32))]))
      refine own_st (fun _ k => XS.iload X48.here hx rfl (hb hby at_77) rfl k) ?_
      show OFin p e below s _ _ _ (T48.setTop (mkF m 79 #[.val (.long q1), .second, .val (.int p2), .val (.int p3), .val (.ref be), .val (.ref bo), .val (.int kd), .val (.ref be), .val (.int (0 : Int32)), .val (.ref kv)] [(.int (0 : Int32)), (.int (0 : Int32))]))
      refine own_st (fun _ k => XS.icmpNo X48.here hx rfl (hb hby at_79) rfl (teq rfl).2 k) ?_
      show OFin p e below s _ _ _ (T48.setTop (mkF m 82 #[.val (.long q1), .second, .val (.int p2), .val (.int p3), .val (.ref be), .val (.ref bo), .val (.int kd), .val (.ref be), .val (.int (0 : Int32)), .val (.ref kv)] []))
      refine own_st (fun _ k => XS.iconst X48.here hx rfl (hb hby at_82) k) ?_
      show OFin p e below s _ _ _ (T48.setTop (mkF m 83 #[.val (.long q1), .second, .val (.int p2), .val (.int p3), .val (.ref be), .val (.ref bo), .val (.int kd), .val (.ref be), .val (.int (0 : Int32)), .val (.ref kv)] [(.int (1 : Int32))]))
      refine own_st (fun _ k => XS.goto X48.here hx rfl (pc0 := 83) (pc' := 87) rfl (hb hby at_83) (by decide) (by decide) k) ?_
      show OFin p e below s _ _ _ (T48.setTop (mkF m 87 #[.val (.long q1), .second, .val (.int p2), .val (.int p3), .val (.ref be), .val (.ref bo), .val (.int kd), .val (.ref be), .val (.int (0 : Int32)), .val (.ref kv)] [(.int (1 : Int32))]))
      exact own_ret X48 hx (t := .boolean) hret hlk rfl (Or.inl ⟨rfl, by simp, _, rfl⟩) (hb hby at_87) (by decide) (by decide) ⟨rfl, fr47⟩
    · refine own_st (fun _ k => XS.icmpYes X31.here hx rfl (pc0 := 40) (pc' := 53) rfl (hb hby at_40) rfl (feq c2).2 (by decide) (by decide) k) ?_
      show OFin p e below s _ _ _ (T31.setTop (mkF m 53 #[.val (.long q1), .second, .val (.int p2), .val (.int p3), .val (.ref be), .val (.ref bo), .val (.int kd), .unset, .unset, .unset] []))
      refine own_st (fun _ k => XS.aload X31.here hx rfl (hb hby at_53) rfl rfl k) ?_
      show OFin p e below s _ _ _ (T31.setTop (mkF m 55 #[.val (.long q1), .second, .val (.int p2), .val (.int p3), .val (.ref be), .val (.ref bo), .val (.int kd), .unset, .unset, .unset] [(.ref bo)]))
      refine own_st (fun _ k => XS.astore X31.here hx rfl (hb hby at_55) rfl rfl (l' := #[.val (.long q1), .second, .val (.int p2), .val (.int p3), .val (.ref be), .val (.ref bo), .val (.int kd), .val (.ref bo), .unset, .unset]) rfl k) ?_
      show OFin p e below s _ _ _ (T31.setTop (mkF m 57 #[.val (.long q1), .second, .val (.int p2), .val (.int p3), .val (.ref be), .val (.ref bo), .val (.int kd), .val (.ref bo), .unset, .unset] []))
      refine own_st (fun _ k => XS.iconst X31.here hx rfl (hb hby at_57) k) ?_
      show OFin p e below s _ _ _ (T31.setTop (mkF m 58 #[.val (.long q1), .second, .val (.int p2), .val (.int p3), .val (.ref be), .val (.ref bo), .val (.int kd), .val (.ref bo), .unset, .unset] [(.int (0 : Int32))]))
      refine own_st (fun _ k => XS.istore X31.here hx rfl (hb hby at_58) rfl (l' := #[.val (.long q1), .second, .val (.int p2), .val (.int p3), .val (.ref be), .val (.ref bo), .val (.int kd), .val (.ref bo), .val (.int (0 : Int32)), .unset]) rfl k) ?_
      show OFin p e below s _ _ _ (T31.setTop (mkF m 60 #[.val (.long q1), .second, .val (.int p2), .val (.int p3), .val (.ref be), .val (.ref bo), .val (.int kd), .val (.ref bo), .val (.int (0 : Int32)), .unset] []))
      obtain ⟨T49, h49, X49, e49, E49, A49, D49, -, st49⟩ := newO X31 hx hZ hown (own_w hw 2 rfl) (own_w hw 3 rfl) (own_w hw 4 rfl) e31 (g := (mkF m 60 #[.val (.long q1), .second, .val (.int p2), .val (.int p3), .val (.ref be), .val (.ref bo), .val (.int kd), .val (.ref bo), .val (.int (0 : Int32)), .unset] [])) rfl (hb hby at_60) (by decide) (by decide)
      obtain ⟨kv, g49⟩ : ∃ z, z = h31.size := ⟨_, rfl⟩
      rw [← g49] at A49 D49 st49
      have ne_be_kv : be ≠ kv := Nat.ne_of_lt (Nat.lt_of_lt_of_le f33.lt (Nat.le_of_eq g49.symm))
      have ne_bo_kv : bo ≠ kv := Nat.ne_of_lt (Nat.lt_of_lt_of_le f32.lt (Nat.le_of_eq g49.symm))
      have g_kv : n0 ≤ kv := Nat.le_trans sz31 (Nat.le_of_eq g49.symm)
      have f50 := f33.ext E49
      have f51 := f32.ext E49
      have f52 : Fld Z h49 kv "com/example/ordinate/ordinate/client/KeyVersion" "version" "J" (.long (0 : Int64)) := D49 (Or.inr (own_w hw 17 rfl)) (ty := .long) (by decide)
      have f53 : Fld Z h49 kv "com/example/ordinate/ordinate/client/KeyVersion" "value" "[B" .null := D49 (Or.inr (own_w hw 19 rfl)) (ty := (.array .byte)) (by decide)
      have sz49 : n0 ≤ h49.size := Nat.le_trans sz31 E49.1
      refine own_st (st49) ?_
      show OFin p e below s _ _ _ (T49.setTop (mkF m 63 #[.val (.long q1), .second, .val (.int p2), .val (.int p3), .val (.ref be), .val (.ref bo), .val (.int kd), .val (.ref bo), .val (.int (0 : Int32)), .unset] [(.ref kv)]))
      refine own_st (fun _ k => XS.dup X49.here hx rfl (hb hby at_63) rfl rfl k) ?_
      show OFin p e below s _ _ _ (T49.setTop (mkF m 64 #[.val (.long q1), .second, .val (.int p2), .val (.int p3), .val (.ref be), .val (.ref bo), .val (.int kd), .val (.ref bo), .val (.int (0 : Int32)), .unset] [(.ref kv), (.ref kv)]))
      refine own_st (fun _ k => XS.lloadN X49.here hx rfl (hb hby at_64) rfl k) ?_
      show OFin p e below s _ _ _ (T49.setTop (mkF m 65 #[.val (.long q1), .second, .val (.int p2), .val (.int p3), .val (.ref be), .val (.ref bo), .val (.int kd), .val (.ref bo), .val (.int (0 : Int32)), .unset] [(.long q1), (.ref kv), (.ref kv)]))
      refine own_st (fun _ k => XS.aload X49.here hx rfl (hb hby at_65) rfl rfl k) ?_
      show OFin p e below s _ _ _ (T49.setTop (mkF m 67 #[.val (.long q1), .second, .val (.int p2), .val (.int p3), .val (.ref be), .val (.ref bo), .val (.int kd), .val (.ref bo), .val (.int (0 : Int32)), .unset] [(.ref bo), (.long q1), (.ref kv), (.ref kv)]))
      obtain ⟨v54, T54, L54, X54, hQ54, st54⟩ := own_init X49 hx hZ (y := (⟨"com/example/ordinate/ordinate/client/KeyVersion", "<init>", "(J[B)V"⟩ : MethodName)) (rm := ⟨2, 0, 0, 24⟩) (W := 1) (a := kv) (argsL := [(.long q1), (.ref bo)]) (rest := [(.ref kv)]) rfl hown (own_w hw 5 rfl) (own_w hw 6 rfl) (own_w hw 4 rfl) (own_w hw 7 rfl) (rm1r l Z a0 hw kv q1 bo h49 n0 A49 f52 f53 g_kv) e49 (g := (mkF m 67 #[.val (.long q1), .second, .val (.int p2), .val (.int p3), .val (.ref be), .val (.ref bo), .val (.int kd), .val (.ref bo), .val (.int (0 : Int32)), .unset] [(.ref bo), (.long q1), (.ref kv), (.ref kv)])) rfl (by rw [hml]; rfl) (lenOf own_pd1 rfl) rfl (by show 2 * 0 + _ ≤ _; exact Nat.le_of_eq rfl) (hb hby at_67) (by decide) (by decide) (by decide) (by decide)
      obtain ⟨rfl, N54, K54, EE54, FF54⟩ := hQ54
      have fr54 := Fr.app fr31 N54
      refine own_st (st54) ?_
      show OFin p e below s _ _ _ (T54.setTop (mkF m 70 #[.val (.long q1), .second, .val (.int p2), .val (.int p3), .val (.ref be), .val (.ref bo), .val (.int kd), .val (.ref bo), .val (.int (0 : Int32)), .unset] [(.ref kv)]))
      refine own_st (fun _ k => XS.astore X54.here hx rfl (hb hby at_70) rfl rfl (l' := #[.val (.long q1), .second, .val (.int p2), .val (.int p3), .val (.ref be), .val (.ref bo), .val (.int kd), .val (.ref bo), .val (.int (0 : Int32)), .val (.ref kv)]) rfl k) ?_
      show OFin p e below s _ _ _ (T54.setTop (mkF m 72 #[.val (.long q1), .second, .val (.int p2), .val (.int p3), .val (.ref be), .val (.ref bo), .val (.int kd), .val (.ref bo), .val (.int (0 : Int32)), .val (.ref kv)] []))
      refine own_st (fun _ k => XS.aload X54.here hx rfl (hb hby at_72) rfl rfl k) ?_
      show OFin p e below s _ _ _ (T54.setTop (mkF m 74 #[.val (.long q1), .second, .val (.int p2), .val (.int p3), .val (.ref be), .val (.ref bo), .val (.int kd), .val (.ref bo), .val (.int (0 : Int32)), .val (.ref kv)] [(.ref kv)]))
      obtain ⟨v55, T55, L55, X55, hQ55, st55⟩ := own_virtual X54 hx hZ (y := (⟨"com/example/ordinate/ordinate/client/KeyVersion", "isDeletion", "()Z"⟩ : MethodName)) (z := (⟨"com/example/ordinate/ordinate/client/KeyVersion", "isDeletion", "()Z"⟩ : MethodName)) (rm := ⟨0, 0, 0, 0⟩) (W := 0) (a := kv) (argsL := []) (rest := []) hown (own_w hw 20 rfl) (own_w hw 21 rfl) (notFace_of_selects (args := #[]) (mvT hZ (own_w hw 23 rfl))) (own_w hw 23 rfl) (own_w hw 22 rfl) (own_w hw 4 rfl) (own_w hw 24 rfl) (rm4r l Z a0 hw kv T54.heap bo FF54) rfl EE54 (g := (mkF m 74 #[.val (.long q1), .second, .val (.int p2), .val (.int p3), .val (.ref be), .val (.ref bo), .val (.int kd), .val (.ref bo), .val (.int (0 : Int32)), .val (.ref kv)] [(.ref kv)])) rfl (by rw [hml]; rfl) (lenOf own_pd2 rfl) rfl (by show 2 * 0 + _ ≤ _; exact Nat.le_of_eq rfl) (hb hby at_74) (by decide) (by decide) (by decide) (by decide)
      obtain ⟨rfl, e55, rfl⟩ := hQ55
      rw [List.append_nil] at X55
      refine own_st (st55) ?_
      show OFin p e below s _ _ _ (T55.setTop (mkF m 77 #[.val (.long q1), .second, .val (.int p2), .val (.int p3), .val (.ref be), .val (.ref bo), .val (.int kd), .val (.ref bo), .val (.int (0 : Int32)), .val (.ref kv)] [(.int (0 : Int32))]))
      refine own_st (fun _ k => XS.iload X55.here hx rfl (hb hby at_77) rfl k) ?_
      show OFin p e below s _ _ _ (T55.setTop (mkF m 79 #[.val (.long q1), .second, .val (.int p2), .val (.int p3), .val (.ref be), .val (.ref bo), .val (.int kd), .val (.ref bo), .val (.int (0 : Int32)), .val (.ref kv)] [(.int (0 : Int32)), (.int (0 : Int32))]))
      refine own_st (fun _ k => XS.icmpNo X55.here hx rfl (hb hby at_79) rfl (teq rfl).2 k) ?_
      show OFin p e below s _ _ _ (T55.setTop (mkF m 82 #[.val (.long q1), .second, .val (.int p2), .val (.int p3), .val (.ref be), .val (.ref bo), .val (.int kd), .val (.ref bo), .val (.int (0 : Int32)), .val (.ref kv)] []))
      refine own_st (fun _ k => XS.iconst X55.here hx rfl (hb hby at_82) k) ?_
      show OFin p e below s _ _ _ (T55.setTop (mkF m 83 #[.val (.long q1), .second, .val (.int p2), .val (.int p3), .val (.ref be), .val (.ref bo), .val (.int kd), .val (.ref bo), .val (.int (0 : Int32)), .val (.ref kv)] [(.int (1 : Int32))]))
      refine own_st (fun _ k => XS.goto X55.here hx rfl (pc0 := 83) (pc' := 87) rfl (hb hby at_83) (by decide) (by decide) k) ?_
      show OFin p e below s _ _ _ (T55.setTop (mkF m 87 #[.val (.long q1), .second, .val (.int p2), .val (.int p3), .val (.ref be), .val (.ref bo), .val (.int kd), .val (.ref bo), .val (.int (0 : Int32)), .val (.ref kv)] [(.int (1 : Int32))]))
      exact own_ret X55 hx (t := .boolean) hret hlk rfl (Or.inl ⟨rfl, by simp, _, rfl⟩) (hb hby at_87) (by decide) (by decide) ⟨rfl, fr54⟩
set_option maxRecDepth 65536 in
set_option maxHeartbeats 40000000 in
theorem comes_1 {Post : Tables → Env → Array Value → State → Outcome → State → Prop} (hpost : ∀ tb e args s v u, (limb_1_1.after args s (.returned v) u = true ∧ limb_1_2.after args s (.returned v) u = true ∧ True) → FrameEnd s (.returned v) u (Jvm.fieldLocs frame_1_writes args s ++ Jvm.arrayLocs frame_1_arrays args s ++ Jvm.staticLocs frame_1_statics s) 16 128 → Post tb e args s (.returned v) u) :
    ArmFor flags0 classFile x code maxLocals ret World_1 tables_1 room_1 Calls_1 rest_1 Pre_1 Post := by
  intro l hfl _ _ p e ha hc hk s m args below hf hA hF happ hP
  obtain ⟨hcalls, hrest, hpre⟩ := hP
  obtain ⟨-, -, -, hnamed, -, -, -, hat⟩ := (Spec.applies_iff hf).mp happ
  obtain ⟨hg, hn⟩ := and_e (Cond.before_iff.mp (show (Jvm.Cond.and given_1 narrow_1).before args s = true from hpre))
  obtain ⟨gc, hg0⟩ := and_e hg
  obtain ⟨ga0, hg1⟩ := and_e hg0
  obtain ⟨ga1, hg2⟩ := and_e hg1
  obtain ⟨w0, w1, w2, rfl⟩ : ∃ w0 w1 w2 : Value, args = #[w0, w1, w2] := by
    have hs : args.size = 3 := by simpa [Cond.value, given_1] using gc
    obtain ⟨L⟩ := args
    match L, hs with
    | [w0, w1, w2], _ => exact ⟨w0, w1, w2, rfl⟩
  have hw := fun d (hd : d ∈ tables_1) => atoms_spec (ws := Jvm.Cond.code x code maxLocals ret :: tables_1) hat d (List.mem_cons_of_mem _ hd)
  have hfit : Fit s := fun {y c} hc i hi => by
    obtain ⟨ha, rfl⟩ := Array.getElem?_eq_some_iff.mp hc
    have q := List.all_eq_true.mp ((Array.all_eq_true_iff_forall_mem.mp hF) _ (Array.getElem_mem ha)) i (List.mem_range.mpr hi)
    simpa [Array.getElem?_eq_getElem hi] using q
  obtain ⟨i0, ei0⟩ := isL_v ga0
  obtain rfl : w0 = (.long i0) := Option.some.inj ei0
  obtain ⟨i1, ei1⟩ := is_v ga1
  obtain rfl : w1 = (.int i1) := Option.some.inj ei1
  obtain ⟨i2, ei2⟩ := is_v hg2
  obtain rfl : w2 = (.int i2) := Option.some.inj ei2
  obtain ⟨n, o, h1, h2, h3, _, L, rfl, ⟨rfl, N⟩, hq⟩ := rm0 l s _ hw i0 i1 i2 s.heap s.heap.size (Nat.le_refl _) tables_1 p e ha hc hk s m _ below hf ((Spec.applies_iff_loose hf).mp happ).1 ⟨rfl, State.Warmed39.refl s, rfl⟩ trivial
  refine ⟨n, _, h1, h2, h3, hpost _ _ _ _ _ _ ⟨Cond.after_iff.mpr rfl, Cond.after_iff.mpr (eq_i res_at (Term.int_eval (1)) rfl), trivial⟩ ⟨hq.1, hq.2.1, (hq.2.2.sift fun y hy => Or.inr (N y hy)).mono (by decide) (by decide)⟩⟩
theorem main_1_1 : Claimed_1_1 := comes_1 fun _ _ _ _ _ _ h hF => ⟨h.1, hF⟩
theorem main_1_2 : Claimed_1_2 := comes_1 fun _ _ _ _ _ _ h hF => ⟨h.2.1, hF⟩
end Jvm.Pilot.@@N@@
namespace Jvm.Pilot.@@N@@
open Jvm Jvm.ClassFile Sem Op Lib Jvm.Free Jvm.Stand Jvm.Pilot.@@N@@.Jvm.D
/-! MADE BY PROGRAM (witnessworld.py) out of the Statement's table words and the real class files: 10 classes; the members and pool entries that the words name. The judged class is class 1, her method 1. -/
namespace start1
open Jvm.ClassFile
def u (s : String) : CpInfo := .utf8 (stringToUtf16 s)
/-- a pool by its gaps: so many unusable entries, then the entry; so many at the end -/
def gap : Nat → List CpInfo → List CpInfo
  | 0, r => r
  | n + 1, r => .unusable :: gap n r
def poolList (es : List (Nat × CpInfo)) (last : Nat) : List CpInfo := es.foldr (fun e r => gap e.1 (e.2 :: r)) (gap last [])
def pool (es : List (Nat × CpInfo)) (last : Nat) : Array CpInfo := ⟨poolList es last⟩
def fileOf (pool : Array CpInfo) (this : Nat) (attrs : Array Attribute := #[]) (ms : Array MethodInfo := #[]) (fl : Nat := 33) (sup : Nat := 0) (ifs : Array Nat := #[]) (fds : Array FieldInfo := #[]) : ClassFile where
  minorVersion := 0
  majorVersion := 65
  constantPool := pool
  accessFlags := fl
  thisClass := this
  superClass := sup
  interfaces := ifs
  fields := fds
  methods := ms
  attributes := attrs
def plain (name : String) (sup : Option ClassId) : Class where
  name := name
  kind := .ordinary
  loader := none
  accessFlags := 33
  super := sup
  interfaces := #[]
  cf := none
  fields := #[]
  methods := #[]
  instanceTypes := #[]
  staticTypes := #[]
  resolved := #[]
  callSites := []
  init := .initialized
  statics := none
  mirror := none

def pool0 : Array CpInfo := pool [(5, u "<init>"), (0, u "()V"), (1, .class_ 10), (1, u "java/lang/Object")] 113

def k0c0 : Code := { maxStack := 0, maxLocals := 1, code := object_method_1_code, exceptionTable := #[], attributes := #[] }
def k0m0 : Method := { name := "<init>", desc := "()V", sig := { parameters := [], returnType := none }, accessFlags := 1, code := some k0c0 }
/-- java/lang/Object -/
def k0 : Class := { plain "java/lang/Object" none with
  accessFlags := 33
  interfaces := #[]
  cf := some (fileOf pool0 8 #[] #[{ accessFlags := 1, nameIndex := 5, descriptorIndex := 6, attributes := #[] }] 33 0 #[] #[])
  fields := #[]
  methods := #[k0m0]
  instanceTypes := #[]
  staticTypes := #[]
  resolved := Array.replicate 124 none
  statics := none }

def pool1 : Array CpInfo := pool [(2, .class_ 4), (1, u "java/lang/Object"), (0, u "<init>"), (0, u "()V"), (0, .integer 2147483647), (0, .class_ 9), (0, u "com/example/ordinate/ordinate/client/KeyVersion"), (0, .methodref 8 11), (0, .nameAndType 5 12), (0, u "(J[B)V"), (0, .methodref 8 14), (0, .nameAndType 15 16), (0, u "isDeletion"), (0, u "()Z"), (0, .class_ 18), (0, u "com/example/ordinate/ordinate/client/KeyVersionIsDeletionPinLaw"), (2, u "law"), (0, u "(JII)Z")] 5

def k1m0 : Method := { name := "<init>", desc := "()V", sig := { parameters := [], returnType := none }, accessFlags := 1, code := none }
def k1c1 : Code := { maxStack := 5, maxLocals := 10, code := code, exceptionTable := #[], attributes := #[] }
def k1m1 : Method := { name := "law", desc := "(JII)Z", sig := { parameters := [.long, .int, .int], returnType := some .boolean }, accessFlags := 9, code := some k1c1 }
/-- com/example/ordinate/ordinate/client/KeyVersionIsDeletionPinLaw -/
def k1 : Class := { plain "com/example/ordinate/ordinate/client/KeyVersionIsDeletionPinLaw" (some 0) with
  accessFlags := 49
  interfaces := #[]
  cf := some (fileOf pool1 17 #[] #[{ accessFlags := 1, nameIndex := 5, descriptorIndex := 6, attributes := #[] }, { accessFlags := 9, nameIndex := 21, descriptorIndex := 22, attributes := #[] }] 49 2 #[] #[])
  fields := #[]
  methods := #[k1m0, k1m1]
  instanceTypes := #[]
  staticTypes := #[]
  resolved := Array.replicate 28 none
  statics := none }

def pool2 : Array CpInfo := pool [(1, .methodref 2 3), (0, .class_ 4), (0, .nameAndType 5 6), (0, u "java/lang/Object"), (0, u "<init>"), (0, u "()V"), (0, .class_ 8), (0, u "java/lang/Record")] 13

def k2c0 : Code := { maxStack := 1, maxLocals := 1, code := jdk_30_method_1_code, exceptionTable := #[], attributes := #[] }
def k2m0 : Method := { name := "<init>", desc := "()V", sig := { parameters := [], returnType := none }, accessFlags := 4, code := some k2c0 }
/-- java/lang/Record -/
def k2 : Class := { plain "java/lang/Record" (some 0) with
  accessFlags := 1057
  interfaces := #[]
  cf := some (fileOf pool2 7 #[] #[{ accessFlags := 4, nameIndex := 5, descriptorIndex := 6, attributes := #[] }] 1057 2 #[] #[])
  fields := #[]
  methods := #[k2m0]
  instanceTypes := #[]
  staticTypes := #[]
  resolved := Array.replicate 22 none
  statics := none }

def pool3 : Array CpInfo := pool [(1, .methodref 2 3), (0, .class_ 4), (0, .nameAndType 5 6), (0, u "java/lang/Record"), (0, u "<init>"), (0, u "()V"), (0, .fieldref 8 9), (0, .class_ 10), (0, .nameAndType 11 12), (0, u "com/example/ordinate/ordinate/client/KeyVersion"), (0, u "version"), (0, u "J"), (0, .fieldref 8 14), (0, .nameAndType 15 16), (0, u "value"), (0, u "[B"), (12, u "(J[B)V"), (3, u "isDeletion"), (0, u "()Z")] 27

def k3c0 : Code := { maxStack := 3, maxLocals := 4, code := prog_22_method_1_code, exceptionTable := #[], attributes := #[] }
def k3m0 : Method := { name := "<init>", desc := "(J[B)V", sig := { parameters := [.long, (.array .byte)], returnType := none }, accessFlags := 1, code := some k3c0 }
def k3c1 : Code := { maxStack := 1, maxLocals := 1, code := prog_22_method_2_code, exceptionTable := #[], attributes := #[] }
def k3m1 : Method := { name := "isDeletion", desc := "()Z", sig := { parameters := [], returnType := some .boolean }, accessFlags := 1, code := some k3c1 }
/-- com/example/ordinate/ordinate/client/KeyVersion -/
def k3 : Class := { plain "com/example/ordinate/ordinate/client/KeyVersion" (some 2) with
  accessFlags := 49
  interfaces := #[]
  cf := some (fileOf pool3 8 #[] #[{ accessFlags := 1, nameIndex := 5, descriptorIndex := 29, attributes := #[] }, { accessFlags := 1, nameIndex := 33, descriptorIndex := 34, attributes := #[] }] 49 2 #[] #[{ accessFlags := 18, nameIndex := 11, descriptorIndex := 12, attributes := #[] }, { accessFlags := 18, nameIndex := 15, descriptorIndex := 16, attributes := #[] }])
  fields := #[{ name := "version", type := .long, accessFlags := 18, slot := 0, constantValue := 0 }, { name := "value", type := (.array .byte), accessFlags := 18, slot := 1, constantValue := 0 }]
  methods := #[k3m0, k3m1]
  instanceTypes := #[.long, (.array .byte)]
  staticTypes := #[]
  resolved := Array.replicate 62 none
  statics := none }

def pool4 : Array CpInfo := pool [(1, u "java/lang/Cloneable"), (0, .class_ 1), (0, u "java/lang/Object"), (0, .class_ 3)] 3

/-- java/lang/Cloneable -/
def k4 : Class := { plain "java/lang/Cloneable" (some 0) with
  accessFlags := 1537
  interfaces := #[]
  cf := some (fileOf pool4 2 #[] #[] 1537 4 #[] #[])
  fields := #[]
  methods := #[]
  instanceTypes := #[]
  staticTypes := #[]
  resolved := Array.replicate 8 none
  statics := none }

def pool5 : Array CpInfo := pool [(1, u "java/io/Serializable"), (0, .class_ 1), (0, u "java/lang/Object"), (0, .class_ 3)] 3

/-- java/io/Serializable -/
def k5 : Class := { plain "java/io/Serializable" (some 0) with
  accessFlags := 1537
  interfaces := #[]
  cf := some (fileOf pool5 2 #[] #[] 1537 4 #[] #[])
  fields := #[]
  methods := #[]
  instanceTypes := #[]
  staticTypes := #[]
  resolved := Array.replicate 8 none
  statics := none }

/-- the primitive byte -/
def k6 : Class := { plain "byte" none with kind := .primitive 'B', accessFlags := 0x411 }
/-- [B -/
def k7 : Class := { plain "[B" (some 0) with kind := .array 6 .byte, interfaces := #[4, 5], accessFlags := 1041 }

/-- the primitive int -/
def k8 : Class := { plain "int" none with kind := .primitive 'I', accessFlags := 0x411 }
/-- [I -/
def k9 : Class := { plain "[I" (some 0) with kind := .array 8 .int, interfaces := #[4, 5], accessFlags := 1041 }

def heap : Heap := #[]
def classes : Array Class := #[k0, k1, k2, k3, k4, k5, k6, k7, k8, k9]
def interned : List (Array UInt16 × Addr) := []
def slotsUsed : Nat := 0
def theMethod : MethodId := ⟨1, 1⟩
def args0 : Array Value := #[.long 5, .int 7, .int 3]
def aboutOver (below : List Frame) : State where
  vm := { classes := classes, interned := interned.toArray }
  heap := heap
  slotsUsed := slotsUsed
  threads := #[{ frames := .invoking theMethod args0 :: below }]
def below0 : List Frame := [.native { method := ⟨0, 0⟩, args := #[] }]
def about1 : State := aboutOver below0
def p0 : Program := .bare "" "" ""
def e0 : Env := launch0.env 0 0 0
theorem w_frames : about1.frames = Frame.invoking theMethod args0 :: below0 := rfl
set_option maxRecDepth 65536 in
theorem w_args : argsFit about1.vm theMethod args0 = true := by decide +kernel
set_option maxRecDepth 65536 in
theorem w_heap : heapFits about1 = true := by decide +kernel
set_option maxRecDepth 65536 in
theorem w_runnable : about1.curStatus? = some .runnable := by decide +kernel
set_option maxRecDepth 65536 in
theorem w_alone : about1.alone = true := by decide +kernel
set_option maxRecDepth 65536 in
theorem w_named : about1.methodNamed? x = some theMethod := by decide +kernel
set_option maxRecDepth 65536 in
theorem w_hears : about1.hears theMethod below0 = true := by decide +kernel
set_option maxRecDepth 65536 in
theorem w_ripe : about1.ripe theMethod args0 below0 = true := by decide +kernel
theorem w_running : about1.status = .running := rfl
set_option maxRecDepth 65536 in
theorem w_room : about1.hasRoom e0.platform room_1 = true :=
  launch0.hasRoom_least _ room_1 (by decide +kernel) (by decide +kernel) (by decide +kernel) (by decide +kernel) (by decide +kernel) (by decide +kernel)
theorem allAtoms_all (ts : List Jvm.Cond) (a : Array Jvm.Value) (st : Jvm.State) : (allAtoms ts).before a st = ts.all (fun c => c.before a st) := by
  induction ts with
  | nil => rfl
  | cons c t ih =>
    show (Jvm.Cond.and c (allAtoms t)).before a st = _
    rw [Jvm.Cond.before_and, ih, List.all_cons]
def words1 : List Jvm.Cond := Jvm.Cond.code x code maxLocals ret :: tables_1
/-- a 'code' word, met by the world's own term for the bytes: nothing is compared byte by byte -/
theorem code_word {y : MethodName} {bytes : ByteArray} {mx : Nat} {rt : Option FieldType} {a : Array Value} {s : State} {m : MethodId} {meth : Method} {c : Code} (h1 : s.methodNamed? y = some m) (h2 : s.vm.method? m = some meth) (h3 : meth.code = some c) (h4 : c.code = bytes)
    (h5 : (c.maxLocals == mx && c.exceptionTable.isEmpty && decide (c.maxStack ≤ mostOperands) && decide (meth.sig.returnType = rt) && !meth.locks && decide (parseMethodDescriptor y.desc = some meth.sig)) = true) : (Jvm.Cond.code y bytes mx rt).before a s = true := by
  simp only [Bool.and_eq_true, beq_iff_eq, Bool.not_eq_true', decide_eq_true_eq] at h5
  obtain ⟨⟨⟨⟨⟨g1, g2⟩, g3⟩, g4⟩, g5⟩, g6⟩ := h5
  simp [Cond.before, Cond.holds, Cond.value, h1, h2, h3, h4, g1, g2, g3, g4, g5, g6]
def isCode : Jvm.Cond → Bool
  | .code _ _ _ _ => true
  | _ => false
theorem all_split {L : List Jvm.Cond} {P : Jvm.Cond → Bool} (h1 : L.all (fun c => isCode c || P c) = true) (h2 : ∀ c ∈ L.filter isCode, P c = true) : L.all P = true := by
  refine List.all_eq_true.mpr fun c hc => ?_
  have h := List.all_eq_true.mp h1 c hc
  rcases Bool.eq_false_or_eq_true (isCode c) with hi | hi
  · exact h2 c (List.mem_filter.mpr ⟨hc, hi⟩)
  · simpa [hi] using h
set_option maxRecDepth 65536 in
theorem w_c0 : (Jvm.Cond.code x code maxLocals ret).before args0 about1 = true := code_word (m := ⟨1, 1⟩) (meth := k1m1) (c := k1c1) (by decide +kernel) rfl rfl rfl (by decide +kernel)
set_option maxRecDepth 65536 in
theorem w_c1 : (Jvm.Cond.code ({ cls := "com/example/ordinate/ordinate/client/KeyVersion", name := "<init>", desc := "(J[B)V" } : Jvm.MethodName) prog_22_method_1_code (4 : Nat) (Option.none : Option Jvm.ClassFile.FieldType)).before args0 about1 = true := code_word (m := ⟨3, 0⟩) (meth := k3m0) (c := k3c0) (by decide +kernel) rfl rfl rfl (by decide +kernel)
set_option maxRecDepth 65536 in
theorem w_c2 : (Jvm.Cond.code ({ cls := "java/lang/Record", name := "<init>", desc := "()V" } : Jvm.MethodName) jdk_30_method_1_code (1 : Nat) (Option.none : Option Jvm.ClassFile.FieldType)).before args0 about1 = true := code_word (m := ⟨2, 0⟩) (meth := k2m0) (c := k2c0) (by decide +kernel) rfl rfl rfl (by decide +kernel)
set_option maxRecDepth 65536 in
theorem w_c3 : (Jvm.Cond.code ({ cls := "java/lang/Object", name := "<init>", desc := "()V" } : Jvm.MethodName) object_method_1_code (1 : Nat) (Option.none : Option Jvm.ClassFile.FieldType)).before args0 about1 = true := code_word (m := ⟨0, 0⟩) (meth := k0m0) (c := k0c0) (by decide +kernel) rfl rfl rfl (by decide +kernel)
set_option maxRecDepth 65536 in
theorem w_c4 : (Jvm.Cond.code ({ cls := "com/example/ordinate/ordinate/client/KeyVersion", name := "isDeletion", desc := "()Z" } : Jvm.MethodName) prog_22_method_2_code (1 : Nat) (Option.some Jvm.ClassFile.FieldType.boolean)).before args0 about1 = true := code_word (m := ⟨3, 1⟩) (meth := k3m1) (c := k3c1) (by decide +kernel) rfl rfl rfl (by decide +kernel)
def codes1 : List Jvm.Cond := [Jvm.Cond.code x code maxLocals ret, Jvm.Cond.code ({ cls := "com/example/ordinate/ordinate/client/KeyVersion", name := "<init>", desc := "(J[B)V" } : Jvm.MethodName) prog_22_method_1_code (4 : Nat) (Option.none : Option Jvm.ClassFile.FieldType), Jvm.Cond.code ({ cls := "java/lang/Record", name := "<init>", desc := "()V" } : Jvm.MethodName) jdk_30_method_1_code (1 : Nat) (Option.none : Option Jvm.ClassFile.FieldType), Jvm.Cond.code ({ cls := "java/lang/Object", name := "<init>", desc := "()V" } : Jvm.MethodName) object_method_1_code (1 : Nat) (Option.none : Option Jvm.ClassFile.FieldType), Jvm.Cond.code ({ cls := "com/example/ordinate/ordinate/client/KeyVersion", name := "isDeletion", desc := "()Z" } : Jvm.MethodName) prog_22_method_2_code (1 : Nat) (Option.some Jvm.ClassFile.FieldType.boolean)]
set_option maxRecDepth 65536 in
theorem codes_eq : words1.filter isCode = codes1 := rfl
theorem w_codes : ∀ c ∈ words1.filter isCode, c.before args0 about1 = true := by
  rw [codes_eq]
  intro c hc
  simp only [codes1, List.mem_cons, List.not_mem_nil, or_false] at hc
  rcases hc with rfl | rfl | rfl | rfl | rfl
  · exact w_c0
  · exact w_c1
  · exact w_c2
  · exact w_c3
  · exact w_c4
set_option maxRecDepth 65536 in
theorem w_t1 : (words1.take 24).all (fun c => isCode c || c.before args0 about1) = true := by decide +kernel
set_option maxRecDepth 65536 in
theorem w_t2 : (words1.drop 24).all (fun c => isCode c || c.before args0 about1) = true := by decide +kernel
theorem w_tables : (allAtoms (Jvm.Cond.code x code maxLocals ret :: tables_1)).before args0 about1 = true := by
  rw [allAtoms_all]
  show words1.all (fun c => c.before args0 about1) = true
  refine all_split ?_ w_codes
  rw [← List.take_append_drop 24 words1, List.all_append, w_t1, w_t2]
  rfl
set_option maxRecDepth 65536 in
theorem w_case : (Jvm.Cond.and given_1 narrow_1).before args0 about1 = true := by decide +kernel
theorem w_applies : (headSpec (Jvm.Cond.code x code maxLocals ret :: tables_1) room_1).applies x e0.platform about1 = true :=
  (Spec.applies_iff w_frames).mpr ⟨w_running, w_runnable, w_alone, w_named, w_hears, w_ripe, w_room, w_tables⟩
theorem atStart : AtStart classFile x code maxLocals ret World_1 tables_1 room_1 Calls_1 rest_1 Pre_1 launch0 p0 e0 about1 theMethod args0 below0 :=
  ⟨lists_1, trivial, launch0.admits_env _ _ _, launch0.least_env, fairChoices_fair.cas, fairChoices_fair.clock, w_frames, w_args, w_heap, w_applies, trivial, trivial, w_case⟩
end start1
theorem witness_1 : WitnessClaimed_1 := ⟨start1.p0, start1.e0, start1.about1, start1.theMethod, start1.args0, start1.below0, start1.atStart⟩
end Jvm.Pilot.@@N@@
