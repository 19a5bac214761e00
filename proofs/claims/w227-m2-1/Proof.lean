import JvmDerived
import JvmDerived.Pilot.@@N@@Statement
import JvmDerived.Pilot.@@N@@Code
set_option linter.unusedVariables false
set_option linter.unusedSimpArgs false
@@BLOCK:NumsL.lean.txt@@
namespace Jvm.Pilot.@@N@@
open Jvm Jvm.ClassFile Sem Op Lib Jvm.Free Jvm.Stand Jvm.LawKit Jvm.RoadKit Bundle Jvm.Pilot.@@N@@.Jvm.D
theorem own_w {Z : State} {a0 : Array Value} (hw : ∀ d ∈ tables_1, d.before a0 Z = true) (i : Nat) {d : Jvm.Cond} (h : tables_1[i]? = some d) : d.before a0 Z = true := hw _ (List.mem_of_getElem? h)
/-! own layer: a body's rest as one predicate (OFin), a contract (OMet), calls that give the plain facts back -/
def OFin (p : Program) (e : Env) (below : List Frame) (s : State) (kc ks : Nat) (Q : Option Value → Heap → List Loc → Prop) (S : State) : Prop :=
  ∃ s₂ o, Steps p.tables e below S s₂ ∧ s₂.status = .running ∧ Ended s₂ below o ∧ ∃ v L, o = .returned v ∧ Q v s₂.heap L ∧ FrameEnd s o s₂ L kc ks
def OMet (l : Launch) (Z : State) (y : MethodName) (bytes : ByteArray) (maxL : Nat) (ret : Option FieldType) (rm : Room) (as' : Array Value) (h0 : Heap) (Q : Option Value → Heap → List Loc → Prop) : Prop :=
  ∀ ws : List Jvm.Cond, MetFree l y (head1 (Jvm.Cond.code y bytes maxL ret :: ws) rm) (fun a U => a = as' ∧ Z.Warmed39 U.vm ∧ U.heap = h0) (fun _ _ _ _ _ => True) (fun _ U o U' => ∃ v L, o = .returned v ∧ Q v U'.heap L ∧ FrameEnd U o U' L rm.cells rm.slots)
def OCtx (Z : State) (p : Program) (s : State) (m : MethodId) (meth : Method) (c : Code) (cls nam : String) (bytes : ByteArray) (maxL : Nat) (ret : Option FieldType) : Prop :=
  p.tables.exec = Jvm.exec ∧ Z.Warmed39 s.vm ∧ c.code = bytes ∧ c.maxLocals = maxL ∧ s.vm.findClass cls = some m.cls ∧ meth.sig.returnType = ret ∧ meth.locks = false ∧ meth.name = nam
section OwnLayer
variable {p : Program} {l : Launch} {e : Env} {R : Room} {s : State} {m : MethodId} {args : Array Value} {below : List Frame} {meth : Method} {c : Code} {T : State} {locs : List Loc} {cells slots : Nat} {Z : State} {a0 : Array Value} {h : Heap}
variable {kc ks : Nat} {Q : Option Value → Heap → List Loc → Prop}
theorem own_st {A B : State} (hs : ∀ t, Steps p.tables e below B t → Steps p.tables e below A t) (k : OFin p e below s kc ks Q B) : OFin p e below s kc ks Q A := by
  obtain ⟨s₂, o, h1, r⟩ := k; exact ⟨s₂, o, hs _ h1, r⟩
theorem own_at {g g' : JFrame} (q : g = g') (k : OFin p e below s kc ks Q (T.setTop g')) : OFin p e below s kc ks Q (T.setTop g) := q ▸ k
theorem own_mono {Q' : Option Value → Heap → List Loc → Prop} {S : State} (k : OFin p e below s kc ks Q S) (q : ∀ v h L, Q v h L → Q' v h L) : OFin p e below s kc ks Q' S := by
  obtain ⟨s₂, o, h1, h2, h3, v, L, h4, h5, h6⟩ := k; exact ⟨s₂, o, h1, h2, h3, v, L, h4, q _ _ _ h5, h6⟩
theorem own_enter {y : MethodName} {bytes : ByteArray} {maxL : Nat} {ret : Option FieldType} {rm : Room} {as' : Array Value} {h0 : Heap} (hp : plainFor y = true)
    (hB : ∀ (p : Program) (e : Env) (s : State) (m : MethodId) (below : List Frame) (meth : Method) (c : Code) (T : State), Stand p l e rm s m as' below meth c T [] 0 0 → OCtx Z p s m meth c y.cls y.name bytes maxL ret → T.heap = h0 → OFin p e below s rm.cells rm.slots Q (T.setTop (entryFrame m as' maxL))) :
    OMet l Z y bytes maxL ret rm as' h0 Q := by
  intro ws
  refine MetFree.of_bodySF hp hisR ?_
  intro p e s m args below meth c s₁ Bd hml0 hP hK
  obtain ⟨rfl, hZ, hh⟩ := hP
  exact hB p e s m below meth c s₁ (Stand.of_body Bd) ⟨Bd.exec, hZ, Bd.bytes, hml0, findClass_of_methodNamed Bd.named, Bd.returns, BodyLoose.notSynchronized Bd, (name_of_methodNamed Bd.named Bd.method).1⟩ (by rw [← hh, Bd.state]; rfl)
theorem own_ret (X : Stand p l e R s m args below meth c T locs cells slots) (hx : p.tables.exec = Jvm.exec) {t : FieldType} (hret : meth.sig.returnType = some t) (hlk : meth.locks = false) {pc : Nat} {Ls : Array Slot} {w : Value} {i : Instr} {rest : List Value} (hn : narrow t w = w)
    (hi : (i = .ireturn ∧ (t = .int ∨ t = .boolean ∨ t = .byte ∨ t = .char ∨ t = .short) ∧ ∃ z, w = .int z) ∨ (i = .lreturn ∧ t = .long ∧ ∃ z, w = .long z) ∨ (i = .dreturn ∧ t = .double ∧ ∃ z, w = .double z) ∨ (i = .freturn ∧ t = .float ∧ ∃ z, w = .float z) ∨ (i = .areturn ∧ t.isReference = true ∧ w.isRef = true))
    (hd : decode c.code pc = .ok (i, 1)) (hc : cells ≤ kc) (hs : slots ≤ ks) (hq : Q (some w) T.heap locs) : OFin p e below s kc ks Q (T.setTop (mkF m pc Ls (w :: rest))) := by
  obtain ⟨fs, hr, hrun, hended, hW, hsame⟩ := X.leave (v := some w) (fun h => by rw [hret] at h; cases h) hlk
  exact ⟨_, _, retOut X hx hret hn hi hd hr, hrun, hended, _, _, rfl, hq, ⟨_, rfl⟩, hW, hsame.mono hc hs⟩
theorem own_retV (X : Stand p l e R s m args below meth c T locs cells slots) (hx : p.tables.exec = Jvm.exec) (hret : meth.sig.returnType = none) (hlk : meth.locks = false) {pc : Nat} {Ls : Array Slot}
    (hd : decode c.code pc = .ok (.return_, 1)) (hc : cells ≤ kc) (hs : slots ≤ ks) (hq : Q none T.heap locs) : OFin p e below s kc ks Q (T.setTop (mkF m pc Ls [])) := by
  obtain ⟨fs, hr, hrun, hended, hW, hsame⟩ := X.leave (v := none) (fun _ => rfl) hlk
  exact ⟨_, _, X.returnOut hx hret hd hr, hrun, hended, _, _, rfl, hq, ⟨_, rfl⟩, hW, hsame.mono hc hs⟩
theorem own_back {y : MethodName} {bytes : ByteArray} {maxL : Nat} {ret : Option FieldType} {rm : Room} {len W : Nat} {as' : Array Value} (hM : OMet l Z y bytes maxL ret rm as' h Q) (hZ : Z.Warmed39 s.vm) (wc : (Jvm.Cond.code y bytes maxL ret).before a0 Z = true) (wz : (Jvm.Cond.initialized y.cls).before a0 Z = true) (hf : rm.frames + 1 ≤ R.frames) (hl : W + (maxL + 11) + rm.locals ≤ R.locals) :
    Back l R p e below s args y len W (fun A a => a = as' ∧ A.U.heap = h ∧ A.cells + rm.cells ≤ R.cells ∧ A.slots + rm.slots ≤ R.slots)
      (fun A _ v B => ∃ L, Q v B.U.heap L ∧ B.locs = A.locs ++ L ∧ B.cells = A.cells + rm.cells ∧ B.slots = A.slots + rm.slots) := backOf (hM []) hZ wc wz hf hl
theorem own_static (X : Stand p l e R s m args below meth c T locs cells slots) (hx : p.tables.exec = Jvm.exec) (hZ : Z.Warmed39 s.vm) {own : String} {index : Nat} {y : MethodName} {bytes : ByteArray} {maxL : Nat} {ret : Option FieldType} {rm : Room} {W : Nat} {argsL rest : List Value}
    (hown : s.vm.findClass own = some m.cls) (w1 : (Jvm.Cond.methodLink own index y).before a0 Z = true) (w2 : (Jvm.Cond.static y).before a0 Z = true) (wz : (Jvm.Cond.initialized y.cls).before a0 Z = true) (wc : (Jvm.Cond.code y bytes maxL ret).before a0 Z = true)
    (hM : OMet l Z y bytes maxL ret rm argsL.toArray h Q) (eT : T.heap = h) {g : JFrame} (hg : g.method = m) (hsize : g.locals.size = c.maxLocals) (hlen : ∀ sig, parseMethodDescriptor y.desc = some sig → argsL.length = sig.parameters.length)
    (hstack : g.stack = argsL.reverse ++ rest) (hW : 2 * g.monitorRoom + (rest.map fun v => v.category).sum ≤ W) (hdg : decode c.code g.pc = .ok (.invokestatic index, 3))
    (hf : rm.frames + 1 ≤ R.frames) (hl : W + (maxL + 11) + rm.locals ≤ R.locals) (hc : cells + rm.cells ≤ R.cells) (hs : slots + rm.slots ≤ R.slots)
    (hy : y.cls ≠ "java/lang/invoke/MethodHandle" ∧ y.cls ≠ "java/lang/invoke/VarHandle" := by decide) :
    ∃ (v : Option Value) (T' : State) (L : List Loc), Stand p l e R s m args below meth c T' (locs ++ L) (cells + rm.cells) (slots + rm.slots) ∧ Q v T'.heap L ∧
      ∀ target, Steps p.tables e below (T'.setTop { g with pc := g.pc + 3, stack := v.toList ++ rest }) target → Steps p.tables e below (T.setTop g) target := by
  obtain ⟨v, vm₁, ⟨T', L', k', n'⟩, -, X', ⟨L, hQ, l1, y1, z1⟩, st⟩ := Jvm.LawKit.callS X hx hown (mvT hZ w1) (mvT hZ w2) (mvT hZ wz) (mvT hZ wc) hy (own_back (W := W) hM hZ wc wz hf hl) hg hsize hlen hstack hW hdg (fun _ _ => ⟨rfl, eT, hc, hs⟩)
  dsimp only [Pt.U, Pt.locs, Pt.cells, Pt.slots] at X' l1 y1 z1 st hQ
  subst l1 y1 z1
  exact ⟨v, T', L, X', hQ, st⟩
theorem own_init (X : Stand p l e R s m args below meth c T locs cells slots) (hx : p.tables.exec = Jvm.exec) (hZ : Z.Warmed39 s.vm) {own : String} {index : Nat} {y : MethodName} {bytes : ByteArray} {maxL : Nat} {rm : Room} {W : Nat} {a : Addr} {argsL rest : List Value} (hy1 : y.name = "<init>")
    (hown : s.vm.findClass own = some m.cls) (w1 : (Jvm.Cond.methodLink own index y).before a0 Z = true) (w2 : (Jvm.Cond.instanceMethod y).before a0 Z = true) (wz : (Jvm.Cond.initialized y.cls).before a0 Z = true) (wc : (Jvm.Cond.code y bytes maxL none).before a0 Z = true)
    (hM : OMet l Z y bytes maxL none rm (.ref a :: argsL).toArray h Q) (eT : T.heap = h) {g : JFrame} (hg : g.method = m) (hsize : g.locals.size = c.maxLocals) (hlen : ∀ sig, parseMethodDescriptor y.desc = some sig → argsL.length = sig.parameters.length)
    (hstack : g.stack = argsL.reverse ++ .ref a :: rest) (hW : 2 * g.monitorRoom + (rest.map fun v => v.category).sum ≤ W) (hdg : decode c.code g.pc = .ok (.invokespecial index, 3))
    (hf : rm.frames + 1 ≤ R.frames) (hl : W + (maxL + 11) + rm.locals ≤ R.locals) (hc : cells + rm.cells ≤ R.cells) (hs : slots + rm.slots ≤ R.slots)
    (hy : y.cls ≠ "java/lang/invoke/MethodHandle" ∧ y.cls ≠ "java/lang/invoke/VarHandle" := by decide) :
    ∃ (v : Option Value) (T' : State) (L : List Loc), Stand p l e R s m args below meth c T' (locs ++ L) (cells + rm.cells) (slots + rm.slots) ∧ Q v T'.heap L ∧
      ∀ target, Steps p.tables e below (T'.setTop { g with pc := g.pc + 3, stack := v.toList ++ rest }) target → Steps p.tables e below (T.setTop g) target := by
  obtain ⟨v, vm₁, ⟨T', L', k', n'⟩, -, X', ⟨L, hQ, l1, y1, z1⟩, st⟩ := X.specialBack hx hy1 hown (mvT hZ w1) (mvT hZ w2) (mvT hZ wc) hy (own_back (W := W) hM hZ wc wz hf hl) hg hsize (Steps.refl _) hlen hstack hW hdg (fun _ _ => ⟨rfl, eT, hc, hs⟩)
  dsimp only [Pt.U, Pt.locs, Pt.cells, Pt.slots] at X' l1 y1 z1 st hQ
  subst l1 y1 z1
  exact ⟨v, T', L, X', hQ, fun t k => st.trans k⟩
theorem own_virtual (X : Stand p l e R s m args below meth c T locs cells slots) (hx : p.tables.exec = Jvm.exec) (hZ : Z.Warmed39 s.vm) {own C : String} {index : Nat} {y z : MethodName} {bytes : ByteArray} {maxL : Nat} {ret : Option FieldType} {rm : Room} {W : Nat} {a : Addr} {argsL rest : List Value}
    (hown : s.vm.findClass own = some m.cls) (w1 : (Jvm.Cond.methodLink own index y).before a0 Z = true) (w2 : (Jvm.Cond.declares y).before a0 Z = true) (hnf : NotFace s y) (w3 : (Jvm.Cond.selects C y z).before a0 Z = true) (w4 : (Jvm.Cond.instanceMethod z).before a0 Z = true) (wz : (Jvm.Cond.initialized z.cls).before a0 Z = true) (wc : (Jvm.Cond.code z bytes maxL ret).before a0 Z = true)
    (hM : OMet l Z z bytes maxL ret rm (.ref a :: argsL).toArray h Q) (eT : T.heap = h) (E : Exa Z h a C) {g : JFrame} (hg : g.method = m) (hsize : g.locals.size = c.maxLocals) (hlen : ∀ sig, parseMethodDescriptor y.desc = some sig → argsL.length = sig.parameters.length)
    (hstack : g.stack = argsL.reverse ++ .ref a :: rest) (hW : 2 * g.monitorRoom + (rest.map fun v => v.category).sum ≤ W) (hdg : decode c.code g.pc = .ok (.invokevirtual index, 3))
    (hf : rm.frames + 1 ≤ R.frames) (hl : W + (maxL + 11) + rm.locals ≤ R.locals) (hc : cells + rm.cells ≤ R.cells) (hs : slots + rm.slots ≤ R.slots)
    (hy : y.cls ≠ "java/lang/invoke/MethodHandle" ∧ y.cls ≠ "java/lang/invoke/VarHandle" := by decide) :
    ∃ (v : Option Value) (T' : State) (L : List Loc), Stand p l e R s m args below meth c T' (locs ++ L) (cells + rm.cells) (slots + rm.slots) ∧ Q v T'.heap L ∧
      ∀ target, Steps p.tables e below (T'.setTop { g with pc := g.pc + 3, stack := v.toList ++ rest }) target → Steps p.tables e below (T.setTop g) target := by
  obtain ⟨cq, kq, qa, qb, qc⟩ := isOf hZ eT E
  obtain ⟨v, vm₁, ⟨T', L', k', n'⟩, -, X', ⟨L, hQ, l1, y1, z1⟩, st⟩ := X.virtualBack hx hown (mvT hZ w1) (mvT hZ w2) hnf (mvT hZ w3) (mvT hZ w4) hy (own_back (W := W) hM hZ wc wz hf hl) qa qc hg hsize (Steps.refl _) hlen hstack hW hdg (fun _ _ => ⟨rfl, eT, hc, hs⟩)
  dsimp only [Pt.U, Pt.locs, Pt.cells, Pt.slots] at X' l1 y1 z1 st hQ
  subst l1 y1 z1
  exact ⟨v, T', L, X', hQ, fun t k => st.trans k⟩
end OwnLayer
theorem own_pn1 : plainFor (⟨"java/lang/Math", "max", "(JJ)J"⟩ : MethodName) = true := Jvm.Free.JP.mathPlain rfl (by decide +kernel)
theorem own_ef1_JJ (m : MethodId) (x0 : Int64) (x1 : Int64) : entryFrame m #[(.long x0), (.long x1)] 4 = mkF m 0 #[.val (.long x0), .second, .val (.long x1), .second] [] := by first | (simp [entryFrame, mkF, argsToLocals, Value.category]; done) | rfl
theorem own_d1_0 : decode jdk_29_method_66_code 0 = .ok (.lload_n 0, 1) := by decide +kernel
theorem own_d1_1 : decode jdk_29_method_66_code 1 = .ok (.lload_n 2, 1) := by decide +kernel
theorem own_d1_2 : decode jdk_29_method_66_code 2 = .ok (.lcmp, 1) := by decide +kernel
theorem own_d1_3 : decode jdk_29_method_66_code 3 = .ok (.ifCond .lt 7, 3) := by decide +kernel
theorem own_d1_10 : decode jdk_29_method_66_code 10 = .ok (.lload_n 2, 1) := by decide +kernel
theorem own_d1_11 : decode jdk_29_method_66_code 11 = .ok (.lreturn, 1) := by decide +kernel
theorem own_d1_6 : decode jdk_29_method_66_code 6 = .ok (.lload_n 0, 1) := by decide +kernel
theorem own_d1_7 : decode jdk_29_method_66_code 7 = .ok (.goto 4, 3) := by decide +kernel
theorem own_pn2 : plainFor (⟨"com/example/epicycle/epicycle/TickScale", "<init>", "(JJ)V"⟩ : MethodName) = true := plainFor_of_name (by first | (simp [plainName, overriddenIn]; done) | decide +kernel)
theorem own_ef2_RJJ (m : MethodId) (x0 : Addr) (x1 : Int64) (x2 : Int64) : entryFrame m #[(.ref x0), (.long x1), (.long x2)] 5 = mkF m 0 #[.val (.ref x0), .val (.long x1), .second, .val (.long x2), .second] [] := by first | (simp [entryFrame, mkF, argsToLocals, Value.category]; done) | rfl
theorem own_d2_0 : decode prog_9_method_1_code 0 = .ok (.aload_n 0, 1) := by decide +kernel
theorem own_d2_1 : decode prog_9_method_1_code 1 = .ok (.invokespecial 1, 3) := by decide +kernel
theorem own_d2_4 : decode prog_9_method_1_code 4 = .ok (.lload_n 3, 1) := by decide +kernel
theorem own_d2_5 : decode prog_9_method_1_code 5 = .ok (.lconst 0, 1) := by decide +kernel
theorem own_d2_6 : decode prog_9_method_1_code 6 = .ok (.lcmp, 1) := by decide +kernel
theorem own_d2_7 : decode prog_9_method_1_code 7 = .ok (.ifCond .gt 17, 3) := by decide +kernel
theorem own_d2_24 : decode prog_9_method_1_code 24 = .ok (.aload_n 0, 1) := by decide +kernel
theorem own_d2_25 : decode prog_9_method_1_code 25 = .ok (.lload_n 1, 1) := by decide +kernel
theorem own_d2_26 : decode prog_9_method_1_code 26 = .ok (.putfield 16, 3) := by decide +kernel
theorem own_d2_29 : decode prog_9_method_1_code 29 = .ok (.aload_n 0, 1) := by decide +kernel
theorem own_d2_30 : decode prog_9_method_1_code 30 = .ok (.lload_n 3, 1) := by decide +kernel
theorem own_d2_31 : decode prog_9_method_1_code 31 = .ok (.putfield 22, 3) := by decide +kernel
theorem own_d2_34 : decode prog_9_method_1_code 34 = .ok (.return_, 1) := by decide +kernel
theorem own_pn4 : plainFor (⟨"com/example/epicycle/epicycle/TickScale", "tickAtOrAfter", "(J)J"⟩ : MethodName) = true := plainFor_of_name (by first | (simp [plainName, overriddenIn]; done) | decide +kernel)
theorem own_ef4_RJ (m : MethodId) (x0 : Addr) (x1 : Int64) : entryFrame m #[(.ref x0), (.long x1)] 7 = mkF m 0 #[.val (.ref x0), .val (.long x1), .second, .unset, .unset, .unset, .unset] [] := by first | (simp [entryFrame, mkF, argsToLocals, Value.category]; done) | rfl
theorem own_d4_0 : decode prog_9_method_3_code 0 = .ok (.lload_n 1, 1) := by decide +kernel
theorem own_d4_1 : decode prog_9_method_3_code 1 = .ok (.aload_n 0, 1) := by decide +kernel
theorem own_d4_2 : decode prog_9_method_3_code 2 = .ok (.getfield 16, 3) := by decide +kernel
theorem own_d4_5 : decode prog_9_method_3_code 5 = .ok (.lsub, 1) := by decide +kernel
theorem own_d4_6 : decode prog_9_method_3_code 6 = .ok (.lstore_n 3, 1) := by decide +kernel
theorem own_d4_7 : decode prog_9_method_3_code 7 = .ok (.lload_n 3, 1) := by decide +kernel
theorem own_d4_8 : decode prog_9_method_3_code 8 = .ok (.aload_n 0, 1) := by decide +kernel
theorem own_d4_9 : decode prog_9_method_3_code 9 = .ok (.getfield 22, 3) := by decide +kernel
theorem own_d4_12 : decode prog_9_method_3_code 12 = .ok (.ldiv, 1) := by decide +kernel
theorem own_d4_13 : decode prog_9_method_3_code 13 = .ok (.lstore 5, 2) := by decide +kernel
theorem own_d4_15 : decode prog_9_method_3_code 15 = .ok (.lload_n 3, 1) := by decide +kernel
theorem own_d4_16 : decode prog_9_method_3_code 16 = .ok (.aload_n 0, 1) := by decide +kernel
theorem own_d4_17 : decode prog_9_method_3_code 17 = .ok (.getfield 22, 3) := by decide +kernel
theorem own_d4_20 : decode prog_9_method_3_code 20 = .ok (.lrem, 1) := by decide +kernel
theorem own_d4_21 : decode prog_9_method_3_code 21 = .ok (.lconst 0, 1) := by decide +kernel
theorem own_d4_22 : decode prog_9_method_3_code 22 = .ok (.lcmp, 1) := by decide +kernel
theorem own_d4_23 : decode prog_9_method_3_code 23 = .ok (.ifCond .le 9, 3) := by decide +kernel
theorem own_d4_26 : decode prog_9_method_3_code 26 = .ok (.lload 5, 2) := by decide +kernel
theorem own_d4_28 : decode prog_9_method_3_code 28 = .ok (.lconst 1, 1) := by decide +kernel
theorem own_d4_29 : decode prog_9_method_3_code 29 = .ok (.ladd, 1) := by decide +kernel
theorem own_d4_30 : decode prog_9_method_3_code 30 = .ok (.lstore 5, 2) := by decide +kernel
theorem own_d4_32 : decode prog_9_method_3_code 32 = .ok (.lload 5, 2) := by decide +kernel
theorem own_d4_34 : decode prog_9_method_3_code 34 = .ok (.lreturn, 1) := by decide +kernel
theorem own_pd0 : parseMethodDescriptor "(JJ)V" = some ⟨[.long, .long], none⟩ := by decide +kernel
theorem own_pd1 : parseMethodDescriptor "(J)J" = some ⟨[.long], some .long⟩ := by decide +kernel
theorem own_pn0 : plainFor (⟨"com/example/epicycle/epicycle/TickScaleTickAtOrAfterPinLaw", "law", "(JJJI)Z"⟩ : MethodName) = true := plainFor_of_name (by first | (simp [plainName, overriddenIn]; done) | decide +kernel)
theorem own_ef0_JJJI (m : MethodId) (x0 : Int64) (x1 : Int64) (x2 : Int64) (x3 : Int32) : entryFrame m #[(.long x0), (.long x1), (.long x2), (.int x3)] maxLocals = mkF m 0 #[.val (.long x0), .second, .val (.long x1), .second, .val (.long x2), .second, .val (.int x3), .unset, .unset, .unset, .unset, .unset, .unset, .unset, .unset, .unset, .unset, .unset, .unset, .unset, .unset] [] := by first | (simp [entryFrame, mkF, argsToLocals, Value.category, maxLocals]; done) | rfl
theorem own_pd2 : parseMethodDescriptor "(JJ)J" = some ⟨[.long, .long], some .long⟩ := by decide +kernel
def own_max (a b : Int64) : Int64 := if lcmpW a b < 0 then b else a
def own_tick (s t : Int64) : Int64 := if 0 < lcmpW (s - (s / t) * t) 0 then s / t + 1 else s / t
theorem own_max_pos (x : Int64) : 0 < (own_max 1 x).toInt := by
  unfold own_max
  by_cases h : lcmpW 1 x < 0
  · rw [if_pos h]; rw [lcW, lc_lt, Int64.lt_iff_toInt_lt] at h
    have : (1 : Int64).toInt = 1 := rfl
    omega
  · rw [if_neg h]; decide
theorem own_m4 (x : Int64) : 0 < ((x &&& 15) + 1).toInt := by
  have e : (x &&& 15).toInt = x.toInt % 2 ^ 4 := Jvm.Kit.i64_mask x 15 (k := 4) (by decide) (by decide)
  have e2 : ((x &&& 15) + 1).toInt = (x &&& 15).toInt + 1 := Jvm.Kit.i64_add (by show _ ≤ _ + 1; omega) (by show _ + 1 < _; omega)
  omega
theorem own_lc0 (x y : Int64) (h : x = y) : lcmpW x y = 0 := by rw [lcW, lc_eq]; exact h
theorem own_lc1 (x y : Int64) (h : ¬ x = y) : ¬ lcmpW x y = 0 := by rw [lcW, lc_eq]; exact h
theorem own_law {s t : Int64} (ht : 0 < t.toInt) : (own_tick s t = s / t ∨ (¬ own_tick s t = s / t ∧ own_tick s t = s / t + 1)) ∧ ¬ lcmpW (own_tick s t * t - s) 0 < 0 ∧ lcmpW (own_tick s t * t - s) t < 0 := by
  have hs1 := s.toInt_lt; have hs2 := s.le_toInt; have ht1 := t.toInt_lt
  have hq : (s / t).toInt = s.toInt.tdiv t.toInt := Jvm.Kit.i64_div (by omega)
  have hr : (s - (s / t) * t).toInt = s.toInt.tmod t.toInt := Jvm.Kit.i64_rem s t
  have hdm : t.toInt * s.toInt.tdiv t.toInt + s.toInt.tmod t.toInt = s.toInt := Int.mul_tdiv_add_tmod _ _
  have key : ∀ k : Int64, (∃ K : Int, (k.toInt = K) ∧ 0 ≤ K * t.toInt - s.toInt ∧ K * t.toInt - s.toInt < t.toInt) → ¬ lcmpW (k * t - s) 0 < 0 ∧ lcmpW (k * t - s) t < 0 := by
    rintro k ⟨K, rfl, h1, h2⟩
    have e : (k * t - s).toInt = k.toInt * t.toInt - s.toInt := by
      rw [Int64.toInt_sub, Int64.toInt_mul]
      rw [Int.bmod_sub_bmod]
      exact Jvm.Kit.bmod64 (by omega) (by omega)
    rw [lcW, lcW, lc_lt, lc_lt, Int64.lt_iff_toInt_lt, Int64.lt_iff_toInt_lt, e]
    exact ⟨by show ¬ _ < 0; omega, h2⟩
  by_cases h : 0 < lcmpW (s - (s / t) * t) 0
  · have hk : own_tick s t = s / t + 1 := if_pos h
    rw [lcW, lc_gt, Int64.lt_iff_toInt_lt, hr] at h
    have h0 : 0 < s.toInt.tmod t.toInt := h
    have hsp : 0 < s.toInt := by
      by_cases q : 0 < s.toInt
      · exact q
      · exact absurd h0 (by have := Int.tmod_nonneg (a := -s.toInt) t.toInt (by omega); rw [Int.neg_tmod] at this; omega)
    have hlt : s.toInt.tmod t.toInt < t.toInt := Int.tmod_lt_of_pos _ ht
    have hqn : 0 ≤ s.toInt.tdiv t.toInt := Int.tdiv_nonneg (by omega) (by omega)
    have hql : s.toInt.tdiv t.toInt ≤ t.toInt * s.toInt.tdiv t.toInt := by
      have := Int.mul_le_mul_of_nonneg_right (show (1 : Int) ≤ t.toInt by omega) hqn
      omega
    have hk1 : (s / t + 1).toInt = s.toInt.tdiv t.toInt + 1 := by rw [← hq]; exact Jvm.Kit.i64_add (by show _ ≤ _ + 1; omega) (by show _ + 1 < _; omega)
    have hm : (s.toInt.tdiv t.toInt + 1) * t.toInt = t.toInt * s.toInt.tdiv t.toInt + t.toInt := by rw [Int.add_mul, Int.one_mul, Int.mul_comm]
    rw [hk]
    refine ⟨Or.inr ⟨fun q => ?_, rfl⟩, key _ ⟨_, hk1, by omega, by omega⟩⟩
    have q2 := congrArg Int64.toInt q
    omega
  · have hk : own_tick s t = s / t := if_neg h
    rw [lcW, lc_gt, Int64.lt_iff_toInt_lt, hr] at h
    have h0 : ¬ 0 < s.toInt.tmod t.toInt := h
    have hlt : -t.toInt < s.toInt.tmod t.toInt := by
      have := Int.lt_tmod_of_pos s.toInt ht; omega
    have hm : s.toInt.tdiv t.toInt * t.toInt = t.toInt * s.toInt.tdiv t.toInt := Int.mul_comm _ _
    rw [hk]
    exact ⟨Or.inl rfl, key _ ⟨_, hq, by omega, by omega⟩⟩
theorem own_nz {t : Int64} (ht : 0 < t.toInt) : t ≠ 0 := fun q => by subst q; exact absurd ht (by decide)
theorem own_gt {t : Int64} (ht : 0 < t.toInt) : 0 < lcmpW t 0 := by rw [lcW, lc_gt, Int64.lt_iff_toInt_lt]; exact ht
set_option maxRecDepth 65536 in
set_option maxHeartbeats 40000000 in
theorem rmM (l : Launch) (Z : State) (a0 : Array Value) (hw : ∀ d ∈ tables_1, d.before a0 Z = true) (q1 : Int64) (q2 : Int64) (h0 : Heap)  :
    OMet l Z (⟨"java/lang/Math", "max", "(JJ)J"⟩ : MethodName) jdk_29_method_66_code 4 (some .long) (⟨0, 0, 0, 0⟩ : Room) #[(.long q1), (.long q2)] h0 (fun v h L => v = some (.long (own_max q1 q2)) ∧ h = h0 ∧ L = []) := by
  refine own_enter own_pn1 ?_
  intro p e s m below meth c T0 X0 hC e0
  obtain ⟨hx, hZ, hby, hml, hown, hret, hlk, hnm⟩ := hC
  have hown : s.vm.findClass "java/lang/Math" = some m.cls := hown
  refine own_at (own_ef1_JJ m q1 q2) ?_
  show OFin p e below s _ _ _ (T0.setTop (mkF m 0 #[.val (.long q1), .second, .val (.long q2), .second] []))
  refine own_st (fun _ kS => XS.lloadN X0.here hx rfl (hb hby own_d1_0) rfl kS) ?_
  show OFin p e below s _ _ _ (T0.setTop (mkF m 1 #[.val (.long q1), .second, .val (.long q2), .second] [(.long q1)]))
  refine own_st (fun _ kS => XS.lloadN X0.here hx rfl (hb hby own_d1_1) rfl kS) ?_
  show OFin p e below s _ _ _ (T0.setTop (mkF m 2 #[.val (.long q1), .second, .val (.long q2), .second] [(.long q2), (.long q1)]))
  refine own_st (fun _ kS => XS.lcmp X0.here hx rfl (hb hby own_d1_2) rfl kS) ?_
  show OFin p e below s _ _ _ (T0.setTop (mkF m 3 #[.val (.long q1), .second, .val (.long q2), .second] [(.int (lcmpW q1 q2))]))
  by_cases c1 : (lcmpW q1 q2) < (0 : Int32)
  · refine own_st (fun _ kS => XS.ifYes X0.here hx rfl (pc0 := 3) (pc' := 10) rfl (hb hby own_d1_3) rfl ((if0 _ _).trans (tlt c1).1) (by decide) (by decide) kS) ?_
    show OFin p e below s _ _ _ (T0.setTop (mkF m 10 #[.val (.long q1), .second, .val (.long q2), .second] []))
    refine own_st (fun _ kS => XS.lloadN X0.here hx rfl (hb hby own_d1_10) rfl kS) ?_
    show OFin p e below s _ _ _ (T0.setTop (mkF m 11 #[.val (.long q1), .second, .val (.long q2), .second] [(.long q2)]))
    exact own_ret X0 hx (t := .long) hret hlk rfl (Or.inr (Or.inl ⟨rfl, rfl, _, rfl⟩)) (hb hby own_d1_11) (by decide) (by decide) ⟨by simp only [own_max, c1, if_true, if_false], e0, rfl⟩
  · refine own_st (fun _ kS => XS.ifNo X0.here hx rfl (hb hby own_d1_3) rfl ((if0 _ _).trans (flt c1).1) kS) ?_
    show OFin p e below s _ _ _ (T0.setTop (mkF m 6 #[.val (.long q1), .second, .val (.long q2), .second] []))
    refine own_st (fun _ kS => XS.lloadN X0.here hx rfl (hb hby own_d1_6) rfl kS) ?_
    show OFin p e below s _ _ _ (T0.setTop (mkF m 7 #[.val (.long q1), .second, .val (.long q2), .second] [(.long q1)]))
    refine own_st (fun _ kS => XS.goto X0.here hx rfl (pc0 := 7) (pc' := 11) rfl (hb hby own_d1_7) (by decide) (by decide) kS) ?_
    show OFin p e below s _ _ _ (T0.setTop (mkF m 11 #[.val (.long q1), .second, .val (.long q2), .second] [(.long q1)]))
    exact own_ret X0 hx (t := .long) hret hlk rfl (Or.inr (Or.inl ⟨rfl, rfl, _, rfl⟩)) (hb hby own_d1_11) (by decide) (by decide) ⟨by simp only [own_max, c1, if_true, if_false], e0, rfl⟩
set_option maxRecDepth 65536 in
set_option maxHeartbeats 40000000 in
theorem rmI (l : Launch) (Z : State) (a0 : Array Value) (hw : ∀ d ∈ tables_1, d.before a0 Z = true) (a1 : Addr) (q2 : Int64) (q3 : Int64) (h0 : Heap) (n0 : Nat) (E_a : Exa Z h0 a1 "com/example/epicycle/epicycle/TickScale") (F_o : Fld Z h0 a1 "com/example/epicycle/epicycle/TickScale" "originNanos" "J" (.long (0 : Int64))) (F_t : Fld Z h0 a1 "com/example/epicycle/epicycle/TickScale" "tickNanos" "J" (.long (0 : Int64))) (g_a : n0 ≤ a1) (ht : 0 < q3.toInt) :
    OMet l Z (⟨"com/example/epicycle/epicycle/TickScale", "<init>", "(JJ)V"⟩ : MethodName) prog_9_method_1_code 5 none (⟨1, 0, 0, 12⟩ : Room) #[(.ref a1), (.long q2), (.long q3)] h0 (fun v h L => v = none ∧ Fr n0 L ∧ Exa Z h a1 "com/example/epicycle/epicycle/TickScale" ∧ Fld Z h a1 "com/example/epicycle/epicycle/TickScale" "originNanos" "J" (.long q2) ∧ Fld Z h a1 "com/example/epicycle/epicycle/TickScale" "tickNanos" "J" (.long q3)) := by
  refine own_enter own_pn2 ?_
  intro p e s m below meth c T0 X0 hC e0
  obtain ⟨hx, hZ, hby, hml, hown, hret, hlk, hnm⟩ := hC
  have hown : s.vm.findClass "com/example/epicycle/epicycle/TickScale" = some m.cls := hown
  refine own_at (own_ef2_RJJ m a1 q2 q3) ?_
  show OFin p e below s _ _ _ (T0.setTop (mkF m 0 #[.val (.ref a1), .val (.long q2), .second, .val (.long q3), .second] []))
  have N0 := Fr.nil n0
  refine own_st (fun _ kS => XS.aloadN X0.here hx rfl (hb hby own_d2_0) rfl rfl kS) ?_
  show OFin p e below s _ _ _ (T0.setTop (mkF m 1 #[.val (.ref a1), .val (.long q2), .second, .val (.long q3), .second] [(.ref a1)]))
  obtain ⟨T1, X1, e1, st1⟩ := initO X0 hx hZ hown (own_w hw 11 rfl) (own_w hw 12 rfl) (own_w hw 13 rfl) e0 (g := (mkF m 1 #[.val (.ref a1), .val (.long q2), .second, .val (.long q3), .second] [(.ref a1)])) rfl (by rw [hml]; rfl) rfl (hb hby own_d2_1) (by decide) (W := 0) (by show 2 * 0 + _ ≤ _; exact Nat.le_of_eq rfl) (by decide)
  refine own_st (st1) ?_
  show OFin p e below s _ _ _ (T1.setTop (mkF m 4 #[.val (.ref a1), .val (.long q2), .second, .val (.long q3), .second] []))
  refine own_st (fun _ kS => XS.lloadN X1.here hx rfl (hb hby own_d2_4) rfl kS) ?_
  show OFin p e below s _ _ _ (T1.setTop (mkF m 5 #[.val (.ref a1), .val (.long q2), .second, .val (.long q3), .second] [(.long q3)]))
  refine own_st (fun _ kS => XS.lconst X1.here hx rfl (hb hby own_d2_5) kS) ?_
  show OFin p e below s _ _ _ (T1.setTop (mkF m 6 #[.val (.ref a1), .val (.long q2), .second, .val (.long q3), .second] [(.long (0 : Int64)), (.long q3)]))
  refine own_st (fun _ kS => XS.lcmp X1.here hx rfl (hb hby own_d2_6) rfl kS) ?_
  show OFin p e below s _ _ _ (T1.setTop (mkF m 7 #[.val (.ref a1), .val (.long q2), .second, .val (.long q3), .second] [(.int (lcmpW q3 (0 : Int64)))]))
  refine own_st (fun _ kS => XS.ifYes X1.here hx rfl (pc0 := 7) (pc' := 24) rfl (hb hby own_d2_7) rfl ((if0 _ _).trans (tlt (own_gt ht)).2.2.1) (by decide) (by decide) kS) ?_
  show OFin p e below s _ _ _ (T1.setTop (mkF m 24 #[.val (.ref a1), .val (.long q2), .second, .val (.long q3), .second] []))
  refine own_st (fun _ kS => XS.aloadN X1.here hx rfl (hb hby own_d2_24) rfl rfl kS) ?_
  show OFin p e below s _ _ _ (T1.setTop (mkF m 25 #[.val (.ref a1), .val (.long q2), .second, .val (.long q3), .second] [(.ref a1)]))
  refine own_st (fun _ kS => XS.lloadN X1.here hx rfl (hb hby own_d2_25) rfl kS) ?_
  show OFin p e below s _ _ _ (T1.setTop (mkF m 26 #[.val (.ref a1), .val (.long q2), .second, .val (.long q3), .second] [(.long q2), (.ref a1)]))
  obtain ⟨T2, h2, X2, e2, W2, st2⟩ := putF X1 hx hZ hown (host := "") (Or.inl (own_w hw 14 rfl)) Via.refl e1 F_o E_a (Or.inr ⟨(own_w hw 15 rfl), rfl, hnm⟩) (own_w hw 6 rfl) (ty := .long) (by decide) rfl rfl (g := (mkF m 26 #[.val (.ref a1), .val (.long q2), .second, .val (.long q3), .second] [(.long q2), (.ref a1)])) rfl rfl (hb hby own_d2_26)
  have f3 := F_o.same W2
  have f4 := E_a.wr W2
  have f6 := F_t.other W2 (Or.inr (slot_ne (Or.inr (own_w hw 17 rfl)) (Or.inr (own_w hw 15 rfl)) (by decide) (t := .long) (t' := .long) (by decide) (by decide)))
  have fr2 := Fr.snoc X2 N0 g_a
  refine own_st (st2) ?_
  show OFin p e below s _ _ _ (T2.setTop (mkF m 29 #[.val (.ref a1), .val (.long q2), .second, .val (.long q3), .second] []))
  refine own_st (fun _ kS => XS.aloadN X2.here hx rfl (hb hby own_d2_29) rfl rfl kS) ?_
  show OFin p e below s _ _ _ (T2.setTop (mkF m 30 #[.val (.ref a1), .val (.long q2), .second, .val (.long q3), .second] [(.ref a1)]))
  refine own_st (fun _ kS => XS.lloadN X2.here hx rfl (hb hby own_d2_30) rfl kS) ?_
  show OFin p e below s _ _ _ (T2.setTop (mkF m 31 #[.val (.ref a1), .val (.long q2), .second, .val (.long q3), .second] [(.long q3), (.ref a1)]))
  obtain ⟨T7, h7, X7, e7, W7, st7⟩ := putF X2 hx hZ hown (host := "") (Or.inl (own_w hw 16 rfl)) Via.refl e2 f6 f4 (Or.inr ⟨(own_w hw 17 rfl), rfl, hnm⟩) (own_w hw 6 rfl) (ty := .long) (by decide) rfl rfl (g := (mkF m 31 #[.val (.ref a1), .val (.long q2), .second, .val (.long q3), .second] [(.long q3), (.ref a1)])) rfl rfl (hb hby own_d2_31)
  have f8 := f6.same W7
  have f9 := f4.wr W7
  have f10 := f3.other W7 (Or.inr (slot_ne (Or.inr (own_w hw 15 rfl)) (Or.inr (own_w hw 17 rfl)) (by decide) (t := .long) (t' := .long) (by decide) (by decide)))
  have fr7 := Fr.snoc X7 fr2 g_a
  refine own_st (st7) ?_
  show OFin p e below s _ _ _ (T7.setTop (mkF m 34 #[.val (.ref a1), .val (.long q2), .second, .val (.long q3), .second] []))
  exact own_retV X7 hx hret hlk (hb hby own_d2_34) (by decide) (by decide) (by show _ ∧ _ ∧ Exa Z T7.heap _ _ ∧ _; rw [e7]; exact ⟨rfl, fr7, f9, f10, f8⟩)
set_option maxRecDepth 65536 in
set_option maxHeartbeats 40000000 in
theorem rmT (l : Launch) (Z : State) (a0 : Array Value) (hw : ∀ d ∈ tables_1, d.before a0 Z = true) (a1 : Addr) (q2 : Int64) (h0 : Heap) (o t : Int64) (F_o : Fld Z h0 a1 "com/example/epicycle/epicycle/TickScale" "originNanos" "J" (.long o)) (F_t : Fld Z h0 a1 "com/example/epicycle/epicycle/TickScale" "tickNanos" "J" (.long t)) (ht : 0 < t.toInt) :
    OMet l Z (⟨"com/example/epicycle/epicycle/TickScale", "tickAtOrAfter", "(J)J"⟩ : MethodName) prog_9_method_3_code 7 (some .long) (⟨0, 0, 0, 0⟩ : Room) #[(.ref a1), (.long q2)] h0 (fun v h L => v = some (.long (own_tick (q2 - o) t)) ∧ h = h0 ∧ L = []) := by
  refine own_enter own_pn4 ?_
  intro p e s m below meth c T0 X0 hC e0
  obtain ⟨hx, hZ, hby, hml, hown, hret, hlk, hnm⟩ := hC
  have hown : s.vm.findClass "com/example/epicycle/epicycle/TickScale" = some m.cls := hown
  refine own_at (own_ef4_RJ m a1 q2) ?_
  show OFin p e below s _ _ _ (T0.setTop (mkF m 0 #[.val (.ref a1), .val (.long q2), .second, .unset, .unset, .unset, .unset] []))
  refine own_st (fun _ kS => XS.lloadN X0.here hx rfl (hb hby own_d4_0) rfl kS) ?_
  show OFin p e below s _ _ _ (T0.setTop (mkF m 1 #[.val (.ref a1), .val (.long q2), .second, .unset, .unset, .unset, .unset] [(.long q2)]))
  refine own_st (fun _ kS => XS.aloadN X0.here hx rfl (hb hby own_d4_1) rfl rfl kS) ?_
  show OFin p e below s _ _ _ (T0.setTop (mkF m 2 #[.val (.ref a1), .val (.long q2), .second, .unset, .unset, .unset, .unset] [(.ref a1), (.long q2)]))
  obtain ⟨T12, X12, e12, st12⟩ := getF X0 hx hZ hown (host := "") (Or.inl (own_w hw 14 rfl)) Via.refl e0 F_o (g := (mkF m 2 #[.val (.ref a1), .val (.long q2), .second, .unset, .unset, .unset, .unset] [(.ref a1), (.long q2)])) rfl rfl (hb hby own_d4_2)
  refine own_st (st12) ?_
  show OFin p e below s _ _ _ (T12.setTop (mkF m 5 #[.val (.ref a1), .val (.long q2), .second, .unset, .unset, .unset, .unset] [(.long o), (.long q2)]))
  refine own_st (fun _ kS => XS.lsub X12.here hx rfl (hb hby own_d4_5) rfl kS) ?_
  show OFin p e below s _ _ _ (T12.setTop (mkF m 6 #[.val (.ref a1), .val (.long q2), .second, .unset, .unset, .unset, .unset] [(.long (q2 - o))]))
  refine own_st (fun _ kS => XS.lstoreN X12.here hx rfl (hb hby own_d4_6) rfl (l' := #[.val (.ref a1), .val (.long q2), .second, .val (.long (q2 - o)), .second, .unset, .unset]) rfl kS) ?_
  show OFin p e below s _ _ _ (T12.setTop (mkF m 7 #[.val (.ref a1), .val (.long q2), .second, .val (.long (q2 - o)), .second, .unset, .unset] []))
  refine own_st (fun _ kS => XS.lloadN X12.here hx rfl (hb hby own_d4_7) rfl kS) ?_
  show OFin p e below s _ _ _ (T12.setTop (mkF m 8 #[.val (.ref a1), .val (.long q2), .second, .val (.long (q2 - o)), .second, .unset, .unset] [(.long (q2 - o))]))
  refine own_st (fun _ kS => XS.aloadN X12.here hx rfl (hb hby own_d4_8) rfl rfl kS) ?_
  show OFin p e below s _ _ _ (T12.setTop (mkF m 9 #[.val (.ref a1), .val (.long q2), .second, .val (.long (q2 - o)), .second, .unset, .unset] [(.ref a1), (.long (q2 - o))]))
  obtain ⟨T13, X13, e13, st13⟩ := getF X12 hx hZ hown (host := "") (Or.inl (own_w hw 16 rfl)) Via.refl e12 F_t (g := (mkF m 9 #[.val (.ref a1), .val (.long q2), .second, .val (.long (q2 - o)), .second, .unset, .unset] [(.ref a1), (.long (q2 - o))])) rfl rfl (hb hby own_d4_9)
  refine own_st (st13) ?_
  show OFin p e below s _ _ _ (T13.setTop (mkF m 12 #[.val (.ref a1), .val (.long q2), .second, .val (.long (q2 - o)), .second, .unset, .unset] [(.long t), (.long (q2 - o))]))
  refine own_st (fun _ kS => XS.ldiv X13.here hx rfl (hb hby own_d4_12) rfl (own_nz ht) kS) ?_
  show OFin p e below s _ _ _ (T13.setTop (mkF m 13 #[.val (.ref a1), .val (.long q2), .second, .val (.long (q2 - o)), .second, .unset, .unset] [(.long ((q2 - o) / t))]))
  refine own_st (fun _ kS => XS.lstore X13.here hx rfl (hb hby own_d4_13) rfl (l' := #[.val (.ref a1), .val (.long q2), .second, .val (.long (q2 - o)), .second, .val (.long ((q2 - o) / t)), .second]) rfl kS) ?_
  show OFin p e below s _ _ _ (T13.setTop (mkF m 15 #[.val (.ref a1), .val (.long q2), .second, .val (.long (q2 - o)), .second, .val (.long ((q2 - o) / t)), .second] []))
  refine own_st (fun _ kS => XS.lloadN X13.here hx rfl (hb hby own_d4_15) rfl kS) ?_
  show OFin p e below s _ _ _ (T13.setTop (mkF m 16 #[.val (.ref a1), .val (.long q2), .second, .val (.long (q2 - o)), .second, .val (.long ((q2 - o) / t)), .second] [(.long (q2 - o))]))
  refine own_st (fun _ kS => XS.aloadN X13.here hx rfl (hb hby own_d4_16) rfl rfl kS) ?_
  show OFin p e below s _ _ _ (T13.setTop (mkF m 17 #[.val (.ref a1), .val (.long q2), .second, .val (.long (q2 - o)), .second, .val (.long ((q2 - o) / t)), .second] [(.ref a1), (.long (q2 - o))]))
  obtain ⟨T14, X14, e14, st14⟩ := getF X13 hx hZ hown (host := "") (Or.inl (own_w hw 16 rfl)) Via.refl e13 F_t (g := (mkF m 17 #[.val (.ref a1), .val (.long q2), .second, .val (.long (q2 - o)), .second, .val (.long ((q2 - o) / t)), .second] [(.ref a1), (.long (q2 - o))])) rfl rfl (hb hby own_d4_17)
  refine own_st (st14) ?_
  show OFin p e below s _ _ _ (T14.setTop (mkF m 20 #[.val (.ref a1), .val (.long q2), .second, .val (.long (q2 - o)), .second, .val (.long ((q2 - o) / t)), .second] [(.long t), (.long (q2 - o))]))
  refine own_st (fun _ kS => XS.lrem X14.here hx rfl (hb hby own_d4_20) rfl (own_nz ht) kS) ?_
  show OFin p e below s _ _ _ (T14.setTop (mkF m 21 #[.val (.ref a1), .val (.long q2), .second, .val (.long (q2 - o)), .second, .val (.long ((q2 - o) / t)), .second] [(.long ((q2 - o) - ((q2 - o) / t) * t))]))
  refine own_st (fun _ kS => XS.lconst X14.here hx rfl (hb hby own_d4_21) kS) ?_
  show OFin p e below s _ _ _ (T14.setTop (mkF m 22 #[.val (.ref a1), .val (.long q2), .second, .val (.long (q2 - o)), .second, .val (.long ((q2 - o) / t)), .second] [(.long (0 : Int64)), (.long ((q2 - o) - ((q2 - o) / t) * t))]))
  refine own_st (fun _ kS => XS.lcmp X14.here hx rfl (hb hby own_d4_22) rfl kS) ?_
  show OFin p e below s _ _ _ (T14.setTop (mkF m 23 #[.val (.ref a1), .val (.long q2), .second, .val (.long (q2 - o)), .second, .val (.long ((q2 - o) / t)), .second] [(.int (lcmpW ((q2 - o) - ((q2 - o) / t) * t) (0 : Int64)))]))
  by_cases c1 : (0 : Int32) < (lcmpW ((q2 - o) - ((q2 - o) / t) * t) (0 : Int64))
  · refine own_st (fun _ kS => XS.ifNo X14.here hx rfl (hb hby own_d4_23) rfl ((if0 _ _).trans (tlt c1).2.2.2) kS) ?_
    show OFin p e below s _ _ _ (T14.setTop (mkF m 26 #[.val (.ref a1), .val (.long q2), .second, .val (.long (q2 - o)), .second, .val (.long ((q2 - o) / t)), .second] []))
    refine own_st (fun _ kS => XS.lload X14.here hx rfl (hb hby own_d4_26) rfl kS) ?_
    show OFin p e below s _ _ _ (T14.setTop (mkF m 28 #[.val (.ref a1), .val (.long q2), .second, .val (.long (q2 - o)), .second, .val (.long ((q2 - o) / t)), .second] [(.long ((q2 - o) / t))]))
    refine own_st (fun _ kS => XS.lconst X14.here hx rfl (hb hby own_d4_28) kS) ?_
    show OFin p e below s _ _ _ (T14.setTop (mkF m 29 #[.val (.ref a1), .val (.long q2), .second, .val (.long (q2 - o)), .second, .val (.long ((q2 - o) / t)), .second] [(.long (1 : Int64)), (.long ((q2 - o) / t))]))
    refine own_st (fun _ kS => XS.ladd X14.here hx rfl (hb hby own_d4_29) rfl kS) ?_
    show OFin p e below s _ _ _ (T14.setTop (mkF m 30 #[.val (.ref a1), .val (.long q2), .second, .val (.long (q2 - o)), .second, .val (.long ((q2 - o) / t)), .second] [(.long (((q2 - o) / t) + (1 : Int64)))]))
    refine own_st (fun _ kS => XS.lstore X14.here hx rfl (hb hby own_d4_30) rfl (l' := #[.val (.ref a1), .val (.long q2), .second, .val (.long (q2 - o)), .second, .val (.long (((q2 - o) / t) + (1 : Int64))), .second]) rfl kS) ?_
    show OFin p e below s _ _ _ (T14.setTop (mkF m 32 #[.val (.ref a1), .val (.long q2), .second, .val (.long (q2 - o)), .second, .val (.long (((q2 - o) / t) + (1 : Int64))), .second] []))
    refine own_st (fun _ kS => XS.lload X14.here hx rfl (hb hby own_d4_32) rfl kS) ?_
    show OFin p e below s _ _ _ (T14.setTop (mkF m 34 #[.val (.ref a1), .val (.long q2), .second, .val (.long (q2 - o)), .second, .val (.long (((q2 - o) / t) + (1 : Int64))), .second] [(.long (((q2 - o) / t) + (1 : Int64)))]))
    exact own_ret X14 hx (t := .long) hret hlk rfl (Or.inr (Or.inl ⟨rfl, rfl, _, rfl⟩)) (hb hby own_d4_34) (by decide) (by decide) ⟨by simp only [own_tick, c1, if_true, if_false], e14, rfl⟩
  · refine own_st (fun _ kS => XS.ifYes X14.here hx rfl (pc0 := 23) (pc' := 32) rfl (hb hby own_d4_23) rfl ((if0 _ _).trans (flt c1).2.2.2) (by decide) (by decide) kS) ?_
    show OFin p e below s _ _ _ (T14.setTop (mkF m 32 #[.val (.ref a1), .val (.long q2), .second, .val (.long (q2 - o)), .second, .val (.long ((q2 - o) / t)), .second] []))
    refine own_st (fun _ kS => XS.lload X14.here hx rfl (hb hby own_d4_32) rfl kS) ?_
    show OFin p e below s _ _ _ (T14.setTop (mkF m 34 #[.val (.ref a1), .val (.long q2), .second, .val (.long (q2 - o)), .second, .val (.long ((q2 - o) / t)), .second] [(.long ((q2 - o) / t))]))
    exact own_ret X14 hx (t := .long) hret hlk rfl (Or.inr (Or.inl ⟨rfl, rfl, _, rfl⟩)) (hb hby own_d4_34) (by decide) (by decide) ⟨by simp only [own_tick, c1, if_true, if_false], e14, rfl⟩
set_option maxRecDepth 65536 in
set_option maxHeartbeats 40000000 in
theorem p67a {l : Launch} {Z : State} {a0 : Array Value} (hw : ∀ d ∈ tables_1, d.before a0 Z = true) {p : Program} {e : Env} {s : State} {m : MethodId} {args : Array Value} {below : List Frame} {meth : Method} {c : Code} (hC : OCtx Z p s m meth c "com/example/epicycle/epicycle/TickScaleTickAtOrAfterPinLaw" "law" code maxLocals ret) {T0 : State} {locs : List Loc} {cells slots : Nat} (X0 : Stand p l e room_1 s m args below meth c T0 locs cells slots) {h0 : Heap} (e0 : T0.heap = h0) (n0 : Nat) (Z0 : n0 ≤ h0.size) (q0 q1 q2 : Int64) (md : Int32) (t na off : Int64) (ht : 0 < t.toInt) (N0 : Fr n0 locs) (hcs : cells = 0) (hss : slots = 0) :
    OFin p e below s room_1.cells room_1.slots (fun v h L => v = some (.int (1 : Int32)) ∧ Fr n0 L) (T0.setTop (mkF m 67 #[.val (.long q0), .second, .val (.long q1), .second, .val (.long q2), .second, .val (.int md), .val (.long t), .second, .val (.long na), .second, .val (.long off), .second, .unset, .unset, .unset, .unset, .unset, .unset, .unset, .unset] [])) := by
  have hC0 := hC
  obtain ⟨hx, hZ, hby, hml, hown, hret, hlk, hnm⟩ := hC
  subst hcs hss
  obtain ⟨T15, h15, X15, e15, E15, A15, D15, -, st15⟩ := newO X0 hx hZ hown (own_w hw 5 rfl) (own_w hw 6 rfl) (own_w hw 7 rfl) e0 (g := (mkF m 67 #[.val (.long q0), .second, .val (.long q1), .second, .val (.long q2), .second, .val (.int md), .val (.long t), .second, .val (.long na), .second, .val (.long off), .second, .unset, .unset, .unset, .unset, .unset, .unset, .unset, .unset] [])) rfl (hb hby at_67) (by decide) (by decide)
  obtain ⟨ts, g15⟩ : ∃ z, z = h0.size := ⟨_, rfl⟩
  rw [← g15] at A15 D15 st15
  have g_ts : n0 ≤ ts := Nat.le_trans Z0 (Nat.le_of_eq g15.symm)
  have f16 : Fld Z h15 ts "com/example/epicycle/epicycle/TickScale" "originNanos" "J" (.long (0 : Int64)) := D15 (Or.inr (own_w hw 15 rfl)) (ty := .long) (by decide)
  have f17 : Fld Z h15 ts "com/example/epicycle/epicycle/TickScale" "tickNanos" "J" (.long (0 : Int64)) := D15 (Or.inr (own_w hw 17 rfl)) (ty := .long) (by decide)
  have sz15 : n0 ≤ h15.size := Nat.le_trans Z0 E15.1
  refine own_st (st15) ?_
  show OFin p e below s _ _ _ (T15.setTop (mkF m 70 #[.val (.long q0), .second, .val (.long q1), .second, .val (.long q2), .second, .val (.int md), .val (.long t), .second, .val (.long na), .second, .val (.long off), .second, .unset, .unset, .unset, .unset, .unset, .unset, .unset, .unset] [(.ref ts)]))
  refine own_st (fun _ kS => XS.dup X15.here hx rfl (hb hby at_70) rfl rfl kS) ?_
  show OFin p e below s _ _ _ (T15.setTop (mkF m 71 #[.val (.long q0), .second, .val (.long q1), .second, .val (.long q2), .second, .val (.int md), .val (.long t), .second, .val (.long na), .second, .val (.long off), .second, .unset, .unset, .unset, .unset, .unset, .unset, .unset, .unset] [(.ref ts), (.ref ts)]))
  refine own_st (fun _ kS => XS.lloadN X15.here hx rfl (hb hby at_71) rfl kS) ?_
  show OFin p e below s _ _ _ (T15.setTop (mkF m 72 #[.val (.long q0), .second, .val (.long q1), .second, .val (.long q2), .second, .val (.int md), .val (.long t), .second, .val (.long na), .second, .val (.long off), .second, .unset, .unset, .unset, .unset, .unset, .unset, .unset, .unset] [(.long q0), (.ref ts), (.ref ts)]))
  refine own_st (fun _ kS => XS.lload X15.here hx rfl (hb hby at_72) rfl kS) ?_
  show OFin p e below s _ _ _ (T15.setTop (mkF m 74 #[.val (.long q0), .second, .val (.long q1), .second, .val (.long q2), .second, .val (.int md), .val (.long t), .second, .val (.long na), .second, .val (.long off), .second, .unset, .unset, .unset, .unset, .unset, .unset, .unset, .unset] [(.long t), (.long q0), (.ref ts), (.ref ts)]))
  obtain ⟨v18, T18, L18, X18, hQ18, st18⟩ := own_init X15 hx hZ (y := (⟨"com/example/epicycle/epicycle/TickScale", "<init>", "(JJ)V"⟩ : MethodName)) (rm := ⟨1, 0, 0, 12⟩) (W := 1) (a := ts) (argsL := [(.long q0), (.long t)]) (rest := [(.ref ts)]) rfl hown (own_w hw 8 rfl) (own_w hw 9 rfl) (own_w hw 7 rfl) (own_w hw 10 rfl) (rmI l Z a0 hw ts q0 t h15 n0 A15 f16 f17 g_ts ht) e15 (g := (mkF m 74 #[.val (.long q0), .second, .val (.long q1), .second, .val (.long q2), .second, .val (.int md), .val (.long t), .second, .val (.long na), .second, .val (.long off), .second, .unset, .unset, .unset, .unset, .unset, .unset, .unset, .unset] [(.long t), (.long q0), (.ref ts), (.ref ts)])) rfl (by rw [hml]; rfl) (lenOf own_pd0 rfl) rfl (by show 2 * 0 + _ ≤ _; exact Nat.le_of_eq rfl) (hb hby at_74) (by decide) (by decide) (by decide) (by decide)
  obtain ⟨rfl, N18, EE18, FO18, FT18⟩ := hQ18
  have fr18 := Fr.app N0 N18
  refine own_st (st18) ?_
  show OFin p e below s _ _ _ (T18.setTop (mkF m 77 #[.val (.long q0), .second, .val (.long q1), .second, .val (.long q2), .second, .val (.int md), .val (.long t), .second, .val (.long na), .second, .val (.long off), .second, .unset, .unset, .unset, .unset, .unset, .unset, .unset, .unset] [(.ref ts)]))
  refine own_st (fun _ kS => XS.astore X18.here hx rfl (hb hby at_77) rfl rfl (l' := #[.val (.long q0), .second, .val (.long q1), .second, .val (.long q2), .second, .val (.int md), .val (.long t), .second, .val (.long na), .second, .val (.ref ts), .unset, .unset, .unset, .unset, .unset, .unset, .unset, .unset, .unset]) rfl kS) ?_
  show OFin p e below s _ _ _ (T18.setTop (mkF m 79 #[.val (.long q0), .second, .val (.long q1), .second, .val (.long q2), .second, .val (.int md), .val (.long t), .second, .val (.long na), .second, .val (.ref ts), .unset, .unset, .unset, .unset, .unset, .unset, .unset, .unset, .unset] []))
  refine own_st (fun _ kS => XS.aload X18.here hx rfl (hb hby at_79) rfl rfl kS) ?_
  show OFin p e below s _ _ _ (T18.setTop (mkF m 81 #[.val (.long q0), .second, .val (.long q1), .second, .val (.long q2), .second, .val (.int md), .val (.long t), .second, .val (.long na), .second, .val (.ref ts), .unset, .unset, .unset, .unset, .unset, .unset, .unset, .unset, .unset] [(.ref ts)]))
  refine own_st (fun _ kS => XS.lload X18.here hx rfl (hb hby at_81) rfl kS) ?_
  show OFin p e below s _ _ _ (T18.setTop (mkF m 83 #[.val (.long q0), .second, .val (.long q1), .second, .val (.long q2), .second, .val (.int md), .val (.long t), .second, .val (.long na), .second, .val (.ref ts), .unset, .unset, .unset, .unset, .unset, .unset, .unset, .unset, .unset] [(.long na), (.ref ts)]))
  obtain ⟨v19, T19, L19, X19, hQ19, st19⟩ := own_virtual X18 hx hZ (y := (⟨"com/example/epicycle/epicycle/TickScale", "tickAtOrAfter", "(J)J"⟩ : MethodName)) (z := (⟨"com/example/epicycle/epicycle/TickScale", "tickAtOrAfter", "(J)J"⟩ : MethodName)) (rm := ⟨0, 0, 0, 0⟩) (W := 0) (a := ts) (argsL := [(.long na)]) (rest := []) hown (own_w hw 18 rfl) (own_w hw 19 rfl) (notFace_of_selects (args := #[]) (mvT hZ (own_w hw 21 rfl))) (own_w hw 21 rfl) (own_w hw 20 rfl) (own_w hw 7 rfl) (own_w hw 22 rfl) (rmT l Z a0 hw ts na T18.heap q0 t FO18 FT18 ht) rfl EE18 (g := (mkF m 83 #[.val (.long q0), .second, .val (.long q1), .second, .val (.long q2), .second, .val (.int md), .val (.long t), .second, .val (.long na), .second, .val (.ref ts), .unset, .unset, .unset, .unset, .unset, .unset, .unset, .unset, .unset] [(.long na), (.ref ts)])) rfl (by rw [hml]; rfl) (lenOf own_pd1 rfl) rfl (by show 2 * 0 + _ ≤ _; exact Nat.le_of_eq rfl) (hb hby at_83) (by decide) (by decide) (by decide) (by decide)
  obtain ⟨rfl, e19, rfl⟩ := hQ19
  rw [List.append_nil] at X19
  refine own_st (st19) ?_
  show OFin p e below s _ _ _ (T19.setTop (mkF m 86 #[.val (.long q0), .second, .val (.long q1), .second, .val (.long q2), .second, .val (.int md), .val (.long t), .second, .val (.long na), .second, .val (.ref ts), .unset, .unset, .unset, .unset, .unset, .unset, .unset, .unset, .unset] [(.long (own_tick (na - q0) t))]))
  refine own_st (fun _ kS => XS.lstore X19.here hx rfl (hb hby at_86) rfl (l' := #[.val (.long q0), .second, .val (.long q1), .second, .val (.long q2), .second, .val (.int md), .val (.long t), .second, .val (.long na), .second, .val (.ref ts), .val (.long (own_tick (na - q0) t)), .second, .unset, .unset, .unset, .unset, .unset, .unset, .unset]) rfl kS) ?_
  show OFin p e below s _ _ _ (T19.setTop (mkF m 88 #[.val (.long q0), .second, .val (.long q1), .second, .val (.long q2), .second, .val (.int md), .val (.long t), .second, .val (.long na), .second, .val (.ref ts), .val (.long (own_tick (na - q0) t)), .second, .unset, .unset, .unset, .unset, .unset, .unset, .unset] []))
  refine own_st (fun _ kS => XS.lload X19.here hx rfl (hb hby at_88) rfl kS) ?_
  show OFin p e below s _ _ _ (T19.setTop (mkF m 90 #[.val (.long q0), .second, .val (.long q1), .second, .val (.long q2), .second, .val (.int md), .val (.long t), .second, .val (.long na), .second, .val (.ref ts), .val (.long (own_tick (na - q0) t)), .second, .unset, .unset, .unset, .unset, .unset, .unset, .unset] [(.long na)]))
  refine own_st (fun _ kS => XS.lloadN X19.here hx rfl (hb hby at_90) rfl kS) ?_
  show OFin p e below s _ _ _ (T19.setTop (mkF m 91 #[.val (.long q0), .second, .val (.long q1), .second, .val (.long q2), .second, .val (.int md), .val (.long t), .second, .val (.long na), .second, .val (.ref ts), .val (.long (own_tick (na - q0) t)), .second, .unset, .unset, .unset, .unset, .unset, .unset, .unset] [(.long q0), (.long na)]))
  refine own_st (fun _ kS => XS.lsub X19.here hx rfl (hb hby at_91) rfl kS) ?_
  show OFin p e below s _ _ _ (T19.setTop (mkF m 92 #[.val (.long q0), .second, .val (.long q1), .second, .val (.long q2), .second, .val (.int md), .val (.long t), .second, .val (.long na), .second, .val (.ref ts), .val (.long (own_tick (na - q0) t)), .second, .unset, .unset, .unset, .unset, .unset, .unset, .unset] [(.long (na - q0))]))
  refine own_st (fun _ kS => XS.lstore X19.here hx rfl (hb hby at_92) rfl (l' := #[.val (.long q0), .second, .val (.long q1), .second, .val (.long q2), .second, .val (.int md), .val (.long t), .second, .val (.long na), .second, .val (.ref ts), .val (.long (own_tick (na - q0) t)), .second, .val (.long (na - q0)), .second, .unset, .unset, .unset, .unset, .unset]) rfl kS) ?_
  show OFin p e below s _ _ _ (T19.setTop (mkF m 94 #[.val (.long q0), .second, .val (.long q1), .second, .val (.long q2), .second, .val (.int md), .val (.long t), .second, .val (.long na), .second, .val (.ref ts), .val (.long (own_tick (na - q0) t)), .second, .val (.long (na - q0)), .second, .unset, .unset, .unset, .unset, .unset] []))
  obtain ⟨o1, o2, o3⟩ := own_law (s := na - q0) ht
  generalize own_tick (na - q0) t = k at o1 o2 o3 ⊢
  show OFin p e below s _ _ _ (T19.setTop (mkF m 94 #[.val (.long q0), .second, .val (.long q1), .second, .val (.long q2), .second, .val (.int md), .val (.long t), .second, .val (.long na), .second, .val (.ref ts), .val (.long k), .second, .val (.long (na - q0)), .second, .unset, .unset, .unset, .unset, .unset] []))
  refine own_st (fun _ kS => XS.lload X19.here hx rfl (hb hby at_94) rfl kS) ?_
  show OFin p e below s _ _ _ (T19.setTop (mkF m 96 #[.val (.long q0), .second, .val (.long q1), .second, .val (.long q2), .second, .val (.int md), .val (.long t), .second, .val (.long na), .second, .val (.ref ts), .val (.long k), .second, .val (.long (na - q0)), .second, .unset, .unset, .unset, .unset, .unset] [(.long (na - q0))]))
  refine own_st (fun _ kS => XS.lload X19.here hx rfl (hb hby at_96) rfl kS) ?_
  show OFin p e below s _ _ _ (T19.setTop (mkF m 98 #[.val (.long q0), .second, .val (.long q1), .second, .val (.long q2), .second, .val (.int md), .val (.long t), .second, .val (.long na), .second, .val (.ref ts), .val (.long k), .second, .val (.long (na - q0)), .second, .unset, .unset, .unset, .unset, .unset] [(.long t), (.long (na - q0))]))
  refine own_st (fun _ kS => XS.ldiv X19.here hx rfl (hb hby at_98) rfl (own_nz ht) kS) ?_
  show OFin p e below s _ _ _ (T19.setTop (mkF m 99 #[.val (.long q0), .second, .val (.long q1), .second, .val (.long q2), .second, .val (.int md), .val (.long t), .second, .val (.long na), .second, .val (.ref ts), .val (.long k), .second, .val (.long (na - q0)), .second, .unset, .unset, .unset, .unset, .unset] [(.long ((na - q0) / t))]))
  refine own_st (fun _ kS => XS.lstore X19.here hx rfl (hb hby at_99) rfl (l' := #[.val (.long q0), .second, .val (.long q1), .second, .val (.long q2), .second, .val (.int md), .val (.long t), .second, .val (.long na), .second, .val (.ref ts), .val (.long k), .second, .val (.long (na - q0)), .second, .val (.long ((na - q0) / t)), .second, .unset, .unset, .unset]) rfl kS) ?_
  show OFin p e below s _ _ _ (T19.setTop (mkF m 101 #[.val (.long q0), .second, .val (.long q1), .second, .val (.long q2), .second, .val (.int md), .val (.long t), .second, .val (.long na), .second, .val (.ref ts), .val (.long k), .second, .val (.long (na - q0)), .second, .val (.long ((na - q0) / t)), .second, .unset, .unset, .unset] []))
  refine own_st (fun _ kS => XS.lload X19.here hx rfl (hb hby at_101) rfl kS) ?_
  show OFin p e below s _ _ _ (T19.setTop (mkF m 103 #[.val (.long q0), .second, .val (.long q1), .second, .val (.long q2), .second, .val (.int md), .val (.long t), .second, .val (.long na), .second, .val (.ref ts), .val (.long k), .second, .val (.long (na - q0)), .second, .val (.long ((na - q0) / t)), .second, .unset, .unset, .unset] [(.long k)]))
  refine own_st (fun _ kS => XS.lload X19.here hx rfl (hb hby at_103) rfl kS) ?_
  show OFin p e below s _ _ _ (T19.setTop (mkF m 105 #[.val (.long q0), .second, .val (.long q1), .second, .val (.long q2), .second, .val (.int md), .val (.long t), .second, .val (.long na), .second, .val (.ref ts), .val (.long k), .second, .val (.long (na - q0)), .second, .val (.long ((na - q0) / t)), .second, .unset, .unset, .unset] [(.long ((na - q0) / t)), (.long k)]))
  refine own_st (fun _ kS => XS.lcmp X19.here hx rfl (hb hby at_105) rfl kS) ?_
  show OFin p e below s _ _ _ (T19.setTop (mkF m 106 #[.val (.long q0), .second, .val (.long q1), .second, .val (.long q2), .second, .val (.int md), .val (.long t), .second, .val (.long na), .second, .val (.ref ts), .val (.long k), .second, .val (.long (na - q0)), .second, .val (.long ((na - q0) / t)), .second, .unset, .unset, .unset] [(.int (lcmpW k ((na - q0) / t)))]))
  rcases o1 with o1 | ⟨o1, o4⟩
  · refine own_st (fun _ kS => XS.ifYes X19.here hx rfl (pc0 := 106) (pc' := 119) rfl (hb hby at_106) rfl ((if0 _ _).trans (teq (own_lc0 _ _ o1)).1) (by decide) (by decide) kS) ?_
    show OFin p e below s _ _ _ (T19.setTop (mkF m 119 #[.val (.long q0), .second, .val (.long q1), .second, .val (.long q2), .second, .val (.int md), .val (.long t), .second, .val (.long na), .second, .val (.ref ts), .val (.long k), .second, .val (.long (na - q0)), .second, .val (.long ((na - q0) / t)), .second, .unset, .unset, .unset] []))
    refine own_st (fun _ kS => XS.iconst X19.here hx rfl (hb hby at_119) kS) ?_
    show OFin p e below s _ _ _ (T19.setTop (mkF m 120 #[.val (.long q0), .second, .val (.long q1), .second, .val (.long q2), .second, .val (.int md), .val (.long t), .second, .val (.long na), .second, .val (.ref ts), .val (.long k), .second, .val (.long (na - q0)), .second, .val (.long ((na - q0) / t)), .second, .unset, .unset, .unset] [(.int (1 : Int32))]))
    refine own_st (fun _ kS => XS.goto X19.here hx rfl (pc0 := 120) (pc' := 124) rfl (hb hby at_120) (by decide) (by decide) kS) ?_
    show OFin p e below s _ _ _ (T19.setTop (mkF m 124 #[.val (.long q0), .second, .val (.long q1), .second, .val (.long q2), .second, .val (.int md), .val (.long t), .second, .val (.long na), .second, .val (.ref ts), .val (.long k), .second, .val (.long (na - q0)), .second, .val (.long ((na - q0) / t)), .second, .unset, .unset, .unset] [(.int (1 : Int32))]))
    refine own_st (fun _ kS => XS.istore X19.here hx rfl (hb hby at_124) rfl (l' := #[.val (.long q0), .second, .val (.long q1), .second, .val (.long q2), .second, .val (.int md), .val (.long t), .second, .val (.long na), .second, .val (.ref ts), .val (.long k), .second, .val (.long (na - q0)), .second, .val (.long ((na - q0) / t)), .second, .val (.int (1 : Int32)), .unset, .unset]) rfl kS) ?_
    show OFin p e below s _ _ _ (T19.setTop (mkF m 126 #[.val (.long q0), .second, .val (.long q1), .second, .val (.long q2), .second, .val (.int md), .val (.long t), .second, .val (.long na), .second, .val (.ref ts), .val (.long k), .second, .val (.long (na - q0)), .second, .val (.long ((na - q0) / t)), .second, .val (.int (1 : Int32)), .unset, .unset] []))
    refine own_st (fun _ kS => XS.lload X19.here hx rfl (hb hby at_126) rfl kS) ?_
    show OFin p e below s _ _ _ (T19.setTop (mkF m 128 #[.val (.long q0), .second, .val (.long q1), .second, .val (.long q2), .second, .val (.int md), .val (.long t), .second, .val (.long na), .second, .val (.ref ts), .val (.long k), .second, .val (.long (na - q0)), .second, .val (.long ((na - q0) / t)), .second, .val (.int (1 : Int32)), .unset, .unset] [(.long k)]))
    refine own_st (fun _ kS => XS.lload X19.here hx rfl (hb hby at_128) rfl kS) ?_
    show OFin p e below s _ _ _ (T19.setTop (mkF m 130 #[.val (.long q0), .second, .val (.long q1), .second, .val (.long q2), .second, .val (.int md), .val (.long t), .second, .val (.long na), .second, .val (.ref ts), .val (.long k), .second, .val (.long (na - q0)), .second, .val (.long ((na - q0) / t)), .second, .val (.int (1 : Int32)), .unset, .unset] [(.long t), (.long k)]))
    refine own_st (fun _ kS => XS.lmul X19.here hx rfl (hb hby at_130) rfl kS) ?_
    show OFin p e below s _ _ _ (T19.setTop (mkF m 131 #[.val (.long q0), .second, .val (.long q1), .second, .val (.long q2), .second, .val (.int md), .val (.long t), .second, .val (.long na), .second, .val (.ref ts), .val (.long k), .second, .val (.long (na - q0)), .second, .val (.long ((na - q0) / t)), .second, .val (.int (1 : Int32)), .unset, .unset] [(.long (k * t))]))
    refine own_st (fun _ kS => XS.lload X19.here hx rfl (hb hby at_131) rfl kS) ?_
    show OFin p e below s _ _ _ (T19.setTop (mkF m 133 #[.val (.long q0), .second, .val (.long q1), .second, .val (.long q2), .second, .val (.int md), .val (.long t), .second, .val (.long na), .second, .val (.ref ts), .val (.long k), .second, .val (.long (na - q0)), .second, .val (.long ((na - q0) / t)), .second, .val (.int (1 : Int32)), .unset, .unset] [(.long (na - q0)), (.long (k * t))]))
    refine own_st (fun _ kS => XS.lsub X19.here hx rfl (hb hby at_133) rfl kS) ?_
    show OFin p e below s _ _ _ (T19.setTop (mkF m 134 #[.val (.long q0), .second, .val (.long q1), .second, .val (.long q2), .second, .val (.int md), .val (.long t), .second, .val (.long na), .second, .val (.ref ts), .val (.long k), .second, .val (.long (na - q0)), .second, .val (.long ((na - q0) / t)), .second, .val (.int (1 : Int32)), .unset, .unset] [(.long ((k * t) - (na - q0)))]))
    refine own_st (fun _ kS => XS.lstore X19.here hx rfl (hb hby at_134) rfl (l' := #[.val (.long q0), .second, .val (.long q1), .second, .val (.long q2), .second, .val (.int md), .val (.long t), .second, .val (.long na), .second, .val (.ref ts), .val (.long k), .second, .val (.long (na - q0)), .second, .val (.long ((na - q0) / t)), .second, .val (.int (1 : Int32)), .val (.long ((k * t) - (na - q0))), .second]) rfl kS) ?_
    show OFin p e below s _ _ _ (T19.setTop (mkF m 136 #[.val (.long q0), .second, .val (.long q1), .second, .val (.long q2), .second, .val (.int md), .val (.long t), .second, .val (.long na), .second, .val (.ref ts), .val (.long k), .second, .val (.long (na - q0)), .second, .val (.long ((na - q0) / t)), .second, .val (.int (1 : Int32)), .val (.long ((k * t) - (na - q0))), .second] []))
    refine own_st (fun _ kS => XS.iload X19.here hx rfl (hb hby at_136) rfl kS) ?_
    show OFin p e below s _ _ _ (T19.setTop (mkF m 138 #[.val (.long q0), .second, .val (.long q1), .second, .val (.long q2), .second, .val (.int md), .val (.long t), .second, .val (.long na), .second, .val (.ref ts), .val (.long k), .second, .val (.long (na - q0)), .second, .val (.long ((na - q0) / t)), .second, .val (.int (1 : Int32)), .val (.long ((k * t) - (na - q0))), .second] [(.int (1 : Int32))]))
    refine own_st (fun _ kS => XS.ifNo X19.here hx rfl (hb hby at_138) rfl ((if0 _ _).trans (feq (by decide)).1) kS) ?_
    show OFin p e below s _ _ _ (T19.setTop (mkF m 141 #[.val (.long q0), .second, .val (.long q1), .second, .val (.long q2), .second, .val (.int md), .val (.long t), .second, .val (.long na), .second, .val (.ref ts), .val (.long k), .second, .val (.long (na - q0)), .second, .val (.long ((na - q0) / t)), .second, .val (.int (1 : Int32)), .val (.long ((k * t) - (na - q0))), .second] []))
    refine own_st (fun _ kS => XS.lload X19.here hx rfl (hb hby at_141) rfl kS) ?_
    show OFin p e below s _ _ _ (T19.setTop (mkF m 143 #[.val (.long q0), .second, .val (.long q1), .second, .val (.long q2), .second, .val (.int md), .val (.long t), .second, .val (.long na), .second, .val (.ref ts), .val (.long k), .second, .val (.long (na - q0)), .second, .val (.long ((na - q0) / t)), .second, .val (.int (1 : Int32)), .val (.long ((k * t) - (na - q0))), .second] [(.long ((k * t) - (na - q0)))]))
    refine own_st (fun _ kS => XS.lconst X19.here hx rfl (hb hby at_143) kS) ?_
    show OFin p e below s _ _ _ (T19.setTop (mkF m 144 #[.val (.long q0), .second, .val (.long q1), .second, .val (.long q2), .second, .val (.int md), .val (.long t), .second, .val (.long na), .second, .val (.ref ts), .val (.long k), .second, .val (.long (na - q0)), .second, .val (.long ((na - q0) / t)), .second, .val (.int (1 : Int32)), .val (.long ((k * t) - (na - q0))), .second] [(.long (0 : Int64)), (.long ((k * t) - (na - q0)))]))
    refine own_st (fun _ kS => XS.lcmp X19.here hx rfl (hb hby at_144) rfl kS) ?_
    show OFin p e below s _ _ _ (T19.setTop (mkF m 145 #[.val (.long q0), .second, .val (.long q1), .second, .val (.long q2), .second, .val (.int md), .val (.long t), .second, .val (.long na), .second, .val (.ref ts), .val (.long k), .second, .val (.long (na - q0)), .second, .val (.long ((na - q0) / t)), .second, .val (.int (1 : Int32)), .val (.long ((k * t) - (na - q0))), .second] [(.int (lcmpW ((k * t) - (na - q0)) (0 : Int64)))]))
    refine own_st (fun _ kS => XS.ifNo X19.here hx rfl (hb hby at_145) rfl ((if0 _ _).trans (flt o2).1) kS) ?_
    show OFin p e below s _ _ _ (T19.setTop (mkF m 148 #[.val (.long q0), .second, .val (.long q1), .second, .val (.long q2), .second, .val (.int md), .val (.long t), .second, .val (.long na), .second, .val (.ref ts), .val (.long k), .second, .val (.long (na - q0)), .second, .val (.long ((na - q0) / t)), .second, .val (.int (1 : Int32)), .val (.long ((k * t) - (na - q0))), .second] []))
    refine own_st (fun _ kS => XS.lload X19.here hx rfl (hb hby at_148) rfl kS) ?_
    show OFin p e below s _ _ _ (T19.setTop (mkF m 150 #[.val (.long q0), .second, .val (.long q1), .second, .val (.long q2), .second, .val (.int md), .val (.long t), .second, .val (.long na), .second, .val (.ref ts), .val (.long k), .second, .val (.long (na - q0)), .second, .val (.long ((na - q0) / t)), .second, .val (.int (1 : Int32)), .val (.long ((k * t) - (na - q0))), .second] [(.long ((k * t) - (na - q0)))]))
    refine own_st (fun _ kS => XS.lload X19.here hx rfl (hb hby at_150) rfl kS) ?_
    show OFin p e below s _ _ _ (T19.setTop (mkF m 152 #[.val (.long q0), .second, .val (.long q1), .second, .val (.long q2), .second, .val (.int md), .val (.long t), .second, .val (.long na), .second, .val (.ref ts), .val (.long k), .second, .val (.long (na - q0)), .second, .val (.long ((na - q0) / t)), .second, .val (.int (1 : Int32)), .val (.long ((k * t) - (na - q0))), .second] [(.long t), (.long ((k * t) - (na - q0)))]))
    refine own_st (fun _ kS => XS.lcmp X19.here hx rfl (hb hby at_152) rfl kS) ?_
    show OFin p e below s _ _ _ (T19.setTop (mkF m 153 #[.val (.long q0), .second, .val (.long q1), .second, .val (.long q2), .second, .val (.int md), .val (.long t), .second, .val (.long na), .second, .val (.ref ts), .val (.long k), .second, .val (.long (na - q0)), .second, .val (.long ((na - q0) / t)), .second, .val (.int (1 : Int32)), .val (.long ((k * t) - (na - q0))), .second] [(.int (lcmpW ((k * t) - (na - q0)) t))]))
    refine own_st (fun _ kS => XS.ifNo X19.here hx rfl (hb hby at_153) rfl ((if0 _ _).trans (tlt o3).2.1) kS) ?_
    show OFin p e below s _ _ _ (T19.setTop (mkF m 156 #[.val (.long q0), .second, .val (.long q1), .second, .val (.long q2), .second, .val (.int md), .val (.long t), .second, .val (.long na), .second, .val (.ref ts), .val (.long k), .second, .val (.long (na - q0)), .second, .val (.long ((na - q0) / t)), .second, .val (.int (1 : Int32)), .val (.long ((k * t) - (na - q0))), .second] []))
    refine own_st (fun _ kS => XS.iconst X19.here hx rfl (hb hby at_156) kS) ?_
    show OFin p e below s _ _ _ (T19.setTop (mkF m 157 #[.val (.long q0), .second, .val (.long q1), .second, .val (.long q2), .second, .val (.int md), .val (.long t), .second, .val (.long na), .second, .val (.ref ts), .val (.long k), .second, .val (.long (na - q0)), .second, .val (.long ((na - q0) / t)), .second, .val (.int (1 : Int32)), .val (.long ((k * t) - (na - q0))), .second] [(.int (1 : Int32))]))
    refine own_st (fun _ kS => XS.goto X19.here hx rfl (pc0 := 157) (pc' := 161) rfl (hb hby at_157) (by decide) (by decide) kS) ?_
    show OFin p e below s _ _ _ (T19.setTop (mkF m 161 #[.val (.long q0), .second, .val (.long q1), .second, .val (.long q2), .second, .val (.int md), .val (.long t), .second, .val (.long na), .second, .val (.ref ts), .val (.long k), .second, .val (.long (na - q0)), .second, .val (.long ((na - q0) / t)), .second, .val (.int (1 : Int32)), .val (.long ((k * t) - (na - q0))), .second] [(.int (1 : Int32))]))
    exact own_ret X19 hx (t := .boolean) hret hlk rfl (Or.inl ⟨rfl, by simp, _, rfl⟩) (hb hby at_161) (by decide) (by decide) ⟨rfl, fr18⟩
  · refine own_st (fun _ kS => XS.ifNo X19.here hx rfl (hb hby at_106) rfl ((if0 _ _).trans (feq (own_lc1 _ _ o1)).1) kS) ?_
    show OFin p e below s _ _ _ (T19.setTop (mkF m 109 #[.val (.long q0), .second, .val (.long q1), .second, .val (.long q2), .second, .val (.int md), .val (.long t), .second, .val (.long na), .second, .val (.ref ts), .val (.long k), .second, .val (.long (na - q0)), .second, .val (.long ((na - q0) / t)), .second, .unset, .unset, .unset] []))
    refine own_st (fun _ kS => XS.lload X19.here hx rfl (hb hby at_109) rfl kS) ?_
    show OFin p e below s _ _ _ (T19.setTop (mkF m 111 #[.val (.long q0), .second, .val (.long q1), .second, .val (.long q2), .second, .val (.int md), .val (.long t), .second, .val (.long na), .second, .val (.ref ts), .val (.long k), .second, .val (.long (na - q0)), .second, .val (.long ((na - q0) / t)), .second, .unset, .unset, .unset] [(.long k)]))
    refine own_st (fun _ kS => XS.lload X19.here hx rfl (hb hby at_111) rfl kS) ?_
    show OFin p e below s _ _ _ (T19.setTop (mkF m 113 #[.val (.long q0), .second, .val (.long q1), .second, .val (.long q2), .second, .val (.int md), .val (.long t), .second, .val (.long na), .second, .val (.ref ts), .val (.long k), .second, .val (.long (na - q0)), .second, .val (.long ((na - q0) / t)), .second, .unset, .unset, .unset] [(.long ((na - q0) / t)), (.long k)]))
    refine own_st (fun _ kS => XS.lconst X19.here hx rfl (hb hby at_113) kS) ?_
    show OFin p e below s _ _ _ (T19.setTop (mkF m 114 #[.val (.long q0), .second, .val (.long q1), .second, .val (.long q2), .second, .val (.int md), .val (.long t), .second, .val (.long na), .second, .val (.ref ts), .val (.long k), .second, .val (.long (na - q0)), .second, .val (.long ((na - q0) / t)), .second, .unset, .unset, .unset] [(.long (1 : Int64)), (.long ((na - q0) / t)), (.long k)]))
    refine own_st (fun _ kS => XS.ladd X19.here hx rfl (hb hby at_114) rfl kS) ?_
    show OFin p e below s _ _ _ (T19.setTop (mkF m 115 #[.val (.long q0), .second, .val (.long q1), .second, .val (.long q2), .second, .val (.int md), .val (.long t), .second, .val (.long na), .second, .val (.ref ts), .val (.long k), .second, .val (.long (na - q0)), .second, .val (.long ((na - q0) / t)), .second, .unset, .unset, .unset] [(.long (((na - q0) / t) + (1 : Int64))), (.long k)]))
    refine own_st (fun _ kS => XS.lcmp X19.here hx rfl (hb hby at_115) rfl kS) ?_
    show OFin p e below s _ _ _ (T19.setTop (mkF m 116 #[.val (.long q0), .second, .val (.long q1), .second, .val (.long q2), .second, .val (.int md), .val (.long t), .second, .val (.long na), .second, .val (.ref ts), .val (.long k), .second, .val (.long (na - q0)), .second, .val (.long ((na - q0) / t)), .second, .unset, .unset, .unset] [(.int (lcmpW k (((na - q0) / t) + (1 : Int64))))]))
    refine own_st (fun _ kS => XS.ifNo X19.here hx rfl (hb hby at_116) rfl ((if0 _ _).trans (teq (own_lc0 _ _ o4)).2) kS) ?_
    show OFin p e below s _ _ _ (T19.setTop (mkF m 119 #[.val (.long q0), .second, .val (.long q1), .second, .val (.long q2), .second, .val (.int md), .val (.long t), .second, .val (.long na), .second, .val (.ref ts), .val (.long k), .second, .val (.long (na - q0)), .second, .val (.long ((na - q0) / t)), .second, .unset, .unset, .unset] []))
    refine own_st (fun _ kS => XS.iconst X19.here hx rfl (hb hby at_119) kS) ?_
    show OFin p e below s _ _ _ (T19.setTop (mkF m 120 #[.val (.long q0), .second, .val (.long q1), .second, .val (.long q2), .second, .val (.int md), .val (.long t), .second, .val (.long na), .second, .val (.ref ts), .val (.long k), .second, .val (.long (na - q0)), .second, .val (.long ((na - q0) / t)), .second, .unset, .unset, .unset] [(.int (1 : Int32))]))
    refine own_st (fun _ kS => XS.goto X19.here hx rfl (pc0 := 120) (pc' := 124) rfl (hb hby at_120) (by decide) (by decide) kS) ?_
    show OFin p e below s _ _ _ (T19.setTop (mkF m 124 #[.val (.long q0), .second, .val (.long q1), .second, .val (.long q2), .second, .val (.int md), .val (.long t), .second, .val (.long na), .second, .val (.ref ts), .val (.long k), .second, .val (.long (na - q0)), .second, .val (.long ((na - q0) / t)), .second, .unset, .unset, .unset] [(.int (1 : Int32))]))
    refine own_st (fun _ kS => XS.istore X19.here hx rfl (hb hby at_124) rfl (l' := #[.val (.long q0), .second, .val (.long q1), .second, .val (.long q2), .second, .val (.int md), .val (.long t), .second, .val (.long na), .second, .val (.ref ts), .val (.long k), .second, .val (.long (na - q0)), .second, .val (.long ((na - q0) / t)), .second, .val (.int (1 : Int32)), .unset, .unset]) rfl kS) ?_
    show OFin p e below s _ _ _ (T19.setTop (mkF m 126 #[.val (.long q0), .second, .val (.long q1), .second, .val (.long q2), .second, .val (.int md), .val (.long t), .second, .val (.long na), .second, .val (.ref ts), .val (.long k), .second, .val (.long (na - q0)), .second, .val (.long ((na - q0) / t)), .second, .val (.int (1 : Int32)), .unset, .unset] []))
    refine own_st (fun _ kS => XS.lload X19.here hx rfl (hb hby at_126) rfl kS) ?_
    show OFin p e below s _ _ _ (T19.setTop (mkF m 128 #[.val (.long q0), .second, .val (.long q1), .second, .val (.long q2), .second, .val (.int md), .val (.long t), .second, .val (.long na), .second, .val (.ref ts), .val (.long k), .second, .val (.long (na - q0)), .second, .val (.long ((na - q0) / t)), .second, .val (.int (1 : Int32)), .unset, .unset] [(.long k)]))
    refine own_st (fun _ kS => XS.lload X19.here hx rfl (hb hby at_128) rfl kS) ?_
    show OFin p e below s _ _ _ (T19.setTop (mkF m 130 #[.val (.long q0), .second, .val (.long q1), .second, .val (.long q2), .second, .val (.int md), .val (.long t), .second, .val (.long na), .second, .val (.ref ts), .val (.long k), .second, .val (.long (na - q0)), .second, .val (.long ((na - q0) / t)), .second, .val (.int (1 : Int32)), .unset, .unset] [(.long t), (.long k)]))
    refine own_st (fun _ kS => XS.lmul X19.here hx rfl (hb hby at_130) rfl kS) ?_
    show OFin p e below s _ _ _ (T19.setTop (mkF m 131 #[.val (.long q0), .second, .val (.long q1), .second, .val (.long q2), .second, .val (.int md), .val (.long t), .second, .val (.long na), .second, .val (.ref ts), .val (.long k), .second, .val (.long (na - q0)), .second, .val (.long ((na - q0) / t)), .second, .val (.int (1 : Int32)), .unset, .unset] [(.long (k * t))]))
    refine own_st (fun _ kS => XS.lload X19.here hx rfl (hb hby at_131) rfl kS) ?_
    show OFin p e below s _ _ _ (T19.setTop (mkF m 133 #[.val (.long q0), .second, .val (.long q1), .second, .val (.long q2), .second, .val (.int md), .val (.long t), .second, .val (.long na), .second, .val (.ref ts), .val (.long k), .second, .val (.long (na - q0)), .second, .val (.long ((na - q0) / t)), .second, .val (.int (1 : Int32)), .unset, .unset] [(.long (na - q0)), (.long (k * t))]))
    refine own_st (fun _ kS => XS.lsub X19.here hx rfl (hb hby at_133) rfl kS) ?_
    show OFin p e below s _ _ _ (T19.setTop (mkF m 134 #[.val (.long q0), .second, .val (.long q1), .second, .val (.long q2), .second, .val (.int md), .val (.long t), .second, .val (.long na), .second, .val (.ref ts), .val (.long k), .second, .val (.long (na - q0)), .second, .val (.long ((na - q0) / t)), .second, .val (.int (1 : Int32)), .unset, .unset] [(.long ((k * t) - (na - q0)))]))
    refine own_st (fun _ kS => XS.lstore X19.here hx rfl (hb hby at_134) rfl (l' := #[.val (.long q0), .second, .val (.long q1), .second, .val (.long q2), .second, .val (.int md), .val (.long t), .second, .val (.long na), .second, .val (.ref ts), .val (.long k), .second, .val (.long (na - q0)), .second, .val (.long ((na - q0) / t)), .second, .val (.int (1 : Int32)), .val (.long ((k * t) - (na - q0))), .second]) rfl kS) ?_
    show OFin p e below s _ _ _ (T19.setTop (mkF m 136 #[.val (.long q0), .second, .val (.long q1), .second, .val (.long q2), .second, .val (.int md), .val (.long t), .second, .val (.long na), .second, .val (.ref ts), .val (.long k), .second, .val (.long (na - q0)), .second, .val (.long ((na - q0) / t)), .second, .val (.int (1 : Int32)), .val (.long ((k * t) - (na - q0))), .second] []))
    refine own_st (fun _ kS => XS.iload X19.here hx rfl (hb hby at_136) rfl kS) ?_
    show OFin p e below s _ _ _ (T19.setTop (mkF m 138 #[.val (.long q0), .second, .val (.long q1), .second, .val (.long q2), .second, .val (.int md), .val (.long t), .second, .val (.long na), .second, .val (.ref ts), .val (.long k), .second, .val (.long (na - q0)), .second, .val (.long ((na - q0) / t)), .second, .val (.int (1 : Int32)), .val (.long ((k * t) - (na - q0))), .second] [(.int (1 : Int32))]))
    refine own_st (fun _ kS => XS.ifNo X19.here hx rfl (hb hby at_138) rfl ((if0 _ _).trans (feq (by decide)).1) kS) ?_
    show OFin p e below s _ _ _ (T19.setTop (mkF m 141 #[.val (.long q0), .second, .val (.long q1), .second, .val (.long q2), .second, .val (.int md), .val (.long t), .second, .val (.long na), .second, .val (.ref ts), .val (.long k), .second, .val (.long (na - q0)), .second, .val (.long ((na - q0) / t)), .second, .val (.int (1 : Int32)), .val (.long ((k * t) - (na - q0))), .second] []))
    refine own_st (fun _ kS => XS.lload X19.here hx rfl (hb hby at_141) rfl kS) ?_
    show OFin p e below s _ _ _ (T19.setTop (mkF m 143 #[.val (.long q0), .second, .val (.long q1), .second, .val (.long q2), .second, .val (.int md), .val (.long t), .second, .val (.long na), .second, .val (.ref ts), .val (.long k), .second, .val (.long (na - q0)), .second, .val (.long ((na - q0) / t)), .second, .val (.int (1 : Int32)), .val (.long ((k * t) - (na - q0))), .second] [(.long ((k * t) - (na - q0)))]))
    refine own_st (fun _ kS => XS.lconst X19.here hx rfl (hb hby at_143) kS) ?_
    show OFin p e below s _ _ _ (T19.setTop (mkF m 144 #[.val (.long q0), .second, .val (.long q1), .second, .val (.long q2), .second, .val (.int md), .val (.long t), .second, .val (.long na), .second, .val (.ref ts), .val (.long k), .second, .val (.long (na - q0)), .second, .val (.long ((na - q0) / t)), .second, .val (.int (1 : Int32)), .val (.long ((k * t) - (na - q0))), .second] [(.long (0 : Int64)), (.long ((k * t) - (na - q0)))]))
    refine own_st (fun _ kS => XS.lcmp X19.here hx rfl (hb hby at_144) rfl kS) ?_
    show OFin p e below s _ _ _ (T19.setTop (mkF m 145 #[.val (.long q0), .second, .val (.long q1), .second, .val (.long q2), .second, .val (.int md), .val (.long t), .second, .val (.long na), .second, .val (.ref ts), .val (.long k), .second, .val (.long (na - q0)), .second, .val (.long ((na - q0) / t)), .second, .val (.int (1 : Int32)), .val (.long ((k * t) - (na - q0))), .second] [(.int (lcmpW ((k * t) - (na - q0)) (0 : Int64)))]))
    refine own_st (fun _ kS => XS.ifNo X19.here hx rfl (hb hby at_145) rfl ((if0 _ _).trans (flt o2).1) kS) ?_
    show OFin p e below s _ _ _ (T19.setTop (mkF m 148 #[.val (.long q0), .second, .val (.long q1), .second, .val (.long q2), .second, .val (.int md), .val (.long t), .second, .val (.long na), .second, .val (.ref ts), .val (.long k), .second, .val (.long (na - q0)), .second, .val (.long ((na - q0) / t)), .second, .val (.int (1 : Int32)), .val (.long ((k * t) - (na - q0))), .second] []))
    refine own_st (fun _ kS => XS.lload X19.here hx rfl (hb hby at_148) rfl kS) ?_
    show OFin p e below s _ _ _ (T19.setTop (mkF m 150 #[.val (.long q0), .second, .val (.long q1), .second, .val (.long q2), .second, .val (.int md), .val (.long t), .second, .val (.long na), .second, .val (.ref ts), .val (.long k), .second, .val (.long (na - q0)), .second, .val (.long ((na - q0) / t)), .second, .val (.int (1 : Int32)), .val (.long ((k * t) - (na - q0))), .second] [(.long ((k * t) - (na - q0)))]))
    refine own_st (fun _ kS => XS.lload X19.here hx rfl (hb hby at_150) rfl kS) ?_
    show OFin p e below s _ _ _ (T19.setTop (mkF m 152 #[.val (.long q0), .second, .val (.long q1), .second, .val (.long q2), .second, .val (.int md), .val (.long t), .second, .val (.long na), .second, .val (.ref ts), .val (.long k), .second, .val (.long (na - q0)), .second, .val (.long ((na - q0) / t)), .second, .val (.int (1 : Int32)), .val (.long ((k * t) - (na - q0))), .second] [(.long t), (.long ((k * t) - (na - q0)))]))
    refine own_st (fun _ kS => XS.lcmp X19.here hx rfl (hb hby at_152) rfl kS) ?_
    show OFin p e below s _ _ _ (T19.setTop (mkF m 153 #[.val (.long q0), .second, .val (.long q1), .second, .val (.long q2), .second, .val (.int md), .val (.long t), .second, .val (.long na), .second, .val (.ref ts), .val (.long k), .second, .val (.long (na - q0)), .second, .val (.long ((na - q0) / t)), .second, .val (.int (1 : Int32)), .val (.long ((k * t) - (na - q0))), .second] [(.int (lcmpW ((k * t) - (na - q0)) t))]))
    refine own_st (fun _ kS => XS.ifNo X19.here hx rfl (hb hby at_153) rfl ((if0 _ _).trans (tlt o3).2.1) kS) ?_
    show OFin p e below s _ _ _ (T19.setTop (mkF m 156 #[.val (.long q0), .second, .val (.long q1), .second, .val (.long q2), .second, .val (.int md), .val (.long t), .second, .val (.long na), .second, .val (.ref ts), .val (.long k), .second, .val (.long (na - q0)), .second, .val (.long ((na - q0) / t)), .second, .val (.int (1 : Int32)), .val (.long ((k * t) - (na - q0))), .second] []))
    refine own_st (fun _ kS => XS.iconst X19.here hx rfl (hb hby at_156) kS) ?_
    show OFin p e below s _ _ _ (T19.setTop (mkF m 157 #[.val (.long q0), .second, .val (.long q1), .second, .val (.long q2), .second, .val (.int md), .val (.long t), .second, .val (.long na), .second, .val (.ref ts), .val (.long k), .second, .val (.long (na - q0)), .second, .val (.long ((na - q0) / t)), .second, .val (.int (1 : Int32)), .val (.long ((k * t) - (na - q0))), .second] [(.int (1 : Int32))]))
    refine own_st (fun _ kS => XS.goto X19.here hx rfl (pc0 := 157) (pc' := 161) rfl (hb hby at_157) (by decide) (by decide) kS) ?_
    show OFin p e below s _ _ _ (T19.setTop (mkF m 161 #[.val (.long q0), .second, .val (.long q1), .second, .val (.long q2), .second, .val (.int md), .val (.long t), .second, .val (.long na), .second, .val (.ref ts), .val (.long k), .second, .val (.long (na - q0)), .second, .val (.long ((na - q0) / t)), .second, .val (.int (1 : Int32)), .val (.long ((k * t) - (na - q0))), .second] [(.int (1 : Int32))]))
    exact own_ret X19 hx (t := .boolean) hret hlk rfl (Or.inl ⟨rfl, by simp, _, rfl⟩) (hb hby at_161) (by decide) (by decide) ⟨rfl, fr18⟩
set_option maxRecDepth 65536 in
set_option maxHeartbeats 40000000 in
theorem p67b {l : Launch} {Z : State} {a0 : Array Value} (hw : ∀ d ∈ tables_1, d.before a0 Z = true) {p : Program} {e : Env} {s : State} {m : MethodId} {args : Array Value} {below : List Frame} {meth : Method} {c : Code} (hC : OCtx Z p s m meth c "com/example/epicycle/epicycle/TickScaleTickAtOrAfterPinLaw" "law" code maxLocals ret) {T0 : State} {locs : List Loc} {cells slots : Nat} (X0 : Stand p l e room_1 s m args below meth c T0 locs cells slots) {h0 : Heap} (e0 : T0.heap = h0) (n0 : Nat) (Z0 : n0 ≤ h0.size) (q0 q1 q2 : Int64) (md : Int32) (t na : Int64) (ht : 0 < t.toInt) (N0 : Fr n0 locs) (hcs : cells = 0) (hss : slots = 0) :
    OFin p e below s room_1.cells room_1.slots (fun v h L => v = some (.int (1 : Int32)) ∧ Fr n0 L) (T0.setTop (mkF m 67 #[.val (.long q0), .second, .val (.long q1), .second, .val (.long q2), .second, .val (.int md), .val (.long t), .second, .val (.long na), .second, .unset, .unset, .unset, .unset, .unset, .unset, .unset, .unset, .unset, .unset] [])) := by
  have hC0 := hC
  obtain ⟨hx, hZ, hby, hml, hown, hret, hlk, hnm⟩ := hC
  subst hcs hss
  obtain ⟨T20, h20, X20, e20, E20, A20, D20, -, st20⟩ := newO X0 hx hZ hown (own_w hw 5 rfl) (own_w hw 6 rfl) (own_w hw 7 rfl) e0 (g := (mkF m 67 #[.val (.long q0), .second, .val (.long q1), .second, .val (.long q2), .second, .val (.int md), .val (.long t), .second, .val (.long na), .second, .unset, .unset, .unset, .unset, .unset, .unset, .unset, .unset, .unset, .unset] [])) rfl (hb hby at_67) (by decide) (by decide)
  obtain ⟨ts, g20⟩ : ∃ z, z = h0.size := ⟨_, rfl⟩
  rw [← g20] at A20 D20 st20
  have g_ts : n0 ≤ ts := Nat.le_trans Z0 (Nat.le_of_eq g20.symm)
  have f21 : Fld Z h20 ts "com/example/epicycle/epicycle/TickScale" "originNanos" "J" (.long (0 : Int64)) := D20 (Or.inr (own_w hw 15 rfl)) (ty := .long) (by decide)
  have f22 : Fld Z h20 ts "com/example/epicycle/epicycle/TickScale" "tickNanos" "J" (.long (0 : Int64)) := D20 (Or.inr (own_w hw 17 rfl)) (ty := .long) (by decide)
  have sz20 : n0 ≤ h20.size := Nat.le_trans Z0 E20.1
  refine own_st (st20) ?_
  show OFin p e below s _ _ _ (T20.setTop (mkF m 70 #[.val (.long q0), .second, .val (.long q1), .second, .val (.long q2), .second, .val (.int md), .val (.long t), .second, .val (.long na), .second, .unset, .unset, .unset, .unset, .unset, .unset, .unset, .unset, .unset, .unset] [(.ref ts)]))
  refine own_st (fun _ kS => XS.dup X20.here hx rfl (hb hby at_70) rfl rfl kS) ?_
  show OFin p e below s _ _ _ (T20.setTop (mkF m 71 #[.val (.long q0), .second, .val (.long q1), .second, .val (.long q2), .second, .val (.int md), .val (.long t), .second, .val (.long na), .second, .unset, .unset, .unset, .unset, .unset, .unset, .unset, .unset, .unset, .unset] [(.ref ts), (.ref ts)]))
  refine own_st (fun _ kS => XS.lloadN X20.here hx rfl (hb hby at_71) rfl kS) ?_
  show OFin p e below s _ _ _ (T20.setTop (mkF m 72 #[.val (.long q0), .second, .val (.long q1), .second, .val (.long q2), .second, .val (.int md), .val (.long t), .second, .val (.long na), .second, .unset, .unset, .unset, .unset, .unset, .unset, .unset, .unset, .unset, .unset] [(.long q0), (.ref ts), (.ref ts)]))
  refine own_st (fun _ kS => XS.lload X20.here hx rfl (hb hby at_72) rfl kS) ?_
  show OFin p e below s _ _ _ (T20.setTop (mkF m 74 #[.val (.long q0), .second, .val (.long q1), .second, .val (.long q2), .second, .val (.int md), .val (.long t), .second, .val (.long na), .second, .unset, .unset, .unset, .unset, .unset, .unset, .unset, .unset, .unset, .unset] [(.long t), (.long q0), (.ref ts), (.ref ts)]))
  obtain ⟨v23, T23, L23, X23, hQ23, st23⟩ := own_init X20 hx hZ (y := (⟨"com/example/epicycle/epicycle/TickScale", "<init>", "(JJ)V"⟩ : MethodName)) (rm := ⟨1, 0, 0, 12⟩) (W := 1) (a := ts) (argsL := [(.long q0), (.long t)]) (rest := [(.ref ts)]) rfl hown (own_w hw 8 rfl) (own_w hw 9 rfl) (own_w hw 7 rfl) (own_w hw 10 rfl) (rmI l Z a0 hw ts q0 t h20 n0 A20 f21 f22 g_ts ht) e20 (g := (mkF m 74 #[.val (.long q0), .second, .val (.long q1), .second, .val (.long q2), .second, .val (.int md), .val (.long t), .second, .val (.long na), .second, .unset, .unset, .unset, .unset, .unset, .unset, .unset, .unset, .unset, .unset] [(.long t), (.long q0), (.ref ts), (.ref ts)])) rfl (by rw [hml]; rfl) (lenOf own_pd0 rfl) rfl (by show 2 * 0 + _ ≤ _; exact Nat.le_of_eq rfl) (hb hby at_74) (by decide) (by decide) (by decide) (by decide)
  obtain ⟨rfl, N23, EE23, FO23, FT23⟩ := hQ23
  have fr23 := Fr.app N0 N23
  refine own_st (st23) ?_
  show OFin p e below s _ _ _ (T23.setTop (mkF m 77 #[.val (.long q0), .second, .val (.long q1), .second, .val (.long q2), .second, .val (.int md), .val (.long t), .second, .val (.long na), .second, .unset, .unset, .unset, .unset, .unset, .unset, .unset, .unset, .unset, .unset] [(.ref ts)]))
  refine own_st (fun _ kS => XS.astore X23.here hx rfl (hb hby at_77) rfl rfl (l' := #[.val (.long q0), .second, .val (.long q1), .second, .val (.long q2), .second, .val (.int md), .val (.long t), .second, .val (.long na), .second, .val (.ref ts), .unset, .unset, .unset, .unset, .unset, .unset, .unset, .unset, .unset]) rfl kS) ?_
  show OFin p e below s _ _ _ (T23.setTop (mkF m 79 #[.val (.long q0), .second, .val (.long q1), .second, .val (.long q2), .second, .val (.int md), .val (.long t), .second, .val (.long na), .second, .val (.ref ts), .unset, .unset, .unset, .unset, .unset, .unset, .unset, .unset, .unset] []))
  refine own_st (fun _ kS => XS.aload X23.here hx rfl (hb hby at_79) rfl rfl kS) ?_
  show OFin p e below s _ _ _ (T23.setTop (mkF m 81 #[.val (.long q0), .second, .val (.long q1), .second, .val (.long q2), .second, .val (.int md), .val (.long t), .second, .val (.long na), .second, .val (.ref ts), .unset, .unset, .unset, .unset, .unset, .unset, .unset, .unset, .unset] [(.ref ts)]))
  refine own_st (fun _ kS => XS.lload X23.here hx rfl (hb hby at_81) rfl kS) ?_
  show OFin p e below s _ _ _ (T23.setTop (mkF m 83 #[.val (.long q0), .second, .val (.long q1), .second, .val (.long q2), .second, .val (.int md), .val (.long t), .second, .val (.long na), .second, .val (.ref ts), .unset, .unset, .unset, .unset, .unset, .unset, .unset, .unset, .unset] [(.long na), (.ref ts)]))
  obtain ⟨v24, T24, L24, X24, hQ24, st24⟩ := own_virtual X23 hx hZ (y := (⟨"com/example/epicycle/epicycle/TickScale", "tickAtOrAfter", "(J)J"⟩ : MethodName)) (z := (⟨"com/example/epicycle/epicycle/TickScale", "tickAtOrAfter", "(J)J"⟩ : MethodName)) (rm := ⟨0, 0, 0, 0⟩) (W := 0) (a := ts) (argsL := [(.long na)]) (rest := []) hown (own_w hw 18 rfl) (own_w hw 19 rfl) (notFace_of_selects (args := #[]) (mvT hZ (own_w hw 21 rfl))) (own_w hw 21 rfl) (own_w hw 20 rfl) (own_w hw 7 rfl) (own_w hw 22 rfl) (rmT l Z a0 hw ts na T23.heap q0 t FO23 FT23 ht) rfl EE23 (g := (mkF m 83 #[.val (.long q0), .second, .val (.long q1), .second, .val (.long q2), .second, .val (.int md), .val (.long t), .second, .val (.long na), .second, .val (.ref ts), .unset, .unset, .unset, .unset, .unset, .unset, .unset, .unset, .unset] [(.long na), (.ref ts)])) rfl (by rw [hml]; rfl) (lenOf own_pd1 rfl) rfl (by show 2 * 0 + _ ≤ _; exact Nat.le_of_eq rfl) (hb hby at_83) (by decide) (by decide) (by decide) (by decide)
  obtain ⟨rfl, e24, rfl⟩ := hQ24
  rw [List.append_nil] at X24
  refine own_st (st24) ?_
  show OFin p e below s _ _ _ (T24.setTop (mkF m 86 #[.val (.long q0), .second, .val (.long q1), .second, .val (.long q2), .second, .val (.int md), .val (.long t), .second, .val (.long na), .second, .val (.ref ts), .unset, .unset, .unset, .unset, .unset, .unset, .unset, .unset, .unset] [(.long (own_tick (na - q0) t))]))
  refine own_st (fun _ kS => XS.lstore X24.here hx rfl (hb hby at_86) rfl (l' := #[.val (.long q0), .second, .val (.long q1), .second, .val (.long q2), .second, .val (.int md), .val (.long t), .second, .val (.long na), .second, .val (.ref ts), .val (.long (own_tick (na - q0) t)), .second, .unset, .unset, .unset, .unset, .unset, .unset, .unset]) rfl kS) ?_
  show OFin p e below s _ _ _ (T24.setTop (mkF m 88 #[.val (.long q0), .second, .val (.long q1), .second, .val (.long q2), .second, .val (.int md), .val (.long t), .second, .val (.long na), .second, .val (.ref ts), .val (.long (own_tick (na - q0) t)), .second, .unset, .unset, .unset, .unset, .unset, .unset, .unset] []))
  refine own_st (fun _ kS => XS.lload X24.here hx rfl (hb hby at_88) rfl kS) ?_
  show OFin p e below s _ _ _ (T24.setTop (mkF m 90 #[.val (.long q0), .second, .val (.long q1), .second, .val (.long q2), .second, .val (.int md), .val (.long t), .second, .val (.long na), .second, .val (.ref ts), .val (.long (own_tick (na - q0) t)), .second, .unset, .unset, .unset, .unset, .unset, .unset, .unset] [(.long na)]))
  refine own_st (fun _ kS => XS.lloadN X24.here hx rfl (hb hby at_90) rfl kS) ?_
  show OFin p e below s _ _ _ (T24.setTop (mkF m 91 #[.val (.long q0), .second, .val (.long q1), .second, .val (.long q2), .second, .val (.int md), .val (.long t), .second, .val (.long na), .second, .val (.ref ts), .val (.long (own_tick (na - q0) t)), .second, .unset, .unset, .unset, .unset, .unset, .unset, .unset] [(.long q0), (.long na)]))
  refine own_st (fun _ kS => XS.lsub X24.here hx rfl (hb hby at_91) rfl kS) ?_
  show OFin p e below s _ _ _ (T24.setTop (mkF m 92 #[.val (.long q0), .second, .val (.long q1), .second, .val (.long q2), .second, .val (.int md), .val (.long t), .second, .val (.long na), .second, .val (.ref ts), .val (.long (own_tick (na - q0) t)), .second, .unset, .unset, .unset, .unset, .unset, .unset, .unset] [(.long (na - q0))]))
  refine own_st (fun _ kS => XS.lstore X24.here hx rfl (hb hby at_92) rfl (l' := #[.val (.long q0), .second, .val (.long q1), .second, .val (.long q2), .second, .val (.int md), .val (.long t), .second, .val (.long na), .second, .val (.ref ts), .val (.long (own_tick (na - q0) t)), .second, .val (.long (na - q0)), .second, .unset, .unset, .unset, .unset, .unset]) rfl kS) ?_
  show OFin p e below s _ _ _ (T24.setTop (mkF m 94 #[.val (.long q0), .second, .val (.long q1), .second, .val (.long q2), .second, .val (.int md), .val (.long t), .second, .val (.long na), .second, .val (.ref ts), .val (.long (own_tick (na - q0) t)), .second, .val (.long (na - q0)), .second, .unset, .unset, .unset, .unset, .unset] []))
  obtain ⟨o1, o2, o3⟩ := own_law (s := na - q0) ht
  generalize own_tick (na - q0) t = k at o1 o2 o3 ⊢
  show OFin p e below s _ _ _ (T24.setTop (mkF m 94 #[.val (.long q0), .second, .val (.long q1), .second, .val (.long q2), .second, .val (.int md), .val (.long t), .second, .val (.long na), .second, .val (.ref ts), .val (.long k), .second, .val (.long (na - q0)), .second, .unset, .unset, .unset, .unset, .unset] []))
  refine own_st (fun _ kS => XS.lload X24.here hx rfl (hb hby at_94) rfl kS) ?_
  show OFin p e below s _ _ _ (T24.setTop (mkF m 96 #[.val (.long q0), .second, .val (.long q1), .second, .val (.long q2), .second, .val (.int md), .val (.long t), .second, .val (.long na), .second, .val (.ref ts), .val (.long k), .second, .val (.long (na - q0)), .second, .unset, .unset, .unset, .unset, .unset] [(.long (na - q0))]))
  refine own_st (fun _ kS => XS.lload X24.here hx rfl (hb hby at_96) rfl kS) ?_
  show OFin p e below s _ _ _ (T24.setTop (mkF m 98 #[.val (.long q0), .second, .val (.long q1), .second, .val (.long q2), .second, .val (.int md), .val (.long t), .second, .val (.long na), .second, .val (.ref ts), .val (.long k), .second, .val (.long (na - q0)), .second, .unset, .unset, .unset, .unset, .unset] [(.long t), (.long (na - q0))]))
  refine own_st (fun _ kS => XS.ldiv X24.here hx rfl (hb hby at_98) rfl (own_nz ht) kS) ?_
  show OFin p e below s _ _ _ (T24.setTop (mkF m 99 #[.val (.long q0), .second, .val (.long q1), .second, .val (.long q2), .second, .val (.int md), .val (.long t), .second, .val (.long na), .second, .val (.ref ts), .val (.long k), .second, .val (.long (na - q0)), .second, .unset, .unset, .unset, .unset, .unset] [(.long ((na - q0) / t))]))
  refine own_st (fun _ kS => XS.lstore X24.here hx rfl (hb hby at_99) rfl (l' := #[.val (.long q0), .second, .val (.long q1), .second, .val (.long q2), .second, .val (.int md), .val (.long t), .second, .val (.long na), .second, .val (.ref ts), .val (.long k), .second, .val (.long (na - q0)), .second, .val (.long ((na - q0) / t)), .second, .unset, .unset, .unset]) rfl kS) ?_
  show OFin p e below s _ _ _ (T24.setTop (mkF m 101 #[.val (.long q0), .second, .val (.long q1), .second, .val (.long q2), .second, .val (.int md), .val (.long t), .second, .val (.long na), .second, .val (.ref ts), .val (.long k), .second, .val (.long (na - q0)), .second, .val (.long ((na - q0) / t)), .second, .unset, .unset, .unset] []))
  refine own_st (fun _ kS => XS.lload X24.here hx rfl (hb hby at_101) rfl kS) ?_
  show OFin p e below s _ _ _ (T24.setTop (mkF m 103 #[.val (.long q0), .second, .val (.long q1), .second, .val (.long q2), .second, .val (.int md), .val (.long t), .second, .val (.long na), .second, .val (.ref ts), .val (.long k), .second, .val (.long (na - q0)), .second, .val (.long ((na - q0) / t)), .second, .unset, .unset, .unset] [(.long k)]))
  refine own_st (fun _ kS => XS.lload X24.here hx rfl (hb hby at_103) rfl kS) ?_
  show OFin p e below s _ _ _ (T24.setTop (mkF m 105 #[.val (.long q0), .second, .val (.long q1), .second, .val (.long q2), .second, .val (.int md), .val (.long t), .second, .val (.long na), .second, .val (.ref ts), .val (.long k), .second, .val (.long (na - q0)), .second, .val (.long ((na - q0) / t)), .second, .unset, .unset, .unset] [(.long ((na - q0) / t)), (.long k)]))
  refine own_st (fun _ kS => XS.lcmp X24.here hx rfl (hb hby at_105) rfl kS) ?_
  show OFin p e below s _ _ _ (T24.setTop (mkF m 106 #[.val (.long q0), .second, .val (.long q1), .second, .val (.long q2), .second, .val (.int md), .val (.long t), .second, .val (.long na), .second, .val (.ref ts), .val (.long k), .second, .val (.long (na - q0)), .second, .val (.long ((na - q0) / t)), .second, .unset, .unset, .unset] [(.int (lcmpW k ((na - q0) / t)))]))
  rcases o1 with o1 | ⟨o1, o4⟩
  · refine own_st (fun _ kS => XS.ifYes X24.here hx rfl (pc0 := 106) (pc' := 119) rfl (hb hby at_106) rfl ((if0 _ _).trans (teq (own_lc0 _ _ o1)).1) (by decide) (by decide) kS) ?_
    show OFin p e below s _ _ _ (T24.setTop (mkF m 119 #[.val (.long q0), .second, .val (.long q1), .second, .val (.long q2), .second, .val (.int md), .val (.long t), .second, .val (.long na), .second, .val (.ref ts), .val (.long k), .second, .val (.long (na - q0)), .second, .val (.long ((na - q0) / t)), .second, .unset, .unset, .unset] []))
    refine own_st (fun _ kS => XS.iconst X24.here hx rfl (hb hby at_119) kS) ?_
    show OFin p e below s _ _ _ (T24.setTop (mkF m 120 #[.val (.long q0), .second, .val (.long q1), .second, .val (.long q2), .second, .val (.int md), .val (.long t), .second, .val (.long na), .second, .val (.ref ts), .val (.long k), .second, .val (.long (na - q0)), .second, .val (.long ((na - q0) / t)), .second, .unset, .unset, .unset] [(.int (1 : Int32))]))
    refine own_st (fun _ kS => XS.goto X24.here hx rfl (pc0 := 120) (pc' := 124) rfl (hb hby at_120) (by decide) (by decide) kS) ?_
    show OFin p e below s _ _ _ (T24.setTop (mkF m 124 #[.val (.long q0), .second, .val (.long q1), .second, .val (.long q2), .second, .val (.int md), .val (.long t), .second, .val (.long na), .second, .val (.ref ts), .val (.long k), .second, .val (.long (na - q0)), .second, .val (.long ((na - q0) / t)), .second, .unset, .unset, .unset] [(.int (1 : Int32))]))
    refine own_st (fun _ kS => XS.istore X24.here hx rfl (hb hby at_124) rfl (l' := #[.val (.long q0), .second, .val (.long q1), .second, .val (.long q2), .second, .val (.int md), .val (.long t), .second, .val (.long na), .second, .val (.ref ts), .val (.long k), .second, .val (.long (na - q0)), .second, .val (.long ((na - q0) / t)), .second, .val (.int (1 : Int32)), .unset, .unset]) rfl kS) ?_
    show OFin p e below s _ _ _ (T24.setTop (mkF m 126 #[.val (.long q0), .second, .val (.long q1), .second, .val (.long q2), .second, .val (.int md), .val (.long t), .second, .val (.long na), .second, .val (.ref ts), .val (.long k), .second, .val (.long (na - q0)), .second, .val (.long ((na - q0) / t)), .second, .val (.int (1 : Int32)), .unset, .unset] []))
    refine own_st (fun _ kS => XS.lload X24.here hx rfl (hb hby at_126) rfl kS) ?_
    show OFin p e below s _ _ _ (T24.setTop (mkF m 128 #[.val (.long q0), .second, .val (.long q1), .second, .val (.long q2), .second, .val (.int md), .val (.long t), .second, .val (.long na), .second, .val (.ref ts), .val (.long k), .second, .val (.long (na - q0)), .second, .val (.long ((na - q0) / t)), .second, .val (.int (1 : Int32)), .unset, .unset] [(.long k)]))
    refine own_st (fun _ kS => XS.lload X24.here hx rfl (hb hby at_128) rfl kS) ?_
    show OFin p e below s _ _ _ (T24.setTop (mkF m 130 #[.val (.long q0), .second, .val (.long q1), .second, .val (.long q2), .second, .val (.int md), .val (.long t), .second, .val (.long na), .second, .val (.ref ts), .val (.long k), .second, .val (.long (na - q0)), .second, .val (.long ((na - q0) / t)), .second, .val (.int (1 : Int32)), .unset, .unset] [(.long t), (.long k)]))
    refine own_st (fun _ kS => XS.lmul X24.here hx rfl (hb hby at_130) rfl kS) ?_
    show OFin p e below s _ _ _ (T24.setTop (mkF m 131 #[.val (.long q0), .second, .val (.long q1), .second, .val (.long q2), .second, .val (.int md), .val (.long t), .second, .val (.long na), .second, .val (.ref ts), .val (.long k), .second, .val (.long (na - q0)), .second, .val (.long ((na - q0) / t)), .second, .val (.int (1 : Int32)), .unset, .unset] [(.long (k * t))]))
    refine own_st (fun _ kS => XS.lload X24.here hx rfl (hb hby at_131) rfl kS) ?_
    show OFin p e below s _ _ _ (T24.setTop (mkF m 133 #[.val (.long q0), .second, .val (.long q1), .second, .val (.long q2), .second, .val (.int md), .val (.long t), .second, .val (.long na), .second, .val (.ref ts), .val (.long k), .second, .val (.long (na - q0)), .second, .val (.long ((na - q0) / t)), .second, .val (.int (1 : Int32)), .unset, .unset] [(.long (na - q0)), (.long (k * t))]))
    refine own_st (fun _ kS => XS.lsub X24.here hx rfl (hb hby at_133) rfl kS) ?_
    show OFin p e below s _ _ _ (T24.setTop (mkF m 134 #[.val (.long q0), .second, .val (.long q1), .second, .val (.long q2), .second, .val (.int md), .val (.long t), .second, .val (.long na), .second, .val (.ref ts), .val (.long k), .second, .val (.long (na - q0)), .second, .val (.long ((na - q0) / t)), .second, .val (.int (1 : Int32)), .unset, .unset] [(.long ((k * t) - (na - q0)))]))
    refine own_st (fun _ kS => XS.lstore X24.here hx rfl (hb hby at_134) rfl (l' := #[.val (.long q0), .second, .val (.long q1), .second, .val (.long q2), .second, .val (.int md), .val (.long t), .second, .val (.long na), .second, .val (.ref ts), .val (.long k), .second, .val (.long (na - q0)), .second, .val (.long ((na - q0) / t)), .second, .val (.int (1 : Int32)), .val (.long ((k * t) - (na - q0))), .second]) rfl kS) ?_
    show OFin p e below s _ _ _ (T24.setTop (mkF m 136 #[.val (.long q0), .second, .val (.long q1), .second, .val (.long q2), .second, .val (.int md), .val (.long t), .second, .val (.long na), .second, .val (.ref ts), .val (.long k), .second, .val (.long (na - q0)), .second, .val (.long ((na - q0) / t)), .second, .val (.int (1 : Int32)), .val (.long ((k * t) - (na - q0))), .second] []))
    refine own_st (fun _ kS => XS.iload X24.here hx rfl (hb hby at_136) rfl kS) ?_
    show OFin p e below s _ _ _ (T24.setTop (mkF m 138 #[.val (.long q0), .second, .val (.long q1), .second, .val (.long q2), .second, .val (.int md), .val (.long t), .second, .val (.long na), .second, .val (.ref ts), .val (.long k), .second, .val (.long (na - q0)), .second, .val (.long ((na - q0) / t)), .second, .val (.int (1 : Int32)), .val (.long ((k * t) - (na - q0))), .second] [(.int (1 : Int32))]))
    refine own_st (fun _ kS => XS.ifNo X24.here hx rfl (hb hby at_138) rfl ((if0 _ _).trans (feq (by decide)).1) kS) ?_
    show OFin p e below s _ _ _ (T24.setTop (mkF m 141 #[.val (.long q0), .second, .val (.long q1), .second, .val (.long q2), .second, .val (.int md), .val (.long t), .second, .val (.long na), .second, .val (.ref ts), .val (.long k), .second, .val (.long (na - q0)), .second, .val (.long ((na - q0) / t)), .second, .val (.int (1 : Int32)), .val (.long ((k * t) - (na - q0))), .second] []))
    refine own_st (fun _ kS => XS.lload X24.here hx rfl (hb hby at_141) rfl kS) ?_
    show OFin p e below s _ _ _ (T24.setTop (mkF m 143 #[.val (.long q0), .second, .val (.long q1), .second, .val (.long q2), .second, .val (.int md), .val (.long t), .second, .val (.long na), .second, .val (.ref ts), .val (.long k), .second, .val (.long (na - q0)), .second, .val (.long ((na - q0) / t)), .second, .val (.int (1 : Int32)), .val (.long ((k * t) - (na - q0))), .second] [(.long ((k * t) - (na - q0)))]))
    refine own_st (fun _ kS => XS.lconst X24.here hx rfl (hb hby at_143) kS) ?_
    show OFin p e below s _ _ _ (T24.setTop (mkF m 144 #[.val (.long q0), .second, .val (.long q1), .second, .val (.long q2), .second, .val (.int md), .val (.long t), .second, .val (.long na), .second, .val (.ref ts), .val (.long k), .second, .val (.long (na - q0)), .second, .val (.long ((na - q0) / t)), .second, .val (.int (1 : Int32)), .val (.long ((k * t) - (na - q0))), .second] [(.long (0 : Int64)), (.long ((k * t) - (na - q0)))]))
    refine own_st (fun _ kS => XS.lcmp X24.here hx rfl (hb hby at_144) rfl kS) ?_
    show OFin p e below s _ _ _ (T24.setTop (mkF m 145 #[.val (.long q0), .second, .val (.long q1), .second, .val (.long q2), .second, .val (.int md), .val (.long t), .second, .val (.long na), .second, .val (.ref ts), .val (.long k), .second, .val (.long (na - q0)), .second, .val (.long ((na - q0) / t)), .second, .val (.int (1 : Int32)), .val (.long ((k * t) - (na - q0))), .second] [(.int (lcmpW ((k * t) - (na - q0)) (0 : Int64)))]))
    refine own_st (fun _ kS => XS.ifNo X24.here hx rfl (hb hby at_145) rfl ((if0 _ _).trans (flt o2).1) kS) ?_
    show OFin p e below s _ _ _ (T24.setTop (mkF m 148 #[.val (.long q0), .second, .val (.long q1), .second, .val (.long q2), .second, .val (.int md), .val (.long t), .second, .val (.long na), .second, .val (.ref ts), .val (.long k), .second, .val (.long (na - q0)), .second, .val (.long ((na - q0) / t)), .second, .val (.int (1 : Int32)), .val (.long ((k * t) - (na - q0))), .second] []))
    refine own_st (fun _ kS => XS.lload X24.here hx rfl (hb hby at_148) rfl kS) ?_
    show OFin p e below s _ _ _ (T24.setTop (mkF m 150 #[.val (.long q0), .second, .val (.long q1), .second, .val (.long q2), .second, .val (.int md), .val (.long t), .second, .val (.long na), .second, .val (.ref ts), .val (.long k), .second, .val (.long (na - q0)), .second, .val (.long ((na - q0) / t)), .second, .val (.int (1 : Int32)), .val (.long ((k * t) - (na - q0))), .second] [(.long ((k * t) - (na - q0)))]))
    refine own_st (fun _ kS => XS.lload X24.here hx rfl (hb hby at_150) rfl kS) ?_
    show OFin p e below s _ _ _ (T24.setTop (mkF m 152 #[.val (.long q0), .second, .val (.long q1), .second, .val (.long q2), .second, .val (.int md), .val (.long t), .second, .val (.long na), .second, .val (.ref ts), .val (.long k), .second, .val (.long (na - q0)), .second, .val (.long ((na - q0) / t)), .second, .val (.int (1 : Int32)), .val (.long ((k * t) - (na - q0))), .second] [(.long t), (.long ((k * t) - (na - q0)))]))
    refine own_st (fun _ kS => XS.lcmp X24.here hx rfl (hb hby at_152) rfl kS) ?_
    show OFin p e below s _ _ _ (T24.setTop (mkF m 153 #[.val (.long q0), .second, .val (.long q1), .second, .val (.long q2), .second, .val (.int md), .val (.long t), .second, .val (.long na), .second, .val (.ref ts), .val (.long k), .second, .val (.long (na - q0)), .second, .val (.long ((na - q0) / t)), .second, .val (.int (1 : Int32)), .val (.long ((k * t) - (na - q0))), .second] [(.int (lcmpW ((k * t) - (na - q0)) t))]))
    refine own_st (fun _ kS => XS.ifNo X24.here hx rfl (hb hby at_153) rfl ((if0 _ _).trans (tlt o3).2.1) kS) ?_
    show OFin p e below s _ _ _ (T24.setTop (mkF m 156 #[.val (.long q0), .second, .val (.long q1), .second, .val (.long q2), .second, .val (.int md), .val (.long t), .second, .val (.long na), .second, .val (.ref ts), .val (.long k), .second, .val (.long (na - q0)), .second, .val (.long ((na - q0) / t)), .second, .val (.int (1 : Int32)), .val (.long ((k * t) - (na - q0))), .second] []))
    refine own_st (fun _ kS => XS.iconst X24.here hx rfl (hb hby at_156) kS) ?_
    show OFin p e below s _ _ _ (T24.setTop (mkF m 157 #[.val (.long q0), .second, .val (.long q1), .second, .val (.long q2), .second, .val (.int md), .val (.long t), .second, .val (.long na), .second, .val (.ref ts), .val (.long k), .second, .val (.long (na - q0)), .second, .val (.long ((na - q0) / t)), .second, .val (.int (1 : Int32)), .val (.long ((k * t) - (na - q0))), .second] [(.int (1 : Int32))]))
    refine own_st (fun _ kS => XS.goto X24.here hx rfl (pc0 := 157) (pc' := 161) rfl (hb hby at_157) (by decide) (by decide) kS) ?_
    show OFin p e below s _ _ _ (T24.setTop (mkF m 161 #[.val (.long q0), .second, .val (.long q1), .second, .val (.long q2), .second, .val (.int md), .val (.long t), .second, .val (.long na), .second, .val (.ref ts), .val (.long k), .second, .val (.long (na - q0)), .second, .val (.long ((na - q0) / t)), .second, .val (.int (1 : Int32)), .val (.long ((k * t) - (na - q0))), .second] [(.int (1 : Int32))]))
    exact own_ret X24 hx (t := .boolean) hret hlk rfl (Or.inl ⟨rfl, by simp, _, rfl⟩) (hb hby at_161) (by decide) (by decide) ⟨rfl, fr23⟩
  · refine own_st (fun _ kS => XS.ifNo X24.here hx rfl (hb hby at_106) rfl ((if0 _ _).trans (feq (own_lc1 _ _ o1)).1) kS) ?_
    show OFin p e below s _ _ _ (T24.setTop (mkF m 109 #[.val (.long q0), .second, .val (.long q1), .second, .val (.long q2), .second, .val (.int md), .val (.long t), .second, .val (.long na), .second, .val (.ref ts), .val (.long k), .second, .val (.long (na - q0)), .second, .val (.long ((na - q0) / t)), .second, .unset, .unset, .unset] []))
    refine own_st (fun _ kS => XS.lload X24.here hx rfl (hb hby at_109) rfl kS) ?_
    show OFin p e below s _ _ _ (T24.setTop (mkF m 111 #[.val (.long q0), .second, .val (.long q1), .second, .val (.long q2), .second, .val (.int md), .val (.long t), .second, .val (.long na), .second, .val (.ref ts), .val (.long k), .second, .val (.long (na - q0)), .second, .val (.long ((na - q0) / t)), .second, .unset, .unset, .unset] [(.long k)]))
    refine own_st (fun _ kS => XS.lload X24.here hx rfl (hb hby at_111) rfl kS) ?_
    show OFin p e below s _ _ _ (T24.setTop (mkF m 113 #[.val (.long q0), .second, .val (.long q1), .second, .val (.long q2), .second, .val (.int md), .val (.long t), .second, .val (.long na), .second, .val (.ref ts), .val (.long k), .second, .val (.long (na - q0)), .second, .val (.long ((na - q0) / t)), .second, .unset, .unset, .unset] [(.long ((na - q0) / t)), (.long k)]))
    refine own_st (fun _ kS => XS.lconst X24.here hx rfl (hb hby at_113) kS) ?_
    show OFin p e below s _ _ _ (T24.setTop (mkF m 114 #[.val (.long q0), .second, .val (.long q1), .second, .val (.long q2), .second, .val (.int md), .val (.long t), .second, .val (.long na), .second, .val (.ref ts), .val (.long k), .second, .val (.long (na - q0)), .second, .val (.long ((na - q0) / t)), .second, .unset, .unset, .unset] [(.long (1 : Int64)), (.long ((na - q0) / t)), (.long k)]))
    refine own_st (fun _ kS => XS.ladd X24.here hx rfl (hb hby at_114) rfl kS) ?_
    show OFin p e below s _ _ _ (T24.setTop (mkF m 115 #[.val (.long q0), .second, .val (.long q1), .second, .val (.long q2), .second, .val (.int md), .val (.long t), .second, .val (.long na), .second, .val (.ref ts), .val (.long k), .second, .val (.long (na - q0)), .second, .val (.long ((na - q0) / t)), .second, .unset, .unset, .unset] [(.long (((na - q0) / t) + (1 : Int64))), (.long k)]))
    refine own_st (fun _ kS => XS.lcmp X24.here hx rfl (hb hby at_115) rfl kS) ?_
    show OFin p e below s _ _ _ (T24.setTop (mkF m 116 #[.val (.long q0), .second, .val (.long q1), .second, .val (.long q2), .second, .val (.int md), .val (.long t), .second, .val (.long na), .second, .val (.ref ts), .val (.long k), .second, .val (.long (na - q0)), .second, .val (.long ((na - q0) / t)), .second, .unset, .unset, .unset] [(.int (lcmpW k (((na - q0) / t) + (1 : Int64))))]))
    refine own_st (fun _ kS => XS.ifNo X24.here hx rfl (hb hby at_116) rfl ((if0 _ _).trans (teq (own_lc0 _ _ o4)).2) kS) ?_
    show OFin p e below s _ _ _ (T24.setTop (mkF m 119 #[.val (.long q0), .second, .val (.long q1), .second, .val (.long q2), .second, .val (.int md), .val (.long t), .second, .val (.long na), .second, .val (.ref ts), .val (.long k), .second, .val (.long (na - q0)), .second, .val (.long ((na - q0) / t)), .second, .unset, .unset, .unset] []))
    refine own_st (fun _ kS => XS.iconst X24.here hx rfl (hb hby at_119) kS) ?_
    show OFin p e below s _ _ _ (T24.setTop (mkF m 120 #[.val (.long q0), .second, .val (.long q1), .second, .val (.long q2), .second, .val (.int md), .val (.long t), .second, .val (.long na), .second, .val (.ref ts), .val (.long k), .second, .val (.long (na - q0)), .second, .val (.long ((na - q0) / t)), .second, .unset, .unset, .unset] [(.int (1 : Int32))]))
    refine own_st (fun _ kS => XS.goto X24.here hx rfl (pc0 := 120) (pc' := 124) rfl (hb hby at_120) (by decide) (by decide) kS) ?_
    show OFin p e below s _ _ _ (T24.setTop (mkF m 124 #[.val (.long q0), .second, .val (.long q1), .second, .val (.long q2), .second, .val (.int md), .val (.long t), .second, .val (.long na), .second, .val (.ref ts), .val (.long k), .second, .val (.long (na - q0)), .second, .val (.long ((na - q0) / t)), .second, .unset, .unset, .unset] [(.int (1 : Int32))]))
    refine own_st (fun _ kS => XS.istore X24.here hx rfl (hb hby at_124) rfl (l' := #[.val (.long q0), .second, .val (.long q1), .second, .val (.long q2), .second, .val (.int md), .val (.long t), .second, .val (.long na), .second, .val (.ref ts), .val (.long k), .second, .val (.long (na - q0)), .second, .val (.long ((na - q0) / t)), .second, .val (.int (1 : Int32)), .unset, .unset]) rfl kS) ?_
    show OFin p e below s _ _ _ (T24.setTop (mkF m 126 #[.val (.long q0), .second, .val (.long q1), .second, .val (.long q2), .second, .val (.int md), .val (.long t), .second, .val (.long na), .second, .val (.ref ts), .val (.long k), .second, .val (.long (na - q0)), .second, .val (.long ((na - q0) / t)), .second, .val (.int (1 : Int32)), .unset, .unset] []))
    refine own_st (fun _ kS => XS.lload X24.here hx rfl (hb hby at_126) rfl kS) ?_
    show OFin p e below s _ _ _ (T24.setTop (mkF m 128 #[.val (.long q0), .second, .val (.long q1), .second, .val (.long q2), .second, .val (.int md), .val (.long t), .second, .val (.long na), .second, .val (.ref ts), .val (.long k), .second, .val (.long (na - q0)), .second, .val (.long ((na - q0) / t)), .second, .val (.int (1 : Int32)), .unset, .unset] [(.long k)]))
    refine own_st (fun _ kS => XS.lload X24.here hx rfl (hb hby at_128) rfl kS) ?_
    show OFin p e below s _ _ _ (T24.setTop (mkF m 130 #[.val (.long q0), .second, .val (.long q1), .second, .val (.long q2), .second, .val (.int md), .val (.long t), .second, .val (.long na), .second, .val (.ref ts), .val (.long k), .second, .val (.long (na - q0)), .second, .val (.long ((na - q0) / t)), .second, .val (.int (1 : Int32)), .unset, .unset] [(.long t), (.long k)]))
    refine own_st (fun _ kS => XS.lmul X24.here hx rfl (hb hby at_130) rfl kS) ?_
    show OFin p e below s _ _ _ (T24.setTop (mkF m 131 #[.val (.long q0), .second, .val (.long q1), .second, .val (.long q2), .second, .val (.int md), .val (.long t), .second, .val (.long na), .second, .val (.ref ts), .val (.long k), .second, .val (.long (na - q0)), .second, .val (.long ((na - q0) / t)), .second, .val (.int (1 : Int32)), .unset, .unset] [(.long (k * t))]))
    refine own_st (fun _ kS => XS.lload X24.here hx rfl (hb hby at_131) rfl kS) ?_
    show OFin p e below s _ _ _ (T24.setTop (mkF m 133 #[.val (.long q0), .second, .val (.long q1), .second, .val (.long q2), .second, .val (.int md), .val (.long t), .second, .val (.long na), .second, .val (.ref ts), .val (.long k), .second, .val (.long (na - q0)), .second, .val (.long ((na - q0) / t)), .second, .val (.int (1 : Int32)), .unset, .unset] [(.long (na - q0)), (.long (k * t))]))
    refine own_st (fun _ kS => XS.lsub X24.here hx rfl (hb hby at_133) rfl kS) ?_
    show OFin p e below s _ _ _ (T24.setTop (mkF m 134 #[.val (.long q0), .second, .val (.long q1), .second, .val (.long q2), .second, .val (.int md), .val (.long t), .second, .val (.long na), .second, .val (.ref ts), .val (.long k), .second, .val (.long (na - q0)), .second, .val (.long ((na - q0) / t)), .second, .val (.int (1 : Int32)), .unset, .unset] [(.long ((k * t) - (na - q0)))]))
    refine own_st (fun _ kS => XS.lstore X24.here hx rfl (hb hby at_134) rfl (l' := #[.val (.long q0), .second, .val (.long q1), .second, .val (.long q2), .second, .val (.int md), .val (.long t), .second, .val (.long na), .second, .val (.ref ts), .val (.long k), .second, .val (.long (na - q0)), .second, .val (.long ((na - q0) / t)), .second, .val (.int (1 : Int32)), .val (.long ((k * t) - (na - q0))), .second]) rfl kS) ?_
    show OFin p e below s _ _ _ (T24.setTop (mkF m 136 #[.val (.long q0), .second, .val (.long q1), .second, .val (.long q2), .second, .val (.int md), .val (.long t), .second, .val (.long na), .second, .val (.ref ts), .val (.long k), .second, .val (.long (na - q0)), .second, .val (.long ((na - q0) / t)), .second, .val (.int (1 : Int32)), .val (.long ((k * t) - (na - q0))), .second] []))
    refine own_st (fun _ kS => XS.iload X24.here hx rfl (hb hby at_136) rfl kS) ?_
    show OFin p e below s _ _ _ (T24.setTop (mkF m 138 #[.val (.long q0), .second, .val (.long q1), .second, .val (.long q2), .second, .val (.int md), .val (.long t), .second, .val (.long na), .second, .val (.ref ts), .val (.long k), .second, .val (.long (na - q0)), .second, .val (.long ((na - q0) / t)), .second, .val (.int (1 : Int32)), .val (.long ((k * t) - (na - q0))), .second] [(.int (1 : Int32))]))
    refine own_st (fun _ kS => XS.ifNo X24.here hx rfl (hb hby at_138) rfl ((if0 _ _).trans (feq (by decide)).1) kS) ?_
    show OFin p e below s _ _ _ (T24.setTop (mkF m 141 #[.val (.long q0), .second, .val (.long q1), .second, .val (.long q2), .second, .val (.int md), .val (.long t), .second, .val (.long na), .second, .val (.ref ts), .val (.long k), .second, .val (.long (na - q0)), .second, .val (.long ((na - q0) / t)), .second, .val (.int (1 : Int32)), .val (.long ((k * t) - (na - q0))), .second] []))
    refine own_st (fun _ kS => XS.lload X24.here hx rfl (hb hby at_141) rfl kS) ?_
    show OFin p e below s _ _ _ (T24.setTop (mkF m 143 #[.val (.long q0), .second, .val (.long q1), .second, .val (.long q2), .second, .val (.int md), .val (.long t), .second, .val (.long na), .second, .val (.ref ts), .val (.long k), .second, .val (.long (na - q0)), .second, .val (.long ((na - q0) / t)), .second, .val (.int (1 : Int32)), .val (.long ((k * t) - (na - q0))), .second] [(.long ((k * t) - (na - q0)))]))
    refine own_st (fun _ kS => XS.lconst X24.here hx rfl (hb hby at_143) kS) ?_
    show OFin p e below s _ _ _ (T24.setTop (mkF m 144 #[.val (.long q0), .second, .val (.long q1), .second, .val (.long q2), .second, .val (.int md), .val (.long t), .second, .val (.long na), .second, .val (.ref ts), .val (.long k), .second, .val (.long (na - q0)), .second, .val (.long ((na - q0) / t)), .second, .val (.int (1 : Int32)), .val (.long ((k * t) - (na - q0))), .second] [(.long (0 : Int64)), (.long ((k * t) - (na - q0)))]))
    refine own_st (fun _ kS => XS.lcmp X24.here hx rfl (hb hby at_144) rfl kS) ?_
    show OFin p e below s _ _ _ (T24.setTop (mkF m 145 #[.val (.long q0), .second, .val (.long q1), .second, .val (.long q2), .second, .val (.int md), .val (.long t), .second, .val (.long na), .second, .val (.ref ts), .val (.long k), .second, .val (.long (na - q0)), .second, .val (.long ((na - q0) / t)), .second, .val (.int (1 : Int32)), .val (.long ((k * t) - (na - q0))), .second] [(.int (lcmpW ((k * t) - (na - q0)) (0 : Int64)))]))
    refine own_st (fun _ kS => XS.ifNo X24.here hx rfl (hb hby at_145) rfl ((if0 _ _).trans (flt o2).1) kS) ?_
    show OFin p e below s _ _ _ (T24.setTop (mkF m 148 #[.val (.long q0), .second, .val (.long q1), .second, .val (.long q2), .second, .val (.int md), .val (.long t), .second, .val (.long na), .second, .val (.ref ts), .val (.long k), .second, .val (.long (na - q0)), .second, .val (.long ((na - q0) / t)), .second, .val (.int (1 : Int32)), .val (.long ((k * t) - (na - q0))), .second] []))
    refine own_st (fun _ kS => XS.lload X24.here hx rfl (hb hby at_148) rfl kS) ?_
    show OFin p e below s _ _ _ (T24.setTop (mkF m 150 #[.val (.long q0), .second, .val (.long q1), .second, .val (.long q2), .second, .val (.int md), .val (.long t), .second, .val (.long na), .second, .val (.ref ts), .val (.long k), .second, .val (.long (na - q0)), .second, .val (.long ((na - q0) / t)), .second, .val (.int (1 : Int32)), .val (.long ((k * t) - (na - q0))), .second] [(.long ((k * t) - (na - q0)))]))
    refine own_st (fun _ kS => XS.lload X24.here hx rfl (hb hby at_150) rfl kS) ?_
    show OFin p e below s _ _ _ (T24.setTop (mkF m 152 #[.val (.long q0), .second, .val (.long q1), .second, .val (.long q2), .second, .val (.int md), .val (.long t), .second, .val (.long na), .second, .val (.ref ts), .val (.long k), .second, .val (.long (na - q0)), .second, .val (.long ((na - q0) / t)), .second, .val (.int (1 : Int32)), .val (.long ((k * t) - (na - q0))), .second] [(.long t), (.long ((k * t) - (na - q0)))]))
    refine own_st (fun _ kS => XS.lcmp X24.here hx rfl (hb hby at_152) rfl kS) ?_
    show OFin p e below s _ _ _ (T24.setTop (mkF m 153 #[.val (.long q0), .second, .val (.long q1), .second, .val (.long q2), .second, .val (.int md), .val (.long t), .second, .val (.long na), .second, .val (.ref ts), .val (.long k), .second, .val (.long (na - q0)), .second, .val (.long ((na - q0) / t)), .second, .val (.int (1 : Int32)), .val (.long ((k * t) - (na - q0))), .second] [(.int (lcmpW ((k * t) - (na - q0)) t))]))
    refine own_st (fun _ kS => XS.ifNo X24.here hx rfl (hb hby at_153) rfl ((if0 _ _).trans (tlt o3).2.1) kS) ?_
    show OFin p e below s _ _ _ (T24.setTop (mkF m 156 #[.val (.long q0), .second, .val (.long q1), .second, .val (.long q2), .second, .val (.int md), .val (.long t), .second, .val (.long na), .second, .val (.ref ts), .val (.long k), .second, .val (.long (na - q0)), .second, .val (.long ((na - q0) / t)), .second, .val (.int (1 : Int32)), .val (.long ((k * t) - (na - q0))), .second] []))
    refine own_st (fun _ kS => XS.iconst X24.here hx rfl (hb hby at_156) kS) ?_
    show OFin p e below s _ _ _ (T24.setTop (mkF m 157 #[.val (.long q0), .second, .val (.long q1), .second, .val (.long q2), .second, .val (.int md), .val (.long t), .second, .val (.long na), .second, .val (.ref ts), .val (.long k), .second, .val (.long (na - q0)), .second, .val (.long ((na - q0) / t)), .second, .val (.int (1 : Int32)), .val (.long ((k * t) - (na - q0))), .second] [(.int (1 : Int32))]))
    refine own_st (fun _ kS => XS.goto X24.here hx rfl (pc0 := 157) (pc' := 161) rfl (hb hby at_157) (by decide) (by decide) kS) ?_
    show OFin p e below s _ _ _ (T24.setTop (mkF m 161 #[.val (.long q0), .second, .val (.long q1), .second, .val (.long q2), .second, .val (.int md), .val (.long t), .second, .val (.long na), .second, .val (.ref ts), .val (.long k), .second, .val (.long (na - q0)), .second, .val (.long ((na - q0) / t)), .second, .val (.int (1 : Int32)), .val (.long ((k * t) - (na - q0))), .second] [(.int (1 : Int32))]))
    exact own_ret X24 hx (t := .boolean) hret hlk rfl (Or.inl ⟨rfl, by simp, _, rfl⟩) (hb hby at_161) (by decide) (by decide) ⟨rfl, fr23⟩
set_option maxRecDepth 65536 in
set_option maxHeartbeats 40000000 in
theorem p30 {l : Launch} {Z : State} {a0 : Array Value} (hw : ∀ d ∈ tables_1, d.before a0 Z = true) {p : Program} {e : Env} {s : State} {m : MethodId} {args : Array Value} {below : List Frame} {meth : Method} {c : Code} (hC : OCtx Z p s m meth c "com/example/epicycle/epicycle/TickScaleTickAtOrAfterPinLaw" "law" code maxLocals ret) {T0 : State} {locs : List Loc} {cells slots : Nat} (X0 : Stand p l e room_1 s m args below meth c T0 locs cells slots) {h0 : Heap} (e0 : T0.heap = h0) (n0 : Nat) (Z0 : n0 ≤ h0.size) (q0 q1 q2 : Int64) (md : Int32) (t : Int64) (ht : 0 < t.toInt) (N0 : Fr n0 locs) (hcs : cells = 0) (hss : slots = 0) :
    OFin p e below s room_1.cells room_1.slots (fun v h L => v = some (.int (1 : Int32)) ∧ Fr n0 L) (T0.setTop (mkF m 30 #[.val (.long q0), .second, .val (.long q1), .second, .val (.long q2), .second, .val (.int md), .val (.long t), .second, .unset, .unset, .unset, .unset, .unset, .unset, .unset, .unset, .unset, .unset, .unset, .unset] [])) := by
  have hC0 := hC
  obtain ⟨hx, hZ, hby, hml, hown, hret, hlk, hnm⟩ := hC
  refine own_st (fun _ kS => XS.iload X0.here hx rfl (hb hby at_30) rfl kS) ?_
  show OFin p e below s _ _ _ (T0.setTop (mkF m 32 #[.val (.long q0), .second, .val (.long q1), .second, .val (.long q2), .second, .val (.int md), .val (.long t), .second, .unset, .unset, .unset, .unset, .unset, .unset, .unset, .unset, .unset, .unset, .unset, .unset] [(.int md)]))
  refine own_st (fun _ kS => XS.iconst X0.here hx rfl (hb hby at_32) kS) ?_
  show OFin p e below s _ _ _ (T0.setTop (mkF m 33 #[.val (.long q0), .second, .val (.long q1), .second, .val (.long q2), .second, .val (.int md), .val (.long t), .second, .unset, .unset, .unset, .unset, .unset, .unset, .unset, .unset, .unset, .unset, .unset, .unset] [(.int (2 : Int32)), (.int md)]))
  refine own_st (fun _ kS => XS.iand X0.here hx rfl (hb hby at_33) rfl kS) ?_
  show OFin p e below s _ _ _ (T0.setTop (mkF m 34 #[.val (.long q0), .second, .val (.long q1), .second, .val (.long q2), .second, .val (.int md), .val (.long t), .second, .unset, .unset, .unset, .unset, .unset, .unset, .unset, .unset, .unset, .unset, .unset, .unset] [(.int (md &&& (2 : Int32)))]))
  by_cases c1 : (md &&& (2 : Int32)) = (0 : Int32)
  · refine own_st (fun _ kS => XS.ifYes X0.here hx rfl (pc0 := 34) (pc' := 63) rfl (hb hby at_34) rfl ((if0 _ _).trans (teq c1).1) (by decide) (by decide) kS) ?_
    show OFin p e below s _ _ _ (T0.setTop (mkF m 63 #[.val (.long q0), .second, .val (.long q1), .second, .val (.long q2), .second, .val (.int md), .val (.long t), .second, .unset, .unset, .unset, .unset, .unset, .unset, .unset, .unset, .unset, .unset, .unset, .unset] []))
    refine own_st (fun _ kS => XS.lload X0.here hx rfl (hb hby at_63) rfl kS) ?_
    show OFin p e below s _ _ _ (T0.setTop (mkF m 65 #[.val (.long q0), .second, .val (.long q1), .second, .val (.long q2), .second, .val (.int md), .val (.long t), .second, .unset, .unset, .unset, .unset, .unset, .unset, .unset, .unset, .unset, .unset, .unset, .unset] [(.long q2)]))
    refine own_st (fun _ kS => XS.lstore X0.here hx rfl (hb hby at_65) rfl (l' := #[.val (.long q0), .second, .val (.long q1), .second, .val (.long q2), .second, .val (.int md), .val (.long t), .second, .val (.long q2), .second, .unset, .unset, .unset, .unset, .unset, .unset, .unset, .unset, .unset, .unset]) rfl kS) ?_
    show OFin p e below s _ _ _ (T0.setTop (mkF m 67 #[.val (.long q0), .second, .val (.long q1), .second, .val (.long q2), .second, .val (.int md), .val (.long t), .second, .val (.long q2), .second, .unset, .unset, .unset, .unset, .unset, .unset, .unset, .unset, .unset, .unset] []))
    exact p67b hw hC0 X0 e0 n0 Z0 q0 q1 q2 md t _ ht N0 hcs hss
  · refine own_st (fun _ kS => XS.ifNo X0.here hx rfl (hb hby at_34) rfl ((if0 _ _).trans (feq c1).1) kS) ?_
    show OFin p e below s _ _ _ (T0.setTop (mkF m 37 #[.val (.long q0), .second, .val (.long q1), .second, .val (.long q2), .second, .val (.int md), .val (.long t), .second, .unset, .unset, .unset, .unset, .unset, .unset, .unset, .unset, .unset, .unset, .unset, .unset] []))
    refine own_st (fun _ kS => XS.iload X0.here hx rfl (hb hby at_37) rfl kS) ?_
    show OFin p e below s _ _ _ (T0.setTop (mkF m 39 #[.val (.long q0), .second, .val (.long q1), .second, .val (.long q2), .second, .val (.int md), .val (.long t), .second, .unset, .unset, .unset, .unset, .unset, .unset, .unset, .unset, .unset, .unset, .unset, .unset] [(.int md)]))
    refine own_st (fun _ kS => XS.iconst X0.here hx rfl (hb hby at_39) kS) ?_
    show OFin p e below s _ _ _ (T0.setTop (mkF m 40 #[.val (.long q0), .second, .val (.long q1), .second, .val (.long q2), .second, .val (.int md), .val (.long t), .second, .unset, .unset, .unset, .unset, .unset, .unset, .unset, .unset, .unset, .unset, .unset, .unset] [(.int (2 : Int32)), (.int md)]))
    refine own_st (fun _ kS => XS.ishr X0.here hx rfl (hb hby at_40) rfl kS) ?_
    show OFin p e below s _ _ _ (T0.setTop (mkF m 41 #[.val (.long q0), .second, .val (.long q1), .second, .val (.long q2), .second, .val (.int md), .val (.long t), .second, .unset, .unset, .unset, .unset, .unset, .unset, .unset, .unset, .unset, .unset, .unset, .unset] [(.int (md >>> ((2 : Int32) &&& 31)))]))
    refine own_st (fun _ kS => XS.iconst X0.here hx rfl (hb hby at_41) kS) ?_
    show OFin p e below s _ _ _ (T0.setTop (mkF m 42 #[.val (.long q0), .second, .val (.long q1), .second, .val (.long q2), .second, .val (.int md), .val (.long t), .second, .unset, .unset, .unset, .unset, .unset, .unset, .unset, .unset, .unset, .unset, .unset, .unset] [(.int (3 : Int32)), (.int (md >>> ((2 : Int32) &&& 31)))]))
    refine own_st (fun _ kS => XS.iand X0.here hx rfl (hb hby at_42) rfl kS) ?_
    show OFin p e below s _ _ _ (T0.setTop (mkF m 43 #[.val (.long q0), .second, .val (.long q1), .second, .val (.long q2), .second, .val (.int md), .val (.long t), .second, .unset, .unset, .unset, .unset, .unset, .unset, .unset, .unset, .unset, .unset, .unset, .unset] [(.int ((md >>> ((2 : Int32) &&& 31)) &&& (3 : Int32)))]))
    refine own_st (fun _ kS => XS.i2l X0.here hx rfl (hb hby at_43) rfl kS) ?_
    show OFin p e below s _ _ _ (T0.setTop (mkF m 44 #[.val (.long q0), .second, .val (.long q1), .second, .val (.long q2), .second, .val (.int md), .val (.long t), .second, .unset, .unset, .unset, .unset, .unset, .unset, .unset, .unset, .unset, .unset, .unset, .unset] [(.long (((md >>> ((2 : Int32) &&& 31)) &&& (3 : Int32)).toInt64))]))
    refine own_st (fun _ kS => XS.lconst X0.here hx rfl (hb hby at_44) kS) ?_
    show OFin p e below s _ _ _ (T0.setTop (mkF m 45 #[.val (.long q0), .second, .val (.long q1), .second, .val (.long q2), .second, .val (.int md), .val (.long t), .second, .unset, .unset, .unset, .unset, .unset, .unset, .unset, .unset, .unset, .unset, .unset, .unset] [(.long (1 : Int64)), (.long (((md >>> ((2 : Int32) &&& 31)) &&& (3 : Int32)).toInt64))]))
    refine own_st (fun _ kS => XS.lsub X0.here hx rfl (hb hby at_45) rfl kS) ?_
    show OFin p e below s _ _ _ (T0.setTop (mkF m 46 #[.val (.long q0), .second, .val (.long q1), .second, .val (.long q2), .second, .val (.int md), .val (.long t), .second, .unset, .unset, .unset, .unset, .unset, .unset, .unset, .unset, .unset, .unset, .unset, .unset] [(.long ((((md >>> ((2 : Int32) &&& 31)) &&& (3 : Int32)).toInt64) - (1 : Int64)))]))
    refine own_st (fun _ kS => XS.lstore X0.here hx rfl (hb hby at_46) rfl (l' := #[.val (.long q0), .second, .val (.long q1), .second, .val (.long q2), .second, .val (.int md), .val (.long t), .second, .unset, .unset, .val (.long ((((md >>> ((2 : Int32) &&& 31)) &&& (3 : Int32)).toInt64) - (1 : Int64))), .second, .unset, .unset, .unset, .unset, .unset, .unset, .unset, .unset]) rfl kS) ?_
    show OFin p e below s _ _ _ (T0.setTop (mkF m 48 #[.val (.long q0), .second, .val (.long q1), .second, .val (.long q2), .second, .val (.int md), .val (.long t), .second, .unset, .unset, .val (.long ((((md >>> ((2 : Int32) &&& 31)) &&& (3 : Int32)).toInt64) - (1 : Int64))), .second, .unset, .unset, .unset, .unset, .unset, .unset, .unset, .unset] []))
    refine own_st (fun _ kS => XS.lloadN X0.here hx rfl (hb hby at_48) rfl kS) ?_
    show OFin p e below s _ _ _ (T0.setTop (mkF m 49 #[.val (.long q0), .second, .val (.long q1), .second, .val (.long q2), .second, .val (.int md), .val (.long t), .second, .unset, .unset, .val (.long ((((md >>> ((2 : Int32) &&& 31)) &&& (3 : Int32)).toInt64) - (1 : Int64))), .second, .unset, .unset, .unset, .unset, .unset, .unset, .unset, .unset] [(.long q0)]))
    refine own_st (fun _ kS => XS.lload X0.here hx rfl (hb hby at_49) rfl kS) ?_
    show OFin p e below s _ _ _ (T0.setTop (mkF m 51 #[.val (.long q0), .second, .val (.long q1), .second, .val (.long q2), .second, .val (.int md), .val (.long t), .second, .unset, .unset, .val (.long ((((md >>> ((2 : Int32) &&& 31)) &&& (3 : Int32)).toInt64) - (1 : Int64))), .second, .unset, .unset, .unset, .unset, .unset, .unset, .unset, .unset] [(.long q2), (.long q0)]))
    refine own_st (fun _ kS => XS.lload X0.here hx rfl (hb hby at_51) rfl kS) ?_
    show OFin p e below s _ _ _ (T0.setTop (mkF m 53 #[.val (.long q0), .second, .val (.long q1), .second, .val (.long q2), .second, .val (.int md), .val (.long t), .second, .unset, .unset, .val (.long ((((md >>> ((2 : Int32) &&& 31)) &&& (3 : Int32)).toInt64) - (1 : Int64))), .second, .unset, .unset, .unset, .unset, .unset, .unset, .unset, .unset] [(.long t), (.long q2), (.long q0)]))
    refine own_st (fun _ kS => XS.lmul X0.here hx rfl (hb hby at_53) rfl kS) ?_
    show OFin p e below s _ _ _ (T0.setTop (mkF m 54 #[.val (.long q0), .second, .val (.long q1), .second, .val (.long q2), .second, .val (.int md), .val (.long t), .second, .unset, .unset, .val (.long ((((md >>> ((2 : Int32) &&& 31)) &&& (3 : Int32)).toInt64) - (1 : Int64))), .second, .unset, .unset, .unset, .unset, .unset, .unset, .unset, .unset] [(.long (q2 * t)), (.long q0)]))
    refine own_st (fun _ kS => XS.ladd X0.here hx rfl (hb hby at_54) rfl kS) ?_
    show OFin p e below s _ _ _ (T0.setTop (mkF m 55 #[.val (.long q0), .second, .val (.long q1), .second, .val (.long q2), .second, .val (.int md), .val (.long t), .second, .unset, .unset, .val (.long ((((md >>> ((2 : Int32) &&& 31)) &&& (3 : Int32)).toInt64) - (1 : Int64))), .second, .unset, .unset, .unset, .unset, .unset, .unset, .unset, .unset] [(.long (q0 + (q2 * t)))]))
    refine own_st (fun _ kS => XS.lload X0.here hx rfl (hb hby at_55) rfl kS) ?_
    show OFin p e below s _ _ _ (T0.setTop (mkF m 57 #[.val (.long q0), .second, .val (.long q1), .second, .val (.long q2), .second, .val (.int md), .val (.long t), .second, .unset, .unset, .val (.long ((((md >>> ((2 : Int32) &&& 31)) &&& (3 : Int32)).toInt64) - (1 : Int64))), .second, .unset, .unset, .unset, .unset, .unset, .unset, .unset, .unset] [(.long ((((md >>> ((2 : Int32) &&& 31)) &&& (3 : Int32)).toInt64) - (1 : Int64))), (.long (q0 + (q2 * t)))]))
    refine own_st (fun _ kS => XS.ladd X0.here hx rfl (hb hby at_57) rfl kS) ?_
    show OFin p e below s _ _ _ (T0.setTop (mkF m 58 #[.val (.long q0), .second, .val (.long q1), .second, .val (.long q2), .second, .val (.int md), .val (.long t), .second, .unset, .unset, .val (.long ((((md >>> ((2 : Int32) &&& 31)) &&& (3 : Int32)).toInt64) - (1 : Int64))), .second, .unset, .unset, .unset, .unset, .unset, .unset, .unset, .unset] [(.long ((q0 + (q2 * t)) + ((((md >>> ((2 : Int32) &&& 31)) &&& (3 : Int32)).toInt64) - (1 : Int64))))]))
    refine own_st (fun _ kS => XS.lstore X0.here hx rfl (hb hby at_58) rfl (l' := #[.val (.long q0), .second, .val (.long q1), .second, .val (.long q2), .second, .val (.int md), .val (.long t), .second, .val (.long ((q0 + (q2 * t)) + ((((md >>> ((2 : Int32) &&& 31)) &&& (3 : Int32)).toInt64) - (1 : Int64)))), .second, .val (.long ((((md >>> ((2 : Int32) &&& 31)) &&& (3 : Int32)).toInt64) - (1 : Int64))), .second, .unset, .unset, .unset, .unset, .unset, .unset, .unset, .unset]) rfl kS) ?_
    show OFin p e below s _ _ _ (T0.setTop (mkF m 60 #[.val (.long q0), .second, .val (.long q1), .second, .val (.long q2), .second, .val (.int md), .val (.long t), .second, .val (.long ((q0 + (q2 * t)) + ((((md >>> ((2 : Int32) &&& 31)) &&& (3 : Int32)).toInt64) - (1 : Int64)))), .second, .val (.long ((((md >>> ((2 : Int32) &&& 31)) &&& (3 : Int32)).toInt64) - (1 : Int64))), .second, .unset, .unset, .unset, .unset, .unset, .unset, .unset, .unset] []))
    refine own_st (fun _ kS => XS.goto X0.here hx rfl (pc0 := 60) (pc' := 67) rfl (hb hby at_60) (by decide) (by decide) kS) ?_
    show OFin p e below s _ _ _ (T0.setTop (mkF m 67 #[.val (.long q0), .second, .val (.long q1), .second, .val (.long q2), .second, .val (.int md), .val (.long t), .second, .val (.long ((q0 + (q2 * t)) + ((((md >>> ((2 : Int32) &&& 31)) &&& (3 : Int32)).toInt64) - (1 : Int64)))), .second, .val (.long ((((md >>> ((2 : Int32) &&& 31)) &&& (3 : Int32)).toInt64) - (1 : Int64))), .second, .unset, .unset, .unset, .unset, .unset, .unset, .unset, .unset] []))
    exact p67a hw hC0 X0 e0 n0 Z0 q0 q1 q2 md t _ _ ht N0 hcs hss
set_option maxRecDepth 65536 in
set_option maxHeartbeats 40000000 in
theorem rm0 (l : Launch) (Z : State) (a0 : Array Value) (hw : ∀ d ∈ tables_1, d.before a0 Z = true) (q0 : Int64) (q1 : Int64) (q2 : Int64) (md : Int32) (h0 : Heap) (n0 : Nat) (Z0 : n0 ≤ h0.size)  :
    OMet l Z x code maxLocals ret room_1 #[(.long q0), (.long q1), (.long q2), (.int md)] h0 (fun v h L => v = some (.int (1 : Int32)) ∧ Fr n0 L) := by
  refine own_enter own_pn0 ?_
  intro p e s m below meth c T0 X0 hC e0
  obtain ⟨hx, hZ, hby, hml, hown, hret, hlk, hnm⟩ := hC
  have hown : s.vm.findClass "com/example/epicycle/epicycle/TickScaleTickAtOrAfterPinLaw" = some m.cls := hown
  refine own_at (own_ef0_JJJI m q0 q1 q2 md) ?_
  show OFin p e below s _ _ _ (T0.setTop (mkF m 0 #[.val (.long q0), .second, .val (.long q1), .second, .val (.long q2), .second, .val (.int md), .unset, .unset, .unset, .unset, .unset, .unset, .unset, .unset, .unset, .unset, .unset, .unset, .unset, .unset] []))
  have N0 := Fr.nil n0
  have hC0 : OCtx Z p s m meth c "com/example/epicycle/epicycle/TickScaleTickAtOrAfterPinLaw" "law" code maxLocals ret := ⟨hx, hZ, hby, hml, hown, hret, hlk, hnm⟩
  refine own_st (fun _ kS => XS.iload X0.here hx rfl (hb hby at_0) rfl kS) ?_
  show OFin p e below s _ _ _ (T0.setTop (mkF m 2 #[.val (.long q0), .second, .val (.long q1), .second, .val (.long q2), .second, .val (.int md), .unset, .unset, .unset, .unset, .unset, .unset, .unset, .unset, .unset, .unset, .unset, .unset, .unset, .unset] [(.int md)]))
  refine own_st (fun _ kS => XS.iconst X0.here hx rfl (hb hby at_2) kS) ?_
  show OFin p e below s _ _ _ (T0.setTop (mkF m 3 #[.val (.long q0), .second, .val (.long q1), .second, .val (.long q2), .second, .val (.int md), .unset, .unset, .unset, .unset, .unset, .unset, .unset, .unset, .unset, .unset, .unset, .unset, .unset, .unset] [(.int (1 : Int32)), (.int md)]))
  refine own_st (fun _ kS => XS.iand X0.here hx rfl (hb hby at_3) rfl kS) ?_
  show OFin p e below s _ _ _ (T0.setTop (mkF m 4 #[.val (.long q0), .second, .val (.long q1), .second, .val (.long q2), .second, .val (.int md), .unset, .unset, .unset, .unset, .unset, .unset, .unset, .unset, .unset, .unset, .unset, .unset, .unset, .unset] [(.int (md &&& (1 : Int32)))]))
  by_cases c1 : (md &&& (1 : Int32)) = (0 : Int32)
  · refine own_st (fun _ kS => XS.ifYes X0.here hx rfl (pc0 := 4) (pc' := 19) rfl (hb hby at_4) rfl ((if0 _ _).trans (teq c1).1) (by decide) (by decide) kS) ?_
    show OFin p e below s _ _ _ (T0.setTop (mkF m 19 #[.val (.long q0), .second, .val (.long q1), .second, .val (.long q2), .second, .val (.int md), .unset, .unset, .unset, .unset, .unset, .unset, .unset, .unset, .unset, .unset, .unset, .unset, .unset, .unset] []))
    refine own_st (fun _ kS => XS.lconst X0.here hx rfl (hb hby at_19) kS) ?_
    show OFin p e below s _ _ _ (T0.setTop (mkF m 20 #[.val (.long q0), .second, .val (.long q1), .second, .val (.long q2), .second, .val (.int md), .unset, .unset, .unset, .unset, .unset, .unset, .unset, .unset, .unset, .unset, .unset, .unset, .unset, .unset] [(.long (1 : Int64))]))
    refine own_st (fun _ kS => XS.lloadN X0.here hx rfl (hb hby at_20) rfl kS) ?_
    show OFin p e below s _ _ _ (T0.setTop (mkF m 21 #[.val (.long q0), .second, .val (.long q1), .second, .val (.long q2), .second, .val (.int md), .unset, .unset, .unset, .unset, .unset, .unset, .unset, .unset, .unset, .unset, .unset, .unset, .unset, .unset] [(.long q1), (.long (1 : Int64))]))
    refine own_st (X0.ldc2Long hx hown (mvT hZ (own_w hw 0 rfl)) (g := (mkF m 21 #[.val (.long q0), .second, .val (.long q1), .second, .val (.long q2), .second, .val (.int md), .unset, .unset, .unset, .unset, .unset, .unset, .unset, .unset, .unset, .unset, .unset, .unset, .unset, .unset] [(.long q1), (.long (1 : Int64))])) rfl (hb hby at_21)) ?_
    show OFin p e below s _ _ _ (T0.setTop (mkF m 24 #[.val (.long q0), .second, .val (.long q1), .second, .val (.long q2), .second, .val (.int md), .unset, .unset, .unset, .unset, .unset, .unset, .unset, .unset, .unset, .unset, .unset, .unset, .unset, .unset] [(.long (9223372036854775807 : Int64)), (.long q1), (.long (1 : Int64))]))
    refine own_st (fun _ kS => XS.land X0.here hx rfl (hb hby at_24) rfl kS) ?_
    show OFin p e below s _ _ _ (T0.setTop (mkF m 25 #[.val (.long q0), .second, .val (.long q1), .second, .val (.long q2), .second, .val (.int md), .unset, .unset, .unset, .unset, .unset, .unset, .unset, .unset, .unset, .unset, .unset, .unset, .unset, .unset] [(.long (q1 &&& (9223372036854775807 : Int64))), (.long (1 : Int64))]))
    obtain ⟨v25, T25, L25, X25, hQ25, st25⟩ := own_static X0 hx hZ (y := (⟨"java/lang/Math", "max", "(JJ)J"⟩ : MethodName)) (rm := ⟨0, 0, 0, 0⟩) (W := 0) (argsL := [(.long (1 : Int64)), (.long (q1 &&& (9223372036854775807 : Int64)))]) (rest := []) hown (own_w hw 1 rfl) (own_w hw 2 rfl) (own_w hw 3 rfl) (own_w hw 4 rfl) (rmM l Z a0 hw _ _ h0) e0 (g := (mkF m 25 #[.val (.long q0), .second, .val (.long q1), .second, .val (.long q2), .second, .val (.int md), .unset, .unset, .unset, .unset, .unset, .unset, .unset, .unset, .unset, .unset, .unset, .unset, .unset, .unset] [(.long (q1 &&& (9223372036854775807 : Int64))), (.long (1 : Int64))])) rfl (by rw [hml]; rfl) (lenOf own_pd2 rfl) rfl (by show 2 * 0 + _ ≤ _; exact Nat.le_of_eq rfl) (hb hby at_25) (by decide) (by decide) (by decide) (by decide)
    obtain ⟨rfl, e25, rfl⟩ := hQ25
    rw [List.append_nil] at X25
    refine own_st (st25) ?_
    show OFin p e below s _ _ _ (T25.setTop (mkF m 28 #[.val (.long q0), .second, .val (.long q1), .second, .val (.long q2), .second, .val (.int md), .unset, .unset, .unset, .unset, .unset, .unset, .unset, .unset, .unset, .unset, .unset, .unset, .unset, .unset] [(.long (own_max (1 : Int64) (q1 &&& (9223372036854775807 : Int64))))]))
    refine own_st (fun _ kS => XS.lstore X25.here hx rfl (hb hby at_28) rfl (l' := #[.val (.long q0), .second, .val (.long q1), .second, .val (.long q2), .second, .val (.int md), .val (.long (own_max (1 : Int64) (q1 &&& (9223372036854775807 : Int64)))), .second, .unset, .unset, .unset, .unset, .unset, .unset, .unset, .unset, .unset, .unset, .unset, .unset]) rfl kS) ?_
    show OFin p e below s _ _ _ (T25.setTop (mkF m 30 #[.val (.long q0), .second, .val (.long q1), .second, .val (.long q2), .second, .val (.int md), .val (.long (own_max (1 : Int64) (q1 &&& (9223372036854775807 : Int64)))), .second, .unset, .unset, .unset, .unset, .unset, .unset, .unset, .unset, .unset, .unset, .unset, .unset] []))
    exact p30 hw hC0 X25 e25 n0 Z0 q0 q1 q2 md _ (own_max_pos _) N0 rfl rfl
  · refine own_st (fun _ kS => XS.ifNo X0.here hx rfl (hb hby at_4) rfl ((if0 _ _).trans (feq c1).1) kS) ?_
    show OFin p e below s _ _ _ (T0.setTop (mkF m 7 #[.val (.long q0), .second, .val (.long q1), .second, .val (.long q2), .second, .val (.int md), .unset, .unset, .unset, .unset, .unset, .unset, .unset, .unset, .unset, .unset, .unset, .unset, .unset, .unset] []))
    refine own_st (fun _ kS => XS.lloadN X0.here hx rfl (hb hby at_7) rfl kS) ?_
    show OFin p e below s _ _ _ (T0.setTop (mkF m 8 #[.val (.long q0), .second, .val (.long q1), .second, .val (.long q2), .second, .val (.int md), .unset, .unset, .unset, .unset, .unset, .unset, .unset, .unset, .unset, .unset, .unset, .unset, .unset, .unset] [(.long q1)]))
    refine own_st (X0.ldc2Long hx hown (mvT hZ (own_w hw 23 rfl)) (g := (mkF m 8 #[.val (.long q0), .second, .val (.long q1), .second, .val (.long q2), .second, .val (.int md), .unset, .unset, .unset, .unset, .unset, .unset, .unset, .unset, .unset, .unset, .unset, .unset, .unset, .unset] [(.long q1)])) rfl (hb hby at_8)) ?_
    show OFin p e below s _ _ _ (T0.setTop (mkF m 11 #[.val (.long q0), .second, .val (.long q1), .second, .val (.long q2), .second, .val (.int md), .unset, .unset, .unset, .unset, .unset, .unset, .unset, .unset, .unset, .unset, .unset, .unset, .unset, .unset] [(.long (15 : Int64)), (.long q1)]))
    refine own_st (fun _ kS => XS.land X0.here hx rfl (hb hby at_11) rfl kS) ?_
    show OFin p e below s _ _ _ (T0.setTop (mkF m 12 #[.val (.long q0), .second, .val (.long q1), .second, .val (.long q2), .second, .val (.int md), .unset, .unset, .unset, .unset, .unset, .unset, .unset, .unset, .unset, .unset, .unset, .unset, .unset, .unset] [(.long (q1 &&& (15 : Int64)))]))
    refine own_st (fun _ kS => XS.lconst X0.here hx rfl (hb hby at_12) kS) ?_
    show OFin p e below s _ _ _ (T0.setTop (mkF m 13 #[.val (.long q0), .second, .val (.long q1), .second, .val (.long q2), .second, .val (.int md), .unset, .unset, .unset, .unset, .unset, .unset, .unset, .unset, .unset, .unset, .unset, .unset, .unset, .unset] [(.long (1 : Int64)), (.long (q1 &&& (15 : Int64)))]))
    refine own_st (fun _ kS => XS.ladd X0.here hx rfl (hb hby at_13) rfl kS) ?_
    show OFin p e below s _ _ _ (T0.setTop (mkF m 14 #[.val (.long q0), .second, .val (.long q1), .second, .val (.long q2), .second, .val (.int md), .unset, .unset, .unset, .unset, .unset, .unset, .unset, .unset, .unset, .unset, .unset, .unset, .unset, .unset] [(.long ((q1 &&& (15 : Int64)) + (1 : Int64)))]))
    refine own_st (fun _ kS => XS.lstore X0.here hx rfl (hb hby at_14) rfl (l' := #[.val (.long q0), .second, .val (.long q1), .second, .val (.long q2), .second, .val (.int md), .val (.long ((q1 &&& (15 : Int64)) + (1 : Int64))), .second, .unset, .unset, .unset, .unset, .unset, .unset, .unset, .unset, .unset, .unset, .unset, .unset]) rfl kS) ?_
    show OFin p e below s _ _ _ (T0.setTop (mkF m 16 #[.val (.long q0), .second, .val (.long q1), .second, .val (.long q2), .second, .val (.int md), .val (.long ((q1 &&& (15 : Int64)) + (1 : Int64))), .second, .unset, .unset, .unset, .unset, .unset, .unset, .unset, .unset, .unset, .unset, .unset, .unset] []))
    refine own_st (fun _ kS => XS.goto X0.here hx rfl (pc0 := 16) (pc' := 30) rfl (hb hby at_16) (by decide) (by decide) kS) ?_
    show OFin p e below s _ _ _ (T0.setTop (mkF m 30 #[.val (.long q0), .second, .val (.long q1), .second, .val (.long q2), .second, .val (.int md), .val (.long ((q1 &&& (15 : Int64)) + (1 : Int64))), .second, .unset, .unset, .unset, .unset, .unset, .unset, .unset, .unset, .unset, .unset, .unset, .unset] []))
    exact p30 hw hC0 X0 e0 n0 Z0 q0 q1 q2 md _ (own_m4 _) N0 rfl rfl
set_option maxRecDepth 65536 in
set_option maxHeartbeats 40000000 in
theorem comes_1 {Post : Tables → Env → Array Value → State → Outcome → State → Prop} (hpost : ∀ tb e args s v u, (limb_1_1.after args s (.returned v) u = true ∧ limb_1_2.after args s (.returned v) u = true ∧ True) → FrameEnd s (.returned v) u (Jvm.fieldLocs frame_1_writes args s ++ Jvm.arrayLocs frame_1_arrays args s ++ Jvm.staticLocs frame_1_statics s) 16 128 → Post tb e args s (.returned v) u) :
    ArmFor flags0 classFile x code maxLocals ret World_1 tables_1 room_1 Calls_1 rest_1 Pre_1 Post := by
  intro l hfl _ _ p e ha hc hk s m args below hf hA hF happ hP
  obtain ⟨hcalls, hrest, hpre⟩ := hP
  obtain ⟨-, -, -, hnamed, -, -, -, hat⟩ := (Spec.applies_iff hf).mp happ
  obtain ⟨hg, hn⟩ := and_e (Cond.before_iff.mp (show (Jvm.Cond.and given_1 narrow_1).before args s = true from hpre))
  obtain ⟨gc, hg0⟩ := and_e hg
  obtain ⟨ga0, hg1⟩ := and_e hg0
  obtain ⟨ga1, hg2⟩ := and_e hg1
  obtain ⟨ga2, hg3⟩ := and_e hg2
  obtain ⟨w0, w1, w2, w3, rfl⟩ : ∃ w0 w1 w2 w3 : Value, args = #[w0, w1, w2, w3] := by
    have hs : args.size = 4 := by simpa [Cond.value, given_1] using gc
    obtain ⟨L⟩ := args
    match L, hs with
    | [w0, w1, w2, w3], _ => exact ⟨w0, w1, w2, w3, rfl⟩
  have hw := fun d (hd : d ∈ tables_1) => atoms_spec (ws := Jvm.Cond.code x code maxLocals ret :: tables_1) hat d (List.mem_cons_of_mem _ hd)
  have hfit : Fit s := fun {y c} hc i hi => by
    obtain ⟨ha, rfl⟩ := Array.getElem?_eq_some_iff.mp hc
    have q := List.all_eq_true.mp ((Array.all_eq_true_iff_forall_mem.mp hF) _ (Array.getElem_mem ha)) i (List.mem_range.mpr hi)
    simpa [Array.getElem?_eq_getElem hi] using q
  obtain ⟨i0, ei0⟩ := isL_v ga0
  obtain rfl : w0 = (.long i0) := Option.some.inj ei0
  obtain ⟨i1, ei1⟩ := isL_v ga1
  obtain rfl : w1 = (.long i1) := Option.some.inj ei1
  obtain ⟨i2, ei2⟩ := isL_v ga2
  obtain rfl : w2 = (.long i2) := Option.some.inj ei2
  obtain ⟨i3, ei3⟩ := is_v hg3
  obtain rfl : w3 = (.int i3) := Option.some.inj ei3
  obtain ⟨n, o, h1, h2, h3, _, L, rfl, ⟨rfl, N⟩, hq⟩ := rm0 l s _ hw i0 i1 i2 i3 s.heap s.heap.size (Nat.le_refl _) tables_1 p e ha hc hk s m _ below hf ((Spec.applies_iff_loose hf).mp happ).1 ⟨rfl, State.Warmed39.refl s, rfl⟩ trivial
  refine ⟨n, _, h1, h2, h3, hpost _ _ _ _ _ _ ⟨Cond.after_iff.mpr rfl, Cond.after_iff.mpr (eq_i res_at (Term.int_eval (1)) rfl), trivial⟩ ⟨hq.1, hq.2.1, (hq.2.2.sift fun y hy => Or.inr (N y hy)).mono (by decide) (by decide)⟩⟩
theorem main_1_1 : Claimed_1_1 := comes_1 fun _ _ _ _ _ _ h hF => ⟨h.1, hF⟩
theorem main_1_2 : Claimed_1_2 := comes_1 fun _ _ _ _ _ _ h hF => ⟨h.2.1, hF⟩
end Jvm.Pilot.@@N@@
namespace Jvm.Pilot.@@N@@
open Jvm Jvm.ClassFile Sem Op Lib Jvm.Free Jvm.Stand Jvm.Pilot.@@N@@.Jvm.D
/-! MADE BY PROGRAM (witnessworld.py) out of the Statement's table words and the real class files: 10 classes; the members and pool entries that the words name. The judged class is class 1, her method 1. -/
namespace start1
open Jvm.ClassFile
def u (s : String) : CpInfo := .utf8 (stringToUtf16 s)
/-- a pool by its gaps: so many unusable entries, then the entry; so many at the end -/
def gap : Nat → List CpInfo → List CpInfo
  | 0, r => r
  | n + 1, r => .unusable :: gap n r
def poolList (es : List (Nat × CpInfo)) (last : Nat) : List CpInfo := es.foldr (fun e r => gap e.1 (e.2 :: r)) (gap last [])
def pool (es : List (Nat × CpInfo)) (last : Nat) : Array CpInfo := ⟨poolList es last⟩
def fileOf (pool : Array CpInfo) (this : Nat) (attrs : Array Attribute := #[]) (ms : Array MethodInfo := #[]) (fl : Nat := 33) (sup : Nat := 0) (ifs : Array Nat := #[]) (fds : Array FieldInfo := #[]) : ClassFile where
  minorVersion := 0
  majorVersion := 65
  constantPool := pool
  accessFlags := fl
  thisClass := this
  superClass := sup
  interfaces := ifs
  fields := fds
  methods := ms
  attributes := attrs
def plain (name : String) (sup : Option ClassId) : Class where
  name := name
  kind := .ordinary
  loader := none
  accessFlags := 33
  super := sup
  interfaces := #[]
  cf := none
  fields := #[]
  methods := #[]
  instanceTypes := #[]
  staticTypes := #[]
  resolved := #[]
  callSites := []
  init := .initialized
  statics := none
  mirror := none

def pool0 : Array CpInfo := pool [(5, u "<init>"), (0, u "()V"), (1, .class_ 10), (1, u "java/lang/Object")] 113

def k0c0 : Code := { maxStack := 0, maxLocals := 1, code := object_method_1_code, exceptionTable := #[], attributes := #[] }
def k0m0 : Method := { name := "<init>", desc := "()V", sig := { parameters := [], returnType := none }, accessFlags := 1, code := some k0c0 }
/-- java/lang/Object -/
def k0 : Class := { plain "java/lang/Object" none with
  accessFlags := 33
  interfaces := #[]
  cf := some (fileOf pool0 8 #[] #[{ accessFlags := 1, nameIndex := 5, descriptorIndex := 6, attributes := #[] }] 33 0 #[] #[])
  fields := #[]
  methods := #[k0m0]
  instanceTypes := #[]
  staticTypes := #[]
  resolved := Array.replicate 124 none
  statics := none }

def pool1 : Array CpInfo := pool [(2, .class_ 4), (1, u "java/lang/Object"), (0, u "<init>"), (0, u "()V"), (0, .long 15), (3, .long 9223372036854775807), (1, .methodref 14 15), (0, .class_ 16), (0, .nameAndType 17 18), (0, u "java/lang/Math"), (0, u "max"), (0, u "(JJ)J"), (0, .class_ 20), (0, u "com/example/epicycle/epicycle/TickScale"), (0, .methodref 19 22), (0, .nameAndType 5 23), (0, u "(JJ)V"), (0, .methodref 19 25), (0, .nameAndType 26 27), (0, u "tickAtOrAfter"), (0, u "(J)J"), (0, .class_ 29), (0, u "com/example/epicycle/epicycle/TickScaleTickAtOrAfterPinLaw"), (2, u "law"), (0, u "(JJJI)Z")] 3

def k1m0 : Method := { name := "<init>", desc := "()V", sig := { parameters := [], returnType := none }, accessFlags := 1, code := none }
def k1c1 : Code := { maxStack := 6, maxLocals := 21, code := code, exceptionTable := #[], attributes := #[] }
def k1m1 : Method := { name := "law", desc := "(JJJI)Z", sig := { parameters := [.long, .long, .long, .int], returnType := some .boolean }, accessFlags := 9, code := some k1c1 }
/-- com/example/epicycle/epicycle/TickScaleTickAtOrAfterPinLaw -/
def k1 : Class := { plain "com/example/epicycle/epicycle/TickScaleTickAtOrAfterPinLaw" (some 0) with
  accessFlags := 49
  interfaces := #[]
  cf := some (fileOf pool1 28 #[] #[{ accessFlags := 1, nameIndex := 5, descriptorIndex := 6, attributes := #[] }, { accessFlags := 9, nameIndex := 32, descriptorIndex := 33, attributes := #[] }] 49 2 #[] #[])
  fields := #[]
  methods := #[k1m0, k1m1]
  instanceTypes := #[]
  staticTypes := #[]
  resolved := Array.replicate 37 none
  statics := none }

def pool2 : Array CpInfo := pool [(1, .class_ 2), (0, u "java/lang/Math"), (1, .class_ 6), (1, u "java/lang/Object"), (0, u "<init>"), (0, u "()V"), (89, .class_ 100), (1, u "java/lang/Math$RandomNumberGeneratorHolder"), (20, u "(JJ)J"), (50, u "negativeZeroFloatBits"), (0, u "J"), (2, u "negativeZeroDoubleBits"), (21, u "max"), (46, u "$assertionsDisabled"), (0, u "Z"), (91, u "twoToTheDoubleScaleDown"), (0, u "D"), (4, u "twoToTheDoubleScaleUp"), (9, u "E"), (3, u "PI"), (2, u "TAU"), (2, u "DEGREES_TO_RADIANS"), (0, u "RADIANS_TO_DEGREES")] 94

def k2m0 : Method := { name := "<init>", desc := "()V", sig := { parameters := [], returnType := none }, accessFlags := 2, code := none }
def k2c1 : Code := { maxStack := 4, maxLocals := 4, code := jdk_29_method_66_code, exceptionTable := #[], attributes := #[] }
def k2m1 : Method := { name := "max", desc := "(JJ)J", sig := { parameters := [.long, .long], returnType := some .long }, accessFlags := 9, code := some k2c1 }
/-- java/lang/Math -/
def k2 : Class := { plain "java/lang/Math" (some 0) with
  accessFlags := 49
  interfaces := #[]
  cf := some (fileOf pool2 1 #[.nestMembers #[98]] #[{ accessFlags := 2, nameIndex := 7, descriptorIndex := 8, attributes := #[] }, { accessFlags := 9, nameIndex := 198, descriptorIndex := 121, attributes := #[] }] 49 4 #[] #[{ accessFlags := 25, nameIndex := 354, descriptorIndex := 339, attributes := #[] }, { accessFlags := 25, nameIndex := 358, descriptorIndex := 339, attributes := #[] }, { accessFlags := 25, nameIndex := 361, descriptorIndex := 339, attributes := #[] }, { accessFlags := 26, nameIndex := 364, descriptorIndex := 339, attributes := #[] }, { accessFlags := 26, nameIndex := 365, descriptorIndex := 339, attributes := #[] }, { accessFlags := 26, nameIndex := 172, descriptorIndex := 173, attributes := #[] }, { accessFlags := 26, nameIndex := 176, descriptorIndex := 173, attributes := #[] }, { accessFlags := 8, nameIndex := 344, descriptorIndex := 339, attributes := #[] }, { accessFlags := 8, nameIndex := 338, descriptorIndex := 339, attributes := #[] }, { accessFlags := 4120, nameIndex := 245, descriptorIndex := 246, attributes := #[] }])
  fields := #[{ name := "E", type := .double, accessFlags := 25, slot := 0, constantValue := 0 }, { name := "PI", type := .double, accessFlags := 25, slot := 1, constantValue := 0 }, { name := "TAU", type := .double, accessFlags := 25, slot := 2, constantValue := 0 }, { name := "DEGREES_TO_RADIANS", type := .double, accessFlags := 26, slot := 3, constantValue := 0 }, { name := "RADIANS_TO_DEGREES", type := .double, accessFlags := 26, slot := 4, constantValue := 0 }, { name := "negativeZeroFloatBits", type := .long, accessFlags := 26, slot := 5, constantValue := 0 }, { name := "negativeZeroDoubleBits", type := .long, accessFlags := 26, slot := 6, constantValue := 0 }, { name := "twoToTheDoubleScaleUp", type := .double, accessFlags := 8, slot := 7, constantValue := 0 }, { name := "twoToTheDoubleScaleDown", type := .double, accessFlags := 8, slot := 8, constantValue := 0 }, { name := "$assertionsDisabled", type := .boolean, accessFlags := 4120, slot := 9, constantValue := 0 }]
  methods := #[k2m0, k2m1]
  instanceTypes := #[]
  staticTypes := #[.double, .double, .double, .double, .double, .long, .long, .double, .double, .boolean]
  resolved := Array.replicate 460 none
  statics := none }

def pool3 : Array CpInfo := pool [(1, .methodref 2 3), (0, .class_ 4), (0, .nameAndType 5 6), (0, u "java/lang/Object"), (0, u "<init>"), (0, u "()V"), (9, .fieldref 17 18), (0, .class_ 19), (0, .nameAndType 20 21), (0, u "com/example/epicycle/epicycle/TickScale"), (0, u "originNanos"), (0, u "J"), (0, .fieldref 17 23), (0, .nameAndType 24 21), (0, u "tickNanos"), (30, u "(JJ)V"), (9, u "(J)J"), (7, u "tickAtOrAfter"), (0, u "MAX_DELAY_NANOS")] 27

def k3c0 : Code := { maxStack := 4, maxLocals := 5, code := prog_9_method_1_code, exceptionTable := #[], attributes := #[] }
def k3m0 : Method := { name := "<init>", desc := "(JJ)V", sig := { parameters := [.long, .long], returnType := none }, accessFlags := 0, code := some k3c0 }
def k3c1 : Code := { maxStack := 4, maxLocals := 7, code := prog_9_method_3_code, exceptionTable := #[], attributes := #[] }
def k3m1 : Method := { name := "tickAtOrAfter", desc := "(J)J", sig := { parameters := [.long], returnType := some .long }, accessFlags := 0, code := some k3c1 }
/-- com/example/epicycle/epicycle/TickScale -/
def k3 : Class := { plain "com/example/epicycle/epicycle/TickScale" (some 0) with
  accessFlags := 32
  interfaces := #[]
  cf := some (fileOf pool3 17 #[] #[{ accessFlags := 0, nameIndex := 5, descriptorIndex := 55, attributes := #[] }, { accessFlags := 0, nameIndex := 73, descriptorIndex := 65, attributes := #[] }] 32 2 #[] #[{ accessFlags := 24, nameIndex := 74, descriptorIndex := 21, attributes := #[] }, { accessFlags := 18, nameIndex := 20, descriptorIndex := 21, attributes := #[] }, { accessFlags := 18, nameIndex := 24, descriptorIndex := 21, attributes := #[] }])
  fields := #[{ name := "MAX_DELAY_NANOS", type := .long, accessFlags := 24, slot := 0, constantValue := 0 }, { name := "originNanos", type := .long, accessFlags := 18, slot := 0, constantValue := 0 }, { name := "tickNanos", type := .long, accessFlags := 18, slot := 1, constantValue := 0 }]
  methods := #[k3m0, k3m1]
  instanceTypes := #[.long, .long]
  staticTypes := #[.long]
  resolved := Array.replicate 102 none
  statics := none }

def pool4 : Array CpInfo := pool [(1, u "java/lang/Cloneable"), (0, .class_ 1), (0, u "java/lang/Object"), (0, .class_ 3)] 3

/-- java/lang/Cloneable -/
def k4 : Class := { plain "java/lang/Cloneable" (some 0) with
  accessFlags := 1537
  interfaces := #[]
  cf := some (fileOf pool4 2 #[] #[] 1537 4 #[] #[])
  fields := #[]
  methods := #[]
  instanceTypes := #[]
  staticTypes := #[]
  resolved := Array.replicate 8 none
  statics := none }

def pool5 : Array CpInfo := pool [(1, u "java/io/Serializable"), (0, .class_ 1), (0, u "java/lang/Object"), (0, .class_ 3)] 3

/-- java/io/Serializable -/
def k5 : Class := { plain "java/io/Serializable" (some 0) with
  accessFlags := 1537
  interfaces := #[]
  cf := some (fileOf pool5 2 #[] #[] 1537 4 #[] #[])
  fields := #[]
  methods := #[]
  instanceTypes := #[]
  staticTypes := #[]
  resolved := Array.replicate 8 none
  statics := none }

/-- the primitive byte -/
def k6 : Class := { plain "byte" none with kind := .primitive 'B', accessFlags := 0x411 }
/-- [B -/
def k7 : Class := { plain "[B" (some 0) with kind := .array 6 .byte, interfaces := #[4, 5], accessFlags := 1041 }

/-- the primitive int -/
def k8 : Class := { plain "int" none with kind := .primitive 'I', accessFlags := 0x411 }
/-- [I -/
def k9 : Class := { plain "[I" (some 0) with kind := .array 8 .int, interfaces := #[4, 5], accessFlags := 1041 }

def heap : Heap := #[]
def classes : Array Class := #[k0, k1, k2, k3, k4, k5, k6, k7, k8, k9]
def interned : List (Array UInt16 × Addr) := []
def slotsUsed : Nat := 0
def theMethod : MethodId := ⟨1, 1⟩
def args0 : Array Value := #[.long 5, .long 7, .long 3, .int 1]
def aboutOver (below : List Frame) : State where
  vm := { classes := classes, interned := interned.toArray }
  heap := heap
  slotsUsed := slotsUsed
  threads := #[{ frames := .invoking theMethod args0 :: below }]
def below0 : List Frame := [.native { method := ⟨0, 0⟩, args := #[] }]
def about1 : State := aboutOver below0
def p0 : Program := .bare "" "" ""
def e0 : Env := launch0.env 0 0 0
theorem w_frames : about1.frames = Frame.invoking theMethod args0 :: below0 := rfl
set_option maxRecDepth 65536 in
theorem w_args : argsFit about1.vm theMethod args0 = true := by decide +kernel
set_option maxRecDepth 65536 in
theorem w_heap : heapFits about1 = true := by decide +kernel
set_option maxRecDepth 65536 in
theorem w_runnable : about1.curStatus? = some .runnable := by decide +kernel
set_option maxRecDepth 65536 in
theorem w_alone : about1.alone = true := by decide +kernel
set_option maxRecDepth 65536 in
theorem w_named : about1.methodNamed? x = some theMethod := by decide +kernel
set_option maxRecDepth 65536 in
theorem w_hears : about1.hears theMethod below0 = true := by decide +kernel
set_option maxRecDepth 65536 in
theorem w_ripe : about1.ripe theMethod args0 below0 = true := by decide +kernel
theorem w_running : about1.status = .running := rfl
set_option maxRecDepth 65536 in
theorem w_room : about1.hasRoom e0.platform room_1 = true :=
  launch0.hasRoom_least _ room_1 (by decide +kernel) (by decide +kernel) (by decide +kernel) (by decide +kernel) (by decide +kernel) (by decide +kernel)
theorem allAtoms_all (ts : List Jvm.Cond) (a : Array Jvm.Value) (st : Jvm.State) : (allAtoms ts).before a st = ts.all (fun c => c.before a st) := by
  induction ts with
  | nil => rfl
  | cons c t ih =>
    show (Jvm.Cond.and c (allAtoms t)).before a st = _
    rw [Jvm.Cond.before_and, ih, List.all_cons]
def words1 : List Jvm.Cond := Jvm.Cond.code x code maxLocals ret :: tables_1
/-- a 'code' word, met by the world's own term for the bytes: nothing is compared byte by byte -/
theorem code_word {y : MethodName} {bytes : ByteArray} {mx : Nat} {rt : Option FieldType} {a : Array Value} {s : State} {m : MethodId} {meth : Method} {c : Code} (h1 : s.methodNamed? y = some m) (h2 : s.vm.method? m = some meth) (h3 : meth.code = some c) (h4 : c.code = bytes)
    (h5 : (c.maxLocals == mx && c.exceptionTable.isEmpty && decide (c.maxStack ≤ mostOperands) && decide (meth.sig.returnType = rt) && !meth.locks && decide (parseMethodDescriptor y.desc = some meth.sig)) = true) : (Jvm.Cond.code y bytes mx rt).before a s = true := by
  simp only [Bool.and_eq_true, beq_iff_eq, Bool.not_eq_true', decide_eq_true_eq] at h5
  obtain ⟨⟨⟨⟨⟨g1, g2⟩, g3⟩, g4⟩, g5⟩, g6⟩ := h5
  simp [Cond.before, Cond.holds, Cond.value, h1, h2, h3, h4, g1, g2, g3, g4, g5, g6]
def isCode : Jvm.Cond → Bool
  | .code _ _ _ _ => true
  | _ => false
theorem all_split {L : List Jvm.Cond} {P : Jvm.Cond → Bool} (h1 : L.all (fun c => isCode c || P c) = true) (h2 : ∀ c ∈ L.filter isCode, P c = true) : L.all P = true := by
  refine List.all_eq_true.mpr fun c hc => ?_
  have h := List.all_eq_true.mp h1 c hc
  rcases Bool.eq_false_or_eq_true (isCode c) with hi | hi
  · exact h2 c (List.mem_filter.mpr ⟨hc, hi⟩)
  · simpa [hi] using h
set_option maxRecDepth 65536 in
theorem w_c0 : (Jvm.Cond.code x code maxLocals ret).before args0 about1 = true := code_word (m := ⟨1, 1⟩) (meth := k1m1) (c := k1c1) (by decide +kernel) rfl rfl rfl (by decide +kernel)
set_option maxRecDepth 65536 in
theorem w_c1 : (Jvm.Cond.code ({ cls := "java/lang/Math", name := "max", desc := "(JJ)J" } : Jvm.MethodName) jdk_29_method_66_code (4 : Nat) (Option.some Jvm.ClassFile.FieldType.long)).before args0 about1 = true := code_word (m := ⟨2, 1⟩) (meth := k2m1) (c := k2c1) (by decide +kernel) rfl rfl rfl (by decide +kernel)
set_option maxRecDepth 65536 in
theorem w_c2 : (Jvm.Cond.code ({ cls := "com/example/epicycle/epicycle/TickScale", name := "<init>", desc := "(JJ)V" } : Jvm.MethodName) prog_9_method_1_code (5 : Nat) (Option.none : Option Jvm.ClassFile.FieldType)).before args0 about1 = true := code_word (m := ⟨3, 0⟩) (meth := k3m0) (c := k3c0) (by decide +kernel) rfl rfl rfl (by decide +kernel)
set_option maxRecDepth 65536 in
theorem w_c3 : (Jvm.Cond.code ({ cls := "java/lang/Object", name := "<init>", desc := "()V" } : Jvm.MethodName) object_method_1_code (1 : Nat) (Option.none : Option Jvm.ClassFile.FieldType)).before args0 about1 = true := code_word (m := ⟨0, 0⟩) (meth := k0m0) (c := k0c0) (by decide +kernel) rfl rfl rfl (by decide +kernel)
set_option maxRecDepth 65536 in
theorem w_c4 : (Jvm.Cond.code ({ cls := "com/example/epicycle/epicycle/TickScale", name := "tickAtOrAfter", desc := "(J)J" } : Jvm.MethodName) prog_9_method_3_code (7 : Nat) (Option.some Jvm.ClassFile.FieldType.long)).before args0 about1 = true := code_word (m := ⟨3, 1⟩) (meth := k3m1) (c := k3c1) (by decide +kernel) rfl rfl rfl (by decide +kernel)
def codes1 : List Jvm.Cond := [Jvm.Cond.code x code maxLocals ret, Jvm.Cond.code ({ cls := "java/lang/Math", name := "max", desc := "(JJ)J" } : Jvm.MethodName) jdk_29_method_66_code (4 : Nat) (Option.some Jvm.ClassFile.FieldType.long), Jvm.Cond.code ({ cls := "com/example/epicycle/epicycle/TickScale", name := "<init>", desc := "(JJ)V" } : Jvm.MethodName) prog_9_method_1_code (5 : Nat) (Option.none : Option Jvm.ClassFile.FieldType), Jvm.Cond.code ({ cls := "java/lang/Object", name := "<init>", desc := "()V" } : Jvm.MethodName) object_method_1_code (1 : Nat) (Option.none : Option Jvm.ClassFile.FieldType), Jvm.Cond.code ({ cls := "com/example/epicycle/epicycle/TickScale", name := "tickAtOrAfter", desc := "(J)J" } : Jvm.MethodName) prog_9_method_3_code (7 : Nat) (Option.some Jvm.ClassFile.FieldType.long)]
set_option maxRecDepth 65536 in
theorem codes_eq : words1.filter isCode = codes1 := rfl
theorem w_codes : ∀ c ∈ words1.filter isCode, c.before args0 about1 = true := by
  rw [codes_eq]
  intro c hc
  simp only [codes1, List.mem_cons, List.not_mem_nil, or_false] at hc
  rcases hc with rfl | rfl | rfl | rfl | rfl
  · exact w_c0
  · exact w_c1
  · exact w_c2
  · exact w_c3
  · exact w_c4
set_option maxRecDepth 65536 in
theorem w_t1 : (words1.take 24).all (fun c => isCode c || c.before args0 about1) = true := by decide +kernel
set_option maxRecDepth 65536 in
theorem w_t2 : (words1.drop 24).all (fun c => isCode c || c.before args0 about1) = true := by decide +kernel
theorem w_tables : (allAtoms (Jvm.Cond.code x code maxLocals ret :: tables_1)).before args0 about1 = true := by
  rw [allAtoms_all]
  show words1.all (fun c => c.before args0 about1) = true
  refine all_split ?_ w_codes
  rw [← List.take_append_drop 24 words1, List.all_append, w_t1, w_t2]
  rfl
set_option maxRecDepth 65536 in
theorem w_case : (Jvm.Cond.and given_1 narrow_1).before args0 about1 = true := by decide +kernel
theorem w_applies : (headSpec (Jvm.Cond.code x code maxLocals ret :: tables_1) room_1).applies x e0.platform about1 = true :=
  (Spec.applies_iff w_frames).mpr ⟨w_running, w_runnable, w_alone, w_named, w_hears, w_ripe, w_room, w_tables⟩
theorem atStart : AtStart classFile x code maxLocals ret World_1 tables_1 room_1 Calls_1 rest_1 Pre_1 launch0 p0 e0 about1 theMethod args0 below0 :=
  ⟨lists_1, trivial, launch0.admits_env _ _ _, launch0.least_env, fairChoices_fair.cas, fairChoices_fair.clock, w_frames, w_args, w_heap, w_applies, trivial, trivial, w_case⟩
end start1
theorem witness_1 : WitnessClaimed_1 := ⟨start1.p0, start1.e0, start1.about1, start1.theMethod, start1.args0, start1.below0, start1.atStart⟩
end Jvm.Pilot.@@N@@
