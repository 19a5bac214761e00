import JvmDerived
import JvmDerived.Pilot.@@N@@Statement
import JvmDerived.Pilot.@@N@@Code
set_option linter.unusedVariables false
set_option linter.unusedSimpArgs false
@@BLOCK:NumsL.lean.txt@@
namespace Jvm.Pilot.@@N@@
open Jvm Jvm.ClassFile Sem Op Lib Jvm.Free Jvm.Stand Jvm.LawKit Jvm.RoadKit Bundle Jvm.Pilot.@@N@@.Jvm.D
theorem own_w {Z : State} {a0 : Array Value} (hw : ∀ d ∈ tables_1, d.before a0 Z = true) (i : Nat) {d : Jvm.Cond} (h : tables_1[i]? = some d) : d.before a0 Z = true := hw _ (List.mem_of_getElem? h)
/-! own layer: a body's rest as one predicate (OFin), a contract (OMet), calls that give the plain facts back -/
def OFin (p : Program) (e : Env) (below : List Frame) (s : State) (kc ks : Nat) (Q : Option Value → Heap → List Loc → Prop) (S : State) : Prop :=
  ∃ s₂ o, Steps p.tables e below S s₂ ∧ s₂.status = .running ∧ Ended s₂ below o ∧ ∃ v L, o = .returned v ∧ Q v s₂.heap L ∧ FrameEnd s o s₂ L kc ks
def OMet (l : Launch) (Z : State) (y : MethodName) (bytes : ByteArray) (maxL : Nat) (ret : Option FieldType) (rm : Room) (as' : Array Value) (h0 : Heap) (Q : Option Value → Heap → List Loc → Prop) : Prop :=
  ∀ ws : List Jvm.Cond, MetFree l y (head1 (Jvm.Cond.code y bytes maxL ret :: ws) rm) (fun a U => a = as' ∧ Z.Warmed39 U.vm ∧ U.heap = h0) (fun _ _ _ _ _ => True) (fun _ U o U' => ∃ v L, o = .returned v ∧ Q v U'.heap L ∧ FrameEnd U o U' L rm.cells rm.slots)
def OCtx (Z : State) (p : Program) (s : State) (m : MethodId) (meth : Method) (c : Code) (cls nam : String) (bytes : ByteArray) (maxL : Nat) (ret : Option FieldType) : Prop :=
  p.tables.exec = Jvm.exec ∧ Z.Warmed39 s.vm ∧ c.code = bytes ∧ c.maxLocals = maxL ∧ s.vm.findClass cls = some m.cls ∧ meth.sig.returnType = ret ∧ meth.locks = false ∧ meth.name = nam
section OwnLayer
variable {p : Program} {l : Launch} {e : Env} {R : Room} {s : State} {m : MethodId} {args : Array Value} {below : List Frame} {meth : Method} {c : Code} {T : State} {locs : List Loc} {cells slots : Nat} {Z : State} {a0 : Array Value} {h : Heap}
variable {kc ks : Nat} {Q : Option Value → Heap → List Loc → Prop}
theorem own_st {A B : State} (hs : ∀ t, Steps p.tables e below B t → Steps p.tables e below A t) (k : OFin p e below s kc ks Q B) : OFin p e below s kc ks Q A := by
  obtain ⟨s₂, o, h1, r⟩ := k; exact ⟨s₂, o, hs _ h1, r⟩
theorem own_at {g g' : JFrame} (q : g = g') (k : OFin p e below s kc ks Q (T.setTop g')) : OFin p e below s kc ks Q (T.setTop g) := q ▸ k
theorem own_mono {Q' : Option Value → Heap → List Loc → Prop} {S : State} (k : OFin p e below s kc ks Q S) (q : ∀ v h L, Q v h L → Q' v h L) : OFin p e below s kc ks Q' S := by
  obtain ⟨s₂, o, h1, h2, h3, v, L, h4, h5, h6⟩ := k; exact ⟨s₂, o, h1, h2, h3, v, L, h4, q _ _ _ h5, h6⟩
theorem own_enter {y : MethodName} {bytes : ByteArray} {maxL : Nat} {ret : Option FieldType} {rm : Room} {as' : Array Value} {h0 : Heap} (hp : plainFor y = true)
    (hB : ∀ (p : Program) (e : Env) (s : State) (m : MethodId) (below : List Frame) (meth : Method) (c : Code) (T : State), Stand p l e rm s m as' below meth c T [] 0 0 → OCtx Z p s m meth c y.cls y.name bytes maxL ret → T.heap = h0 → OFin p e below s rm.cells rm.slots Q (T.setTop (entryFrame m as' maxL))) :
    OMet l Z y bytes maxL ret rm as' h0 Q := by
  intro ws
  refine MetFree.of_bodySF hp hisR ?_
  intro p e s m args below meth c s₁ Bd hml0 hP hK
  obtain ⟨rfl, hZ, hh⟩ := hP
  exact hB p e s m below meth c s₁ (Stand.of_body Bd) ⟨Bd.exec, hZ, Bd.bytes, hml0, findClass_of_methodNamed Bd.named, Bd.returns, BodyLoose.notSynchronized Bd, (name_of_methodNamed Bd.named Bd.method).1⟩ (by rw [← hh, Bd.state]; rfl)
theorem own_ret (X : Stand p l e R s m args below meth c T locs cells slots) (hx : p.tables.exec = Jvm.exec) {t : FieldType} (hret : meth.sig.returnType = some t) (hlk : meth.locks = false) {pc : Nat} {Ls : Array Slot} {w : Value} {i : Instr} {rest : List Value} (hn : narrow t w = w)
    (hi : (i = .ireturn ∧ (t = .int ∨ t = .boolean ∨ t = .byte ∨ t = .char ∨ t = .short) ∧ ∃ z, w = .int z) ∨ (i = .lreturn ∧ t = .long ∧ ∃ z, w = .long z) ∨ (i = .dreturn ∧ t = .double ∧ ∃ z, w = .double z) ∨ (i = .freturn ∧ t = .float ∧ ∃ z, w = .float z) ∨ (i = .areturn ∧ t.isReference = true ∧ w.isRef = true))
    (hd : decode c.code pc = .ok (i, 1)) (hc : cells ≤ kc) (hs : slots ≤ ks) (hq : Q (some w) T.heap locs) : OFin p e below s kc ks Q (T.setTop (mkF m pc Ls (w :: rest))) := by
  obtain ⟨fs, hr, hrun, hended, hW, hsame⟩ := X.leave (v := some w) (fun h => by rw [hret] at h; cases h) hlk
  exact ⟨_, _, retOut X hx hret hn hi hd hr, hrun, hended, _, _, rfl, hq, ⟨_, rfl⟩, hW, hsame.mono hc hs⟩
theorem own_retV (X : Stand p l e R s m args below meth c T locs cells slots) (hx : p.tables.exec = Jvm.exec) (hret : meth.sig.returnType = none) (hlk : meth.locks = false) {pc : Nat} {Ls : Array Slot}
    (hd : decode c.code pc = .ok (.return_, 1)) (hc : cells ≤ kc) (hs : slots ≤ ks) (hq : Q none T.heap locs) : OFin p e below s kc ks Q (T.setTop (mkF m pc Ls [])) := by
  obtain ⟨fs, hr, hrun, hended, hW, hsame⟩ := X.leave (v := none) (fun _ => rfl) hlk
  exact ⟨_, _, X.returnOut hx hret hd hr, hrun, hended, _, _, rfl, hq, ⟨_, rfl⟩, hW, hsame.mono hc hs⟩
theorem own_back {y : MethodName} {bytes : ByteArray} {maxL : Nat} {ret : Option FieldType} {rm : Room} {len W : Nat} {as' : Array Value} (hM : OMet l Z y bytes maxL ret rm as' h Q) (hZ : Z.Warmed39 s.vm) (wc : (Jvm.Cond.code y bytes maxL ret).before a0 Z = true) (wz : (Jvm.Cond.initialized y.cls).before a0 Z = true) (hf : rm.frames + 1 ≤ R.frames) (hl : W + (maxL + 11) + rm.locals ≤ R.locals) :
    Back l R p e below s args y len W (fun A a => a = as' ∧ A.U.heap = h ∧ A.cells + rm.cells ≤ R.cells ∧ A.slots + rm.slots ≤ R.slots)
      (fun A _ v B => ∃ L, Q v B.U.heap L ∧ B.locs = A.locs ++ L ∧ B.cells = A.cells + rm.cells ∧ B.slots = A.slots + rm.slots) := backOf (hM []) hZ wc wz hf hl
theorem own_static (X : Stand p l e R s m args below meth c T locs cells slots) (hx : p.tables.exec = Jvm.exec) (hZ : Z.Warmed39 s.vm) {own : String} {index : Nat} {y : MethodName} {bytes : ByteArray} {maxL : Nat} {ret : Option FieldType} {rm : Room} {W : Nat} {argsL rest : List Value}
    (hown : s.vm.findClass own = some m.cls) (w1 : (Jvm.Cond.methodLink own index y).before a0 Z = true) (w2 : (Jvm.Cond.static y).before a0 Z = true) (wz : (Jvm.Cond.initialized y.cls).before a0 Z = true) (wc : (Jvm.Cond.code y bytes maxL ret).before a0 Z = true)
    (hM : OMet l Z y bytes maxL ret rm argsL.toArray h Q) (eT : T.heap = h) {g : JFrame} (hg : g.method = m) (hsize : g.locals.size = c.maxLocals) (hlen : ∀ sig, parseMethodDescriptor y.desc = some sig → argsL.length = sig.parameters.length)
    (hstack : g.stack = argsL.reverse ++ rest) (hW : 2 * g.monitorRoom + (rest.map fun v => v.category).sum ≤ W) (hdg : decode c.code g.pc = .ok (.invokestatic index, 3))
    (hf : rm.frames + 1 ≤ R.frames) (hl : W + (maxL + 11) + rm.locals ≤ R.locals) (hc : cells + rm.cells ≤ R.cells) (hs : slots + rm.slots ≤ R.slots)
    (hy : y.cls ≠ "java/lang/invoke/MethodHandle" ∧ y.cls ≠ "java/lang/invoke/VarHandle" := by decide) :
    ∃ (v : Option Value) (T' : State) (L : List Loc), Stand p l e R s m args below meth c T' (locs ++ L) (cells + rm.cells) (slots + rm.slots) ∧ Q v T'.heap L ∧
      ∀ target, Steps p.tables e below (T'.setTop { g with pc := g.pc + 3, stack := v.toList ++ rest }) target → Steps p.tables e below (T.setTop g) target := by
  obtain ⟨v, vm₁, ⟨T', L', k', n'⟩, -, X', ⟨L, hQ, l1, y1, z1⟩, st⟩ := Jvm.LawKit.callS X hx hown (mvT hZ w1) (mvT hZ w2) (mvT hZ wz) (mvT hZ wc) hy (own_back (W := W) hM hZ wc wz hf hl) hg hsize hlen hstack hW hdg (fun _ _ => ⟨rfl, eT, hc, hs⟩)
  dsimp only [Pt.U, Pt.locs, Pt.cells, Pt.slots] at X' l1 y1 z1 st hQ
  subst l1 y1 z1
  exact ⟨v, T', L, X', hQ, st⟩
theorem own_init (X : Stand p l e R s m args below meth c T locs cells slots) (hx : p.tables.exec = Jvm.exec) (hZ : Z.Warmed39 s.vm) {own : String} {index : Nat} {y : MethodName} {bytes : ByteArray} {maxL : Nat} {rm : Room} {W : Nat} {a : Addr} {argsL rest : List Value} (hy1 : y.name = "<init>")
    (hown : s.vm.findClass own = some m.cls) (w1 : (Jvm.Cond.methodLink own index y).before a0 Z = true) (w2 : (Jvm.Cond.instanceMethod y).before a0 Z = true) (wz : (Jvm.Cond.initialized y.cls).before a0 Z = true) (wc : (Jvm.Cond.code y bytes maxL none).before a0 Z = true)
    (hM : OMet l Z y bytes maxL none rm (.ref a :: argsL).toArray h Q) (eT : T.heap = h) {g : JFrame} (hg : g.method = m) (hsize : g.locals.size = c.maxLocals) (hlen : ∀ sig, parseMethodDescriptor y.desc = some sig → argsL.length = sig.parameters.length)
    (hstack : g.stack = argsL.reverse ++ .ref a :: rest) (hW : 2 * g.monitorRoom + (rest.map fun v => v.category).sum ≤ W) (hdg : decode c.code g.pc = .ok (.invokespecial index, 3))
    (hf : rm.frames + 1 ≤ R.frames) (hl : W + (maxL + 11) + rm.locals ≤ R.locals) (hc : cells + rm.cells ≤ R.cells) (hs : slots + rm.slots ≤ R.slots)
    (hy : y.cls ≠ "java/lang/invoke/MethodHandle" ∧ y.cls ≠ "java/lang/invoke/VarHandle" := by decide) :
    ∃ (v : Option Value) (T' : State) (L : List Loc), Stand p l e R s m args below meth c T' (locs ++ L) (cells + rm.cells) (slots + rm.slots) ∧ Q v T'.heap L ∧
      ∀ target, Steps p.tables e below (T'.setTop { g with pc := g.pc + 3, stack := v.toList ++ rest }) target → Steps p.tables e below (T.setTop g) target := by
  obtain ⟨v, vm₁, ⟨T', L', k', n'⟩, -, X', ⟨L, hQ, l1, y1, z1⟩, st⟩ := X.specialBack hx hy1 hown (mvT hZ w1) (mvT hZ w2) (mvT hZ wc) hy (own_back (W := W) hM hZ wc wz hf hl) hg hsize (Steps.refl _) hlen hstack hW hdg (fun _ _ => ⟨rfl, eT, hc, hs⟩)
  dsimp only [Pt.U, Pt.locs, Pt.cells, Pt.slots] at X' l1 y1 z1 st hQ
  subst l1 y1 z1
  exact ⟨v, T', L, X', hQ, fun t k => st.trans k⟩
theorem own_virtual (X : Stand p l e R s m args below meth c T locs cells slots) (hx : p.tables.exec = Jvm.exec) (hZ : Z.Warmed39 s.vm) {own C : String} {index : Nat} {y z : MethodName} {bytes : ByteArray} {maxL : Nat} {ret : Option FieldType} {rm : Room} {W : Nat} {a : Addr} {argsL rest : List Value}
    (hown : s.vm.findClass own = some m.cls) (w1 : (Jvm.Cond.methodLink own index y).before a0 Z = true) (w2 : (Jvm.Cond.declares y).before a0 Z = true) (hnf : NotFace s y) (w3 : (Jvm.Cond.selects C y z).before a0 Z = true) (w4 : (Jvm.Cond.instanceMethod z).before a0 Z = true) (wz : (Jvm.Cond.initialized z.cls).before a0 Z = true) (wc : (Jvm.Cond.code z bytes maxL ret).before a0 Z = true)
    (hM : OMet l Z z bytes maxL ret rm (.ref a :: argsL).toArray h Q) (eT : T.heap = h) (E : Exa Z h a C) {g : JFrame} (hg : g.method = m) (hsize : g.locals.size = c.maxLocals) (hlen : ∀ sig, parseMethodDescriptor y.desc = some sig → argsL.length = sig.parameters.length)
    (hstack : g.stack = argsL.reverse ++ .ref a :: rest) (hW : 2 * g.monitorRoom + (rest.map fun v => v.category).sum ≤ W) (hdg : decode c.code g.pc = .ok (.invokevirtual index, 3))
    (hf : rm.frames + 1 ≤ R.frames) (hl : W + (maxL + 11) + rm.locals ≤ R.locals) (hc : cells + rm.cells ≤ R.cells) (hs : slots + rm.slots ≤ R.slots)
    (hy : y.cls ≠ "java/lang/invoke/MethodHandle" ∧ y.cls ≠ "java/lang/invoke/VarHandle" := by decide) :
    ∃ (v : Option Value) (T' : State) (L : List Loc), Stand p l e R s m args below meth c T' (locs ++ L) (cells + rm.cells) (slots + rm.slots) ∧ Q v T'.heap L ∧
      ∀ target, Steps p.tables e below (T'.setTop { g with pc := g.pc + 3, stack := v.toList ++ rest }) target → Steps p.tables e below (T.setTop g) target := by
  obtain ⟨cq, kq, qa, qb, qc⟩ := isOf hZ eT E
  obtain ⟨v, vm₁, ⟨T', L', k', n'⟩, -, X', ⟨L, hQ, l1, y1, z1⟩, st⟩ := X.virtualBack hx hown (mvT hZ w1) (mvT hZ w2) hnf (mvT hZ w3) (mvT hZ w4) hy (own_back (W := W) hM hZ wc wz hf hl) qa qc hg hsize (Steps.refl _) hlen hstack hW hdg (fun _ _ => ⟨rfl, eT, hc, hs⟩)
  dsimp only [Pt.U, Pt.locs, Pt.cells, Pt.slots] at X' l1 y1 z1 st hQ
  subst l1 y1 z1
  exact ⟨v, T', L, X', hQ, fun t k => st.trans k⟩
end OwnLayer
theorem own_pn1 : plainFor (⟨"com/example/unify_trace/unifytrace/term/Term", "isNameCharacter", "(C)Z"⟩ : MethodName) = true := plainFor_of_name (by first | (simp [plainName, overriddenIn]; done) | decide +kernel)
theorem own_ef1_I (m : MethodId) (x0 : Int32) : entryFrame m #[(.int x0)] 1 = mkF m 0 #[.val (.int x0)] [] := by first | (simp [entryFrame, mkF, argsToLocals, Value.category]; done) | rfl
theorem own_d1_0 : decode prog_26_method_8_code 0 = .ok (.iload_n 0, 1) := by decide +kernel
theorem own_d1_1 : decode prog_26_method_8_code 1 = .ok (.bipush 97, 2) := by decide +kernel
theorem own_d1_3 : decode prog_26_method_8_code 3 = .ok (.if_icmp .lt 9, 3) := by decide +kernel
theorem own_d1_12 : decode prog_26_method_8_code 12 = .ok (.iload_n 0, 1) := by decide +kernel
theorem own_d1_13 : decode prog_26_method_8_code 13 = .ok (.bipush 65, 2) := by decide +kernel
theorem own_d1_15 : decode prog_26_method_8_code 15 = .ok (.if_icmp .lt 9, 3) := by decide +kernel
theorem own_d1_24 : decode prog_26_method_8_code 24 = .ok (.iload_n 0, 1) := by decide +kernel
theorem own_d1_25 : decode prog_26_method_8_code 25 = .ok (.bipush 48, 2) := by decide +kernel
theorem own_d1_27 : decode prog_26_method_8_code 27 = .ok (.if_icmp .lt 9, 3) := by decide +kernel
theorem own_d1_36 : decode prog_26_method_8_code 36 = .ok (.iload_n 0, 1) := by decide +kernel
theorem own_d1_37 : decode prog_26_method_8_code 37 = .ok (.bipush 95, 2) := by decide +kernel
theorem own_d1_39 : decode prog_26_method_8_code 39 = .ok (.if_icmp .ne 7, 3) := by decide +kernel
theorem own_d1_42 : decode prog_26_method_8_code 42 = .ok (.iconst 1, 1) := by decide +kernel
theorem own_d1_43 : decode prog_26_method_8_code 43 = .ok (.goto 4, 3) := by decide +kernel
theorem own_d1_47 : decode prog_26_method_8_code 47 = .ok (.ireturn, 1) := by decide +kernel
theorem own_d1_46 : decode prog_26_method_8_code 46 = .ok (.iconst 0, 1) := by decide +kernel
theorem own_d1_30 : decode prog_26_method_8_code 30 = .ok (.iload_n 0, 1) := by decide +kernel
theorem own_d1_31 : decode prog_26_method_8_code 31 = .ok (.bipush 57, 2) := by decide +kernel
theorem own_d1_33 : decode prog_26_method_8_code 33 = .ok (.if_icmp .le 9, 3) := by decide +kernel
theorem own_d1_18 : decode prog_26_method_8_code 18 = .ok (.iload_n 0, 1) := by decide +kernel
theorem own_d1_19 : decode prog_26_method_8_code 19 = .ok (.bipush 90, 2) := by decide +kernel
theorem own_d1_21 : decode prog_26_method_8_code 21 = .ok (.if_icmp .le 21, 3) := by decide +kernel
theorem own_d1_6 : decode prog_26_method_8_code 6 = .ok (.iload_n 0, 1) := by decide +kernel
theorem own_d1_7 : decode prog_26_method_8_code 7 = .ok (.bipush 122, 2) := by decide +kernel
theorem own_d1_9 : decode prog_26_method_8_code 9 = .ok (.if_icmp .le 33, 3) := by decide +kernel
theorem own_pn2 : plainFor (⟨"com/example/unify_trace/unifytrace/term/TermIsNameCharacterPinLaw", "reference", "(C)Z"⟩ : MethodName) = true := plainFor_of_name (by first | (simp [plainName, overriddenIn]; done) | decide +kernel)
theorem own_ef2_I (m : MethodId) (x0 : Int32) : entryFrame m #[(.int x0)] 4 = mkF m 0 #[.val (.int x0), .unset, .unset, .unset] [] := by first | (simp [entryFrame, mkF, argsToLocals, Value.category]; done) | rfl
theorem own_d2_0 : decode method_2_code 0 = .ok (.iload_n 0, 1) := by decide +kernel
theorem own_d2_1 : decode method_2_code 1 = .ok (.istore_n 1, 1) := by decide +kernel
theorem own_d2_2 : decode method_2_code 2 = .ok (.iload_n 1, 1) := by decide +kernel
theorem own_d2_3 : decode method_2_code 3 = .ok (.sipush 128, 3) := by decide +kernel
theorem own_d2_6 : decode method_2_code 6 = .ok (.if_icmp .lt 5, 3) := by decide +kernel
theorem own_d2_11 : decode method_2_code 11 = .ok (.iload_n 1, 1) := by decide +kernel
theorem own_d2_12 : decode method_2_code 12 = .ok (.iconst 5, 1) := by decide +kernel
theorem own_d2_13 : decode method_2_code 13 = .ok (.ishr, 1) := by decide +kernel
theorem own_d2_14 : decode method_2_code 14 = .ok (.istore_n 2, 1) := by decide +kernel
theorem own_d2_15 : decode method_2_code 15 = .ok (.iload_n 2, 1) := by decide +kernel
theorem own_d2_16 : decode method_2_code 16 = .ok (.ifCond .ne 8, 3) := by decide +kernel
theorem own_d2_19 : decode method_2_code 19 = .ok (.iconst 0, 1) := by decide +kernel
theorem own_d2_20 : decode method_2_code 20 = .ok (.istore_n 3, 1) := by decide +kernel
theorem own_d2_21 : decode method_2_code 21 = .ok (.goto 28, 3) := by decide +kernel
theorem own_d2_49 : decode method_2_code 49 = .ok (.iload_n 3, 1) := by decide +kernel
theorem own_d2_50 : decode method_2_code 50 = .ok (.iload_n 1, 1) := by decide +kernel
theorem own_d2_51 : decode method_2_code 51 = .ok (.bipush 31, 2) := by decide +kernel
theorem own_d2_53 : decode method_2_code 53 = .ok (.iand, 1) := by decide +kernel
theorem own_d2_54 : decode method_2_code 54 = .ok (.iushr, 1) := by decide +kernel
theorem own_d2_55 : decode method_2_code 55 = .ok (.iconst 1, 1) := by decide +kernel
theorem own_d2_56 : decode method_2_code 56 = .ok (.iand, 1) := by decide +kernel
theorem own_d2_57 : decode method_2_code 57 = .ok (.ifCond .eq 7, 3) := by decide +kernel
theorem own_d2_64 : decode method_2_code 64 = .ok (.iconst 0, 1) := by decide +kernel
theorem own_d2_65 : decode method_2_code 65 = .ok (.ireturn, 1) := by decide +kernel
theorem own_d2_60 : decode method_2_code 60 = .ok (.iconst 1, 1) := by decide +kernel
theorem own_d2_61 : decode method_2_code 61 = .ok (.goto 4, 3) := by decide +kernel
theorem own_d2_24 : decode method_2_code 24 = .ok (.iload_n 2, 1) := by decide +kernel
theorem own_d2_25 : decode method_2_code 25 = .ok (.iconst 1, 1) := by decide +kernel
theorem own_d2_26 : decode method_2_code 26 = .ok (.if_icmp .ne 9, 3) := by decide +kernel
theorem own_d2_29 : decode method_2_code 29 = .ok (.ldc 7, 2) := by decide +kernel
theorem own_d2_31 : decode method_2_code 31 = .ok (.istore_n 3, 1) := by decide +kernel
theorem own_d2_32 : decode method_2_code 32 = .ok (.goto 17, 3) := by decide +kernel
theorem own_d2_35 : decode method_2_code 35 = .ok (.iload_n 2, 1) := by decide +kernel
theorem own_d2_36 : decode method_2_code 36 = .ok (.iconst 2, 1) := by decide +kernel
theorem own_d2_37 : decode method_2_code 37 = .ok (.if_icmp .ne 9, 3) := by decide +kernel
theorem own_d2_40 : decode method_2_code 40 = .ok (.ldc 8, 2) := by decide +kernel
theorem own_d2_42 : decode method_2_code 42 = .ok (.istore_n 3, 1) := by decide +kernel
theorem own_d2_43 : decode method_2_code 43 = .ok (.goto 6, 3) := by decide +kernel
theorem own_d2_46 : decode method_2_code 46 = .ok (.ldc 9, 2) := by decide +kernel
theorem own_d2_48 : decode method_2_code 48 = .ok (.istore_n 3, 1) := by decide +kernel
theorem own_d2_9 : decode method_2_code 9 = .ok (.iconst 0, 1) := by decide +kernel
theorem own_d2_10 : decode method_2_code 10 = .ok (.ireturn, 1) := by decide +kernel
theorem own_pn0 : plainFor (⟨"com/example/unify_trace/unifytrace/term/TermIsNameCharacterPinLaw", "law", "(I)Z"⟩ : MethodName) = true := plainFor_of_name (by first | (simp [plainName, overriddenIn]; done) | decide +kernel)
theorem own_ef0_I (m : MethodId) (x0 : Int32) : entryFrame m #[(.int x0)] maxLocals = mkF m 0 #[.val (.int x0), .unset] [] := by first | (simp [entryFrame, mkF, argsToLocals, Value.category, maxLocals]; done) | rfl
theorem own_pd0 : parseMethodDescriptor "(C)Z" = some ⟨[.char], some .boolean⟩ := by decide +kernel
def own_nm3 (c : Int32) : Int32 := if c < 48 then (if c = 95 then 1 else 0) else if 57 < c then (if c = 95 then 1 else 0) else 1
def own_nm2 (c : Int32) : Int32 := if c < 65 then own_nm3 c else if 90 < c then own_nm3 c else 1
def own_nm (c : Int32) : Int32 := if c < 97 then own_nm2 c else if 122 < c then own_nm2 c else 1
def own_bit (w c : Int32) : Int32 := if ((w.toUInt32 >>> ((c &&& 31) &&& 31).toUInt32).toInt32 &&& 1) = 0 then 0 else 1
def own_rf (c : Int32) : Int32 := if c < 128 then (if c >>> (5 &&& 31) = 0 then own_bit 0 c else if c >>> (5 &&& 31) = 1 then own_bit 67043328 c else if c >>> (5 &&& 31) = 2 then own_bit (-2013265922) c else own_bit 134217726 c) else 0
theorem own_small : ∀ k : Fin 128, own_nm (Int32.ofNat k.val) = own_rf (Int32.ofNat k.val) := by decide +kernel
theorem own_law (c : Int32) (h0 : 0 ≤ c.toInt) : own_nm c = own_rf c := by
  by_cases h : c < 128
  · have h2 : c.toInt < 128 := by rw [Int32.lt_iff_toInt_lt] at h; exact h
    have e : c = Int32.ofNat c.toInt.toNat := by
      apply Int32.toInt_inj.mp
      rw [Int32.toInt_ofNat_small (by omega)]
      omega
    have q := own_small ⟨c.toInt.toNat, by omega⟩
    rw [e]; exact q
  · have h2 : ¬ c.toInt < 128 := by rw [Int32.lt_iff_toInt_lt] at h; exact h
    have a1 : ¬ c < 97 := by rw [Int32.lt_iff_toInt_lt]; show ¬ c.toInt < 97; omega
    have a2 : (122 : Int32) < c := by rw [Int32.lt_iff_toInt_lt]; show 122 < c.toInt; omega
    have a3 : ¬ c < 65 := by rw [Int32.lt_iff_toInt_lt]; show ¬ c.toInt < 65; omega
    have a4 : (90 : Int32) < c := by rw [Int32.lt_iff_toInt_lt]; show 90 < c.toInt; omega
    have a5 : ¬ c < 48 := by rw [Int32.lt_iff_toInt_lt]; show ¬ c.toInt < 48; omega
    have a6 : (57 : Int32) < c := by rw [Int32.lt_iff_toInt_lt]; show 57 < c.toInt; omega
    have a7 : ¬ c = 95 := fun q => by subst q; exact h2 (by decide)
    simp only [own_nm, own_nm2, own_nm3, own_rf, a1, a2, a3, a4, a5, a6, a7, h, if_true, if_false]
theorem own_ch (x : Int32) : 0 ≤ x.toUInt32.toUInt16.toUInt32.toInt32.toInt := by
  rw [show x.toUInt32.toUInt16.toUInt32.toInt32.toInt = x.toUInt32.toUInt16.toUInt32.toInt32.toBitVec.toInt from rfl, BitVec.toInt_eq_toNat_bmod]
  have h : x.toUInt32.toUInt16.toUInt32.toInt32.toBitVec.toNat < 65536 := by
    have e : x.toUInt32.toUInt16.toUInt32.toInt32.toBitVec.toNat = x.toUInt32.toUInt16.toNat := UInt16.toNat_toUInt32 _
    have := x.toUInt32.toUInt16.toNat_lt
    omega
  rw [Int.bmod_def]; omega
set_option maxRecDepth 65536 in
set_option maxHeartbeats 40000000 in
theorem rm1 (l : Launch) (Z : State) (a0 : Array Value) (hw : ∀ d ∈ tables_1, d.before a0 Z = true) (p1 : Int32) (h0 : Heap)  :
    OMet l Z (⟨"com/example/unify_trace/unifytrace/term/Term", "isNameCharacter", "(C)Z"⟩ : MethodName) prog_26_method_8_code 1 (some .boolean) (⟨0, 0, 0, 0⟩ : Room) #[(.int p1)] h0 (fun v h L => v = some (.int (own_nm p1)) ∧ h = h0 ∧ L = []) := by
  refine own_enter own_pn1 ?_
  intro p e s m below meth c T0 X0 hC e0
  obtain ⟨hx, hZ, hby, hml, hown, hret, hlk, hnm⟩ := hC
  have hown : s.vm.findClass "com/example/unify_trace/unifytrace/term/Term" = some m.cls := hown
  refine own_at (own_ef1_I m p1) ?_
  show OFin p e below s _ _ _ (T0.setTop (mkF m 0 #[.val (.int p1)] []))
  refine own_st (fun _ kS => XS.iloadN X0.here hx rfl (hb hby own_d1_0) rfl kS) ?_
  show OFin p e below s _ _ _ (T0.setTop (mkF m 1 #[.val (.int p1)] [(.int p1)]))
  refine own_st (fun _ kS => XS.bipush X0.here hx rfl (hb hby own_d1_1) kS) ?_
  show OFin p e below s _ _ _ (T0.setTop (mkF m 3 #[.val (.int p1)] [(.int (97 : Int32)), (.int p1)]))
  by_cases c1 : p1 < (97 : Int32)
  · refine own_st (fun _ kS => XS.icmpYes X0.here hx rfl (pc0 := 3) (pc' := 12) rfl (hb hby own_d1_3) rfl (tlt c1).1 (by decide) (by decide) kS) ?_
    show OFin p e below s _ _ _ (T0.setTop (mkF m 12 #[.val (.int p1)] []))
    refine own_st (fun _ kS => XS.iloadN X0.here hx rfl (hb hby own_d1_12) rfl kS) ?_
    show OFin p e below s _ _ _ (T0.setTop (mkF m 13 #[.val (.int p1)] [(.int p1)]))
    refine own_st (fun _ kS => XS.bipush X0.here hx rfl (hb hby own_d1_13) kS) ?_
    show OFin p e below s _ _ _ (T0.setTop (mkF m 15 #[.val (.int p1)] [(.int (65 : Int32)), (.int p1)]))
    by_cases c2 : p1 < (65 : Int32)
    · refine own_st (fun _ kS => XS.icmpYes X0.here hx rfl (pc0 := 15) (pc' := 24) rfl (hb hby own_d1_15) rfl (tlt c2).1 (by decide) (by decide) kS) ?_
      show OFin p e below s _ _ _ (T0.setTop (mkF m 24 #[.val (.int p1)] []))
      refine own_st (fun _ kS => XS.iloadN X0.here hx rfl (hb hby own_d1_24) rfl kS) ?_
      show OFin p e below s _ _ _ (T0.setTop (mkF m 25 #[.val (.int p1)] [(.int p1)]))
      refine own_st (fun _ kS => XS.bipush X0.here hx rfl (hb hby own_d1_25) kS) ?_
      show OFin p e below s _ _ _ (T0.setTop (mkF m 27 #[.val (.int p1)] [(.int (48 : Int32)), (.int p1)]))
      by_cases c3 : p1 < (48 : Int32)
      · refine own_st (fun _ kS => XS.icmpYes X0.here hx rfl (pc0 := 27) (pc' := 36) rfl (hb hby own_d1_27) rfl (tlt c3).1 (by decide) (by decide) kS) ?_
        show OFin p e below s _ _ _ (T0.setTop (mkF m 36 #[.val (.int p1)] []))
        refine own_st (fun _ kS => XS.iloadN X0.here hx rfl (hb hby own_d1_36) rfl kS) ?_
        show OFin p e below s _ _ _ (T0.setTop (mkF m 37 #[.val (.int p1)] [(.int p1)]))
        refine own_st (fun _ kS => XS.bipush X0.here hx rfl (hb hby own_d1_37) kS) ?_
        show OFin p e below s _ _ _ (T0.setTop (mkF m 39 #[.val (.int p1)] [(.int (95 : Int32)), (.int p1)]))
        by_cases c4 : p1 = (95 : Int32)
        · refine own_st (fun _ kS => XS.icmpNo X0.here hx rfl (hb hby own_d1_39) rfl (teq c4).2 kS) ?_
          show OFin p e below s _ _ _ (T0.setTop (mkF m 42 #[.val (.int p1)] []))
          refine own_st (fun _ kS => XS.iconst X0.here hx rfl (hb hby own_d1_42) kS) ?_
          show OFin p e below s _ _ _ (T0.setTop (mkF m 43 #[.val (.int p1)] [(.int (1 : Int32))]))
          refine own_st (fun _ kS => XS.goto X0.here hx rfl (pc0 := 43) (pc' := 47) rfl (hb hby own_d1_43) (by decide) (by decide) kS) ?_
          show OFin p e below s _ _ _ (T0.setTop (mkF m 47 #[.val (.int p1)] [(.int (1 : Int32))]))
          exact own_ret X0 hx (t := .boolean) hret hlk rfl (Or.inl ⟨rfl, by simp, _, rfl⟩) (hb hby own_d1_47) (by decide) (by decide) ⟨by first | (simp only [own_nm, own_nm2, own_nm3, c1, c2, c3, c4, if_true, if_false]; done) | (simp only [own_nm, own_nm2, own_nm3, c1, c2, c3, c4, if_true, if_false]; decide), e0, rfl⟩
        · refine own_st (fun _ kS => XS.icmpYes X0.here hx rfl (pc0 := 39) (pc' := 46) rfl (hb hby own_d1_39) rfl (feq c4).2 (by decide) (by decide) kS) ?_
          show OFin p e below s _ _ _ (T0.setTop (mkF m 46 #[.val (.int p1)] []))
          refine own_st (fun _ kS => XS.iconst X0.here hx rfl (hb hby own_d1_46) kS) ?_
          show OFin p e below s _ _ _ (T0.setTop (mkF m 47 #[.val (.int p1)] [(.int (0 : Int32))]))
          exact own_ret X0 hx (t := .boolean) hret hlk rfl (Or.inl ⟨rfl, by simp, _, rfl⟩) (hb hby own_d1_47) (by decide) (by decide) ⟨by first | (simp only [own_nm, own_nm2, own_nm3, c1, c2, c3, c4, if_true, if_false]; done) | (simp only [own_nm, own_nm2, own_nm3, c1, c2, c3, c4, if_true, if_false]; decide), e0, rfl⟩
      · refine own_st (fun _ kS => XS.icmpNo X0.here hx rfl (hb hby own_d1_27) rfl (flt c3).1 kS) ?_
        show OFin p e below s _ _ _ (T0.setTop (mkF m 30 #[.val (.int p1)] []))
        refine own_st (fun _ kS => XS.iloadN X0.here hx rfl (hb hby own_d1_30) rfl kS) ?_
        show OFin p e below s _ _ _ (T0.setTop (mkF m 31 #[.val (.int p1)] [(.int p1)]))
        refine own_st (fun _ kS => XS.bipush X0.here hx rfl (hb hby own_d1_31) kS) ?_
        show OFin p e below s _ _ _ (T0.setTop (mkF m 33 #[.val (.int p1)] [(.int (57 : Int32)), (.int p1)]))
        by_cases c4 : (57 : Int32) < p1
        · refine own_st (fun _ kS => XS.icmpNo X0.here hx rfl (hb hby own_d1_33) rfl (tlt c4).2.2.2 kS) ?_
          show OFin p e below s _ _ _ (T0.setTop (mkF m 36 #[.val (.int p1)] []))
          refine own_st (fun _ kS => XS.iloadN X0.here hx rfl (hb hby own_d1_36) rfl kS) ?_
          show OFin p e below s _ _ _ (T0.setTop (mkF m 37 #[.val (.int p1)] [(.int p1)]))
          refine own_st (fun _ kS => XS.bipush X0.here hx rfl (hb hby own_d1_37) kS) ?_
          show OFin p e below s _ _ _ (T0.setTop (mkF m 39 #[.val (.int p1)] [(.int (95 : Int32)), (.int p1)]))
          by_cases c5 : p1 = (95 : Int32)
          · refine own_st (fun _ kS => XS.icmpNo X0.here hx rfl (hb hby own_d1_39) rfl (teq c5).2 kS) ?_
            show OFin p e below s _ _ _ (T0.setTop (mkF m 42 #[.val (.int p1)] []))
            refine own_st (fun _ kS => XS.iconst X0.here hx rfl (hb hby own_d1_42) kS) ?_
            show OFin p e below s _ _ _ (T0.setTop (mkF m 43 #[.val (.int p1)] [(.int (1 : Int32))]))
            refine own_st (fun _ kS => XS.goto X0.here hx rfl (pc0 := 43) (pc' := 47) rfl (hb hby own_d1_43) (by decide) (by decide) kS) ?_
            show OFin p e below s _ _ _ (T0.setTop (mkF m 47 #[.val (.int p1)] [(.int (1 : Int32))]))
            exact own_ret X0 hx (t := .boolean) hret hlk rfl (Or.inl ⟨rfl, by simp, _, rfl⟩) (hb hby own_d1_47) (by decide) (by decide) ⟨by first | (simp only [own_nm, own_nm2, own_nm3, c1, c2, c3, c4, c5, if_true, if_false]; done) | (simp only [own_nm, own_nm2, own_nm3, c1, c2, c3, c4, c5, if_true, if_false]; decide), e0, rfl⟩
          · refine own_st (fun _ kS => XS.icmpYes X0.here hx rfl (pc0 := 39) (pc' := 46) rfl (hb hby own_d1_39) rfl (feq c5).2 (by decide) (by decide) kS) ?_
            show OFin p e below s _ _ _ (T0.setTop (mkF m 46 #[.val (.int p1)] []))
            refine own_st (fun _ kS => XS.iconst X0.here hx rfl (hb hby own_d1_46) kS) ?_
            show OFin p e below s _ _ _ (T0.setTop (mkF m 47 #[.val (.int p1)] [(.int (0 : Int32))]))
            exact own_ret X0 hx (t := .boolean) hret hlk rfl (Or.inl ⟨rfl, by simp, _, rfl⟩) (hb hby own_d1_47) (by decide) (by decide) ⟨by first | (simp only [own_nm, own_nm2, own_nm3, c1, c2, c3, c4, c5, if_true, if_false]; done) | (simp only [own_nm, own_nm2, own_nm3, c1, c2, c3, c4, c5, if_true, if_false]; decide), e0, rfl⟩
        · refine own_st (fun _ kS => XS.icmpYes X0.here hx rfl (pc0 := 33) (pc' := 42) rfl (hb hby own_d1_33) rfl (flt c4).2.2.2 (by decide) (by decide) kS) ?_
          show OFin p e below s _ _ _ (T0.setTop (mkF m 42 #[.val (.int p1)] []))
          refine own_st (fun _ kS => XS.iconst X0.here hx rfl (hb hby own_d1_42) kS) ?_
          show OFin p e below s _ _ _ (T0.setTop (mkF m 43 #[.val (.int p1)] [(.int (1 : Int32))]))
          refine own_st (fun _ kS => XS.goto X0.here hx rfl (pc0 := 43) (pc' := 47) rfl (hb hby own_d1_43) (by decide) (by decide) kS) ?_
          show OFin p e below s _ _ _ (T0.setTop (mkF m 47 #[.val (.int p1)] [(.int (1 : Int32))]))
          exact own_ret X0 hx (t := .boolean) hret hlk rfl (Or.inl ⟨rfl, by simp, _, rfl⟩) (hb hby own_d1_47) (by decide) (by decide) ⟨by first | (simp only [own_nm, own_nm2, own_nm3, c1, c2, c3, c4, if_true, if_false]; done) | (simp only [own_nm, own_nm2, own_nm3, c1, c2, c3, c4, if_true, if_false]; decide), e0, rfl⟩
    · refine own_st (fun _ kS => XS.icmpNo X0.here hx rfl (hb hby own_d1_15) rfl (flt c2).1 kS) ?_
      show OFin p e below s _ _ _ (T0.setTop (mkF m 18 #[.val (.int p1)] []))
      refine own_st (fun _ kS => XS.iloadN X0.here hx rfl (hb hby own_d1_18) rfl kS) ?_
      show OFin p e below s _ _ _ (T0.setTop (mkF m 19 #[.val (.int p1)] [(.int p1)]))
      refine own_st (fun _ kS => XS.bipush X0.here hx rfl (hb hby own_d1_19) kS) ?_
      show OFin p e below s _ _ _ (T0.setTop (mkF m 21 #[.val (.int p1)] [(.int (90 : Int32)), (.int p1)]))
      by_cases c3 : (90 : Int32) < p1
      · refine own_st (fun _ kS => XS.icmpNo X0.here hx rfl (hb hby own_d1_21) rfl (tlt c3).2.2.2 kS) ?_
        show OFin p e below s _ _ _ (T0.setTop (mkF m 24 #[.val (.int p1)] []))
        refine own_st (fun _ kS => XS.iloadN X0.here hx rfl (hb hby own_d1_24) rfl kS) ?_
        show OFin p e below s _ _ _ (T0.setTop (mkF m 25 #[.val (.int p1)] [(.int p1)]))
        refine own_st (fun _ kS => XS.bipush X0.here hx rfl (hb hby own_d1_25) kS) ?_
        show OFin p e below s _ _ _ (T0.setTop (mkF m 27 #[.val (.int p1)] [(.int (48 : Int32)), (.int p1)]))
        by_cases c4 : p1 < (48 : Int32)
        · refine own_st (fun _ kS => XS.icmpYes X0.here hx rfl (pc0 := 27) (pc' := 36) rfl (hb hby own_d1_27) rfl (tlt c4).1 (by decide) (by decide) kS) ?_
          show OFin p e below s _ _ _ (T0.setTop (mkF m 36 #[.val (.int p1)] []))
          refine own_st (fun _ kS => XS.iloadN X0.here hx rfl (hb hby own_d1_36) rfl kS) ?_
          show OFin p e below s _ _ _ (T0.setTop (mkF m 37 #[.val (.int p1)] [(.int p1)]))
          refine own_st (fun _ kS => XS.bipush X0.here hx rfl (hb hby own_d1_37) kS) ?_
          show OFin p e below s _ _ _ (T0.setTop (mkF m 39 #[.val (.int p1)] [(.int (95 : Int32)), (.int p1)]))
          by_cases c5 : p1 = (95 : Int32)
          · refine own_st (fun _ kS => XS.icmpNo X0.here hx rfl (hb hby own_d1_39) rfl (teq c5).2 kS) ?_
            show OFin p e below s _ _ _ (T0.setTop (mkF m 42 #[.val (.int p1)] []))
            refine own_st (fun _ kS => XS.iconst X0.here hx rfl (hb hby own_d1_42) kS) ?_
            show OFin p e below s _ _ _ (T0.setTop (mkF m 43 #[.val (.int p1)] [(.int (1 : Int32))]))
            refine own_st (fun _ kS => XS.goto X0.here hx rfl (pc0 := 43) (pc' := 47) rfl (hb hby own_d1_43) (by decide) (by decide) kS) ?_
            show OFin p e below s _ _ _ (T0.setTop (mkF m 47 #[.val (.int p1)] [(.int (1 : Int32))]))
            exact own_ret X0 hx (t := .boolean) hret hlk rfl (Or.inl ⟨rfl, by simp, _, rfl⟩) (hb hby own_d1_47) (by decide) (by decide) ⟨by first | (simp only [own_nm, own_nm2, own_nm3, c1, c2, c3, c4, c5, if_true, if_false]; done) | (simp only [own_nm, own_nm2, own_nm3, c1, c2, c3, c4, c5, if_true, if_false]; decide), e0, rfl⟩
          · refine own_st (fun _ kS => XS.icmpYes X0.here hx rfl (pc0 := 39) (pc' := 46) rfl (hb hby own_d1_39) rfl (feq c5).2 (by decide) (by decide) kS) ?_
            show OFin p e below s _ _ _ (T0.setTop (mkF m 46 #[.val (.int p1)] []))
            refine own_st (fun _ kS => XS.iconst X0.here hx rfl (hb hby own_d1_46) kS) ?_
            show OFin p e below s _ _ _ (T0.setTop (mkF m 47 #[.val (.int p1)] [(.int (0 : Int32))]))
            exact own_ret X0 hx (t := .boolean) hret hlk rfl (Or.inl ⟨rfl, by simp, _, rfl⟩) (hb hby own_d1_47) (by decide) (by decide) ⟨by first | (simp only [own_nm, own_nm2, own_nm3, c1, c2, c3, c4, c5, if_true, if_false]; done) | (simp only [own_nm, own_nm2, own_nm3, c1, c2, c3, c4, c5, if_true, if_false]; decide), e0, rfl⟩
        · refine own_st (fun _ kS => XS.icmpNo X0.here hx rfl (hb hby own_d1_27) rfl (flt c4).1 kS) ?_
          show OFin p e below s _ _ _ (T0.setTop (mkF m 30 #[.val (.int p1)] []))
          refine own_st (fun _ kS => XS.iloadN X0.here hx rfl (hb hby own_d1_30) rfl kS) ?_
          show OFin p e below s _ _ _ (T0.setTop (mkF m 31 #[.val (.int p1)] [(.int p1)]))
          refine own_st (fun _ kS => XS.bipush X0.here hx rfl (hb hby own_d1_31) kS) ?_
          show OFin p e below s _ _ _ (T0.setTop (mkF m 33 #[.val (.int p1)] [(.int (57 : Int32)), (.int p1)]))
          by_cases c5 : (57 : Int32) < p1
          · refine own_st (fun _ kS => XS.icmpNo X0.here hx rfl (hb hby own_d1_33) rfl (tlt c5).2.2.2 kS) ?_
            show OFin p e below s _ _ _ (T0.setTop (mkF m 36 #[.val (.int p1)] []))
            refine own_st (fun _ kS => XS.iloadN X0.here hx rfl (hb hby own_d1_36) rfl kS) ?_
            show OFin p e below s _ _ _ (T0.setTop (mkF m 37 #[.val (.int p1)] [(.int p1)]))
            refine own_st (fun _ kS => XS.bipush X0.here hx rfl (hb hby own_d1_37) kS) ?_
            show OFin p e below s _ _ _ (T0.setTop (mkF m 39 #[.val (.int p1)] [(.int (95 : Int32)), (.int p1)]))
            by_cases c6 : p1 = (95 : Int32)
            · refine own_st (fun _ kS => XS.icmpNo X0.here hx rfl (hb hby own_d1_39) rfl (teq c6).2 kS) ?_
              show OFin p e below s _ _ _ (T0.setTop (mkF m 42 #[.val (.int p1)] []))
              refine own_st (fun _ kS => XS.iconst X0.here hx rfl (hb hby own_d1_42) kS) ?_
              show OFin p e below s _ _ _ (T0.setTop (mkF m 43 #[.val (.int p1)] [(.int (1 : Int32))]))
              refine own_st (fun _ kS => XS.goto X0.here hx rfl (pc0 := 43) (pc' := 47) rfl (hb hby own_d1_43) (by decide) (by decide) kS) ?_
              show OFin p e below s _ _ _ (T0.setTop (mkF m 47 #[.val (.int p1)] [(.int (1 : Int32))]))
              exact own_ret X0 hx (t := .boolean) hret hlk rfl (Or.inl ⟨rfl, by simp, _, rfl⟩) (hb hby own_d1_47) (by decide) (by decide) ⟨by first | (simp only [own_nm, own_nm2, own_nm3, c1, c2, c3, c4, c5, c6, if_true, if_false]; done) | (simp only [own_nm, own_nm2, own_nm3, c1, c2, c3, c4, c5, c6, if_true, if_false]; decide), e0, rfl⟩
            · refine own_st (fun _ kS => XS.icmpYes X0.here hx rfl (pc0 := 39) (pc' := 46) rfl (hb hby own_d1_39) rfl (feq c6).2 (by decide) (by decide) kS) ?_
              show OFin p e below s _ _ _ (T0.setTop (mkF m 46 #[.val (.int p1)] []))
              refine own_st (fun _ kS => XS.iconst X0.here hx rfl (hb hby own_d1_46) kS) ?_
              show OFin p e below s _ _ _ (T0.setTop (mkF m 47 #[.val (.int p1)] [(.int (0 : Int32))]))
              exact own_ret X0 hx (t := .boolean) hret hlk rfl (Or.inl ⟨rfl, by simp, _, rfl⟩) (hb hby own_d1_47) (by decide) (by decide) ⟨by first | (simp only [own_nm, own_nm2, own_nm3, c1, c2, c3, c4, c5, c6, if_true, if_false]; done) | (simp only [own_nm, own_nm2, own_nm3, c1, c2, c3, c4, c5, c6, if_true, if_false]; decide), e0, rfl⟩
          · refine own_st (fun _ kS => XS.icmpYes X0.here hx rfl (pc0 := 33) (pc' := 42) rfl (hb hby own_d1_33) rfl (flt c5).2.2.2 (by decide) (by decide) kS) ?_
            show OFin p e below s _ _ _ (T0.setTop (mkF m 42 #[.val (.int p1)] []))
            refine own_st (fun _ kS => XS.iconst X0.here hx rfl (hb hby own_d1_42) kS) ?_
            show OFin p e below s _ _ _ (T0.setTop (mkF m 43 #[.val (.int p1)] [(.int (1 : Int32))]))
            refine own_st (fun _ kS => XS.goto X0.here hx rfl (pc0 := 43) (pc' := 47) rfl (hb hby own_d1_43) (by decide) (by decide) kS) ?_
            show OFin p e below s _ _ _ (T0.setTop (mkF m 47 #[.val (.int p1)] [(.int (1 : Int32))]))
            exact own_ret X0 hx (t := .boolean) hret hlk rfl (Or.inl ⟨rfl, by simp, _, rfl⟩) (hb hby own_d1_47) (by decide) (by decide) ⟨by first | (simp only [own_nm, own_nm2, own_nm3, c1, c2, c3, c4, c5, if_true, if_false]; done) | (simp only [own_nm, own_nm2, own_nm3, c1, c2, c3, c4, c5, if_true, if_false]; decide), e0, rfl⟩
      · refine own_st (fun _ kS => XS.icmpYes X0.here hx rfl (pc0 := 21) (pc' := 42) rfl (hb hby own_d1_21) rfl (flt c3).2.2.2 (by decide) (by decide) kS) ?_
        show OFin p e below s _ _ _ (T0.setTop (mkF m 42 #[.val (.int p1)] []))
        refine own_st (fun _ kS => XS.iconst X0.here hx rfl (hb hby own_d1_42) kS) ?_
        show OFin p e below s _ _ _ (T0.setTop (mkF m 43 #[.val (.int p1)] [(.int (1 : Int32))]))
        refine own_st (fun _ kS => XS.goto X0.here hx rfl (pc0 := 43) (pc' := 47) rfl (hb hby own_d1_43) (by decide) (by decide) kS) ?_
        show OFin p e below s _ _ _ (T0.setTop (mkF m 47 #[.val (.int p1)] [(.int (1 : Int32))]))
        exact own_ret X0 hx (t := .boolean) hret hlk rfl (Or.inl ⟨rfl, by simp, _, rfl⟩) (hb hby own_d1_47) (by decide) (by decide) ⟨by first | (simp only [own_nm, own_nm2, own_nm3, c1, c2, c3, if_true, if_false]; done) | (simp only [own_nm, own_nm2, own_nm3, c1, c2, c3, if_true, if_false]; decide), e0, rfl⟩
  · refine own_st (fun _ kS => XS.icmpNo X0.here hx rfl (hb hby own_d1_3) rfl (flt c1).1 kS) ?_
    show OFin p e below s _ _ _ (T0.setTop (mkF m 6 #[.val (.int p1)] []))
    refine own_st (fun _ kS => XS.iloadN X0.here hx rfl (hb hby own_d1_6) rfl kS) ?_
    show OFin p e below s _ _ _ (T0.setTop (mkF m 7 #[.val (.int p1)] [(.int p1)]))
    refine own_st (fun _ kS => XS.bipush X0.here hx rfl (hb hby own_d1_7) kS) ?_
    show OFin p e below s _ _ _ (T0.setTop (mkF m 9 #[.val (.int p1)] [(.int (122 : Int32)), (.int p1)]))
    by_cases c2 : (122 : Int32) < p1
    · refine own_st (fun _ kS => XS.icmpNo X0.here hx rfl (hb hby own_d1_9) rfl (tlt c2).2.2.2 kS) ?_
      show OFin p e below s _ _ _ (T0.setTop (mkF m 12 #[.val (.int p1)] []))
      refine own_st (fun _ kS => XS.iloadN X0.here hx rfl (hb hby own_d1_12) rfl kS) ?_
      show OFin p e below s _ _ _ (T0.setTop (mkF m 13 #[.val (.int p1)] [(.int p1)]))
      refine own_st (fun _ kS => XS.bipush X0.here hx rfl (hb hby own_d1_13) kS) ?_
      show OFin p e below s _ _ _ (T0.setTop (mkF m 15 #[.val (.int p1)] [(.int (65 : Int32)), (.int p1)]))
      by_cases c3 : p1 < (65 : Int32)
      · refine own_st (fun _ kS => XS.icmpYes X0.here hx rfl (pc0 := 15) (pc' := 24) rfl (hb hby own_d1_15) rfl (tlt c3).1 (by decide) (by decide) kS) ?_
        show OFin p e below s _ _ _ (T0.setTop (mkF m 24 #[.val (.int p1)] []))
        refine own_st (fun _ kS => XS.iloadN X0.here hx rfl (hb hby own_d1_24) rfl kS) ?_
        show OFin p e below s _ _ _ (T0.setTop (mkF m 25 #[.val (.int p1)] [(.int p1)]))
        refine own_st (fun _ kS => XS.bipush X0.here hx rfl (hb hby own_d1_25) kS) ?_
        show OFin p e below s _ _ _ (T0.setTop (mkF m 27 #[.val (.int p1)] [(.int (48 : Int32)), (.int p1)]))
        by_cases c4 : p1 < (48 : Int32)
        · refine own_st (fun _ kS => XS.icmpYes X0.here hx rfl (pc0 := 27) (pc' := 36) rfl (hb hby own_d1_27) rfl (tlt c4).1 (by decide) (by decide) kS) ?_
          show OFin p e below s _ _ _ (T0.setTop (mkF m 36 #[.val (.int p1)] []))
          refine own_st (fun _ kS => XS.iloadN X0.here hx rfl (hb hby own_d1_36) rfl kS) ?_
          show OFin p e below s _ _ _ (T0.setTop (mkF m 37 #[.val (.int p1)] [(.int p1)]))
          refine own_st (fun _ kS => XS.bipush X0.here hx rfl (hb hby own_d1_37) kS) ?_
          show OFin p e below s _ _ _ (T0.setTop (mkF m 39 #[.val (.int p1)] [(.int (95 : Int32)), (.int p1)]))
          by_cases c5 : p1 = (95 : Int32)
          · refine own_st (fun _ kS => XS.icmpNo X0.here hx rfl (hb hby own_d1_39) rfl (teq c5).2 kS) ?_
            show OFin p e below s _ _ _ (T0.setTop (mkF m 42 #[.val (.int p1)] []))
            refine own_st (fun _ kS => XS.iconst X0.here hx rfl (hb hby own_d1_42) kS) ?_
            show OFin p e below s _ _ _ (T0.setTop (mkF m 43 #[.val (.int p1)] [(.int (1 : Int32))]))
            refine own_st (fun _ kS => XS.goto X0.here hx rfl (pc0 := 43) (pc' := 47) rfl (hb hby own_d1_43) (by decide) (by decide) kS) ?_
            show OFin p e below s _ _ _ (T0.setTop (mkF m 47 #[.val (.int p1)] [(.int (1 : Int32))]))
            exact own_ret X0 hx (t := .boolean) hret hlk rfl (Or.inl ⟨rfl, by simp, _, rfl⟩) (hb hby own_d1_47) (by decide) (by decide) ⟨by first | (simp only [own_nm, own_nm2, own_nm3, c1, c2, c3, c4, c5, if_true, if_false]; done) | (simp only [own_nm, own_nm2, own_nm3, c1, c2, c3, c4, c5, if_true, if_false]; decide), e0, rfl⟩
          · refine own_st (fun _ kS => XS.icmpYes X0.here hx rfl (pc0 := 39) (pc' := 46) rfl (hb hby own_d1_39) rfl (feq c5).2 (by decide) (by decide) kS) ?_
            show OFin p e below s _ _ _ (T0.setTop (mkF m 46 #[.val (.int p1)] []))
            refine own_st (fun _ kS => XS.iconst X0.here hx rfl (hb hby own_d1_46) kS) ?_
            show OFin p e below s _ _ _ (T0.setTop (mkF m 47 #[.val (.int p1)] [(.int (0 : Int32))]))
            exact own_ret X0 hx (t := .boolean) hret hlk rfl (Or.inl ⟨rfl, by simp, _, rfl⟩) (hb hby own_d1_47) (by decide) (by decide) ⟨by first | (simp only [own_nm, own_nm2, own_nm3, c1, c2, c3, c4, c5, if_true, if_false]; done) | (simp only [own_nm, own_nm2, own_nm3, c1, c2, c3, c4, c5, if_true, if_false]; decide), e0, rfl⟩
        · refine own_st (fun _ kS => XS.icmpNo X0.here hx rfl (hb hby own_d1_27) rfl (flt c4).1 kS) ?_
          show OFin p e below s _ _ _ (T0.setTop (mkF m 30 #[.val (.int p1)] []))
          refine own_st (fun _ kS => XS.iloadN X0.here hx rfl (hb hby own_d1_30) rfl kS) ?_
          show OFin p e below s _ _ _ (T0.setTop (mkF m 31 #[.val (.int p1)] [(.int p1)]))
          refine own_st (fun _ kS => XS.bipush X0.here hx rfl (hb hby own_d1_31) kS) ?_
          show OFin p e below s _ _ _ (T0.setTop (mkF m 33 #[.val (.int p1)] [(.int (57 : Int32)), (.int p1)]))
          by_cases c5 : (57 : Int32) < p1
          · refine own_st (fun _ kS => XS.icmpNo X0.here hx rfl (hb hby own_d1_33) rfl (tlt c5).2.2.2 kS) ?_
            show OFin p e below s _ _ _ (T0.setTop (mkF m 36 #[.val (.int p1)] []))
            refine own_st (fun _ kS => XS.iloadN X0.here hx rfl (hb hby own_d1_36) rfl kS) ?_
            show OFin p e below s _ _ _ (T0.setTop (mkF m 37 #[.val (.int p1)] [(.int p1)]))
            refine own_st (fun _ kS => XS.bipush X0.here hx rfl (hb hby own_d1_37) kS) ?_
            show OFin p e below s _ _ _ (T0.setTop (mkF m 39 #[.val (.int p1)] [(.int (95 : Int32)), (.int p1)]))
            by_cases c6 : p1 = (95 : Int32)
            · refine own_st (fun _ kS => XS.icmpNo X0.here hx rfl (hb hby own_d1_39) rfl (teq c6).2 kS) ?_
              show OFin p e below s _ _ _ (T0.setTop (mkF m 42 #[.val (.int p1)] []))
              refine own_st (fun _ kS => XS.iconst X0.here hx rfl (hb hby own_d1_42) kS) ?_
              show OFin p e below s _ _ _ (T0.setTop (mkF m 43 #[.val (.int p1)] [(.int (1 : Int32))]))
              refine own_st (fun _ kS => XS.goto X0.here hx rfl (pc0 := 43) (pc' := 47) rfl (hb hby own_d1_43) (by decide) (by decide) kS) ?_
              show OFin p e below s _ _ _ (T0.setTop (mkF m 47 #[.val (.int p1)] [(.int (1 : Int32))]))
              exact own_ret X0 hx (t := .boolean) hret hlk rfl (Or.inl ⟨rfl, by simp, _, rfl⟩) (hb hby own_d1_47) (by decide) (by decide) ⟨by first | (simp only [own_nm, own_nm2, own_nm3, c1, c2, c3, c4, c5, c6, if_true, if_false]; done) | (simp only [own_nm, own_nm2, own_nm3, c1, c2, c3, c4, c5, c6, if_true, if_false]; decide), e0, rfl⟩
            · refine own_st (fun _ kS => XS.icmpYes X0.here hx rfl (pc0 := 39) (pc' := 46) rfl (hb hby own_d1_39) rfl (feq c6).2 (by decide) (by decide) kS) ?_
              show OFin p e below s _ _ _ (T0.setTop (mkF m 46 #[.val (.int p1)] []))
              refine own_st (fun _ kS => XS.iconst X0.here hx rfl (hb hby own_d1_46) kS) ?_
              show OFin p e below s _ _ _ (T0.setTop (mkF m 47 #[.val (.int p1)] [(.int (0 : Int32))]))
              exact own_ret X0 hx (t := .boolean) hret hlk rfl (Or.inl ⟨rfl, by simp, _, rfl⟩) (hb hby own_d1_47) (by decide) (by decide) ⟨by first | (simp only [own_nm, own_nm2, own_nm3, c1, c2, c3, c4, c5, c6, if_true, if_false]; done) | (simp only [own_nm, own_nm2, own_nm3, c1, c2, c3, c4, c5, c6, if_true, if_false]; decide), e0, rfl⟩
          · refine own_st (fun _ kS => XS.icmpYes X0.here hx rfl (pc0 := 33) (pc' := 42) rfl (hb hby own_d1_33) rfl (flt c5).2.2.2 (by decide) (by decide) kS) ?_
            show OFin p e below s _ _ _ (T0.setTop (mkF m 42 #[.val (.int p1)] []))
            refine own_st (fun _ kS => XS.iconst X0.here hx rfl (hb hby own_d1_42) kS) ?_
            show OFin p e below s _ _ _ (T0.setTop (mkF m 43 #[.val (.int p1)] [(.int (1 : Int32))]))
            refine own_st (fun _ kS => XS.goto X0.here hx rfl (pc0 := 43) (pc' := 47) rfl (hb hby own_d1_43) (by decide) (by decide) kS) ?_
            show OFin p e below s _ _ _ (T0.setTop (mkF m 47 #[.val (.int p1)] [(.int (1 : Int32))]))
            exact own_ret X0 hx (t := .boolean) hret hlk rfl (Or.inl ⟨rfl, by simp, _, rfl⟩) (hb hby own_d1_47) (by decide) (by decide) ⟨by first | (simp only [own_nm, own_nm2, own_nm3, c1, c2, c3, c4, c5, if_true, if_false]; done) | (simp only [own_nm, own_nm2, own_nm3, c1, c2, c3, c4, c5, if_true, if_false]; decide), e0, rfl⟩
      · refine own_st (fun _ kS => XS.icmpNo X0.here hx rfl (hb hby own_d1_15) rfl (flt c3).1 kS) ?_
        show OFin p e below s _ _ _ (T0.setTop (mkF m 18 #[.val (.int p1)] []))
        refine own_st (fun _ kS => XS.iloadN X0.here hx rfl (hb hby own_d1_18) rfl kS) ?_
        show OFin p e below s _ _ _ (T0.setTop (mkF m 19 #[.val (.int p1)] [(.int p1)]))
        refine own_st (fun _ kS => XS.bipush X0.here hx rfl (hb hby own_d1_19) kS) ?_
        show OFin p e below s _ _ _ (T0.setTop (mkF m 21 #[.val (.int p1)] [(.int (90 : Int32)), (.int p1)]))
        by_cases c4 : (90 : Int32) < p1
        · refine own_st (fun _ kS => XS.icmpNo X0.here hx rfl (hb hby own_d1_21) rfl (tlt c4).2.2.2 kS) ?_
          show OFin p e below s _ _ _ (T0.setTop (mkF m 24 #[.val (.int p1)] []))
          refine own_st (fun _ kS => XS.iloadN X0.here hx rfl (hb hby own_d1_24) rfl kS) ?_
          show OFin p e below s _ _ _ (T0.setTop (mkF m 25 #[.val (.int p1)] [(.int p1)]))
          refine own_st (fun _ kS => XS.bipush X0.here hx rfl (hb hby own_d1_25) kS) ?_
          show OFin p e below s _ _ _ (T0.setTop (mkF m 27 #[.val (.int p1)] [(.int (48 : Int32)), (.int p1)]))
          by_cases c5 : p1 < (48 : Int32)
          · refine own_st (fun _ kS => XS.icmpYes X0.here hx rfl (pc0 := 27) (pc' := 36) rfl (hb hby own_d1_27) rfl (tlt c5).1 (by decide) (by decide) kS) ?_
            show OFin p e below s _ _ _ (T0.setTop (mkF m 36 #[.val (.int p1)] []))
            refine own_st (fun _ kS => XS.iloadN X0.here hx rfl (hb hby own_d1_36) rfl kS) ?_
            show OFin p e below s _ _ _ (T0.setTop (mkF m 37 #[.val (.int p1)] [(.int p1)]))
            refine own_st (fun _ kS => XS.bipush X0.here hx rfl (hb hby own_d1_37) kS) ?_
            show OFin p e below s _ _ _ (T0.setTop (mkF m 39 #[.val (.int p1)] [(.int (95 : Int32)), (.int p1)]))
            by_cases c6 : p1 = (95 : Int32)
            · refine own_st (fun _ kS => XS.icmpNo X0.here hx rfl (hb hby own_d1_39) rfl (teq c6).2 kS) ?_
              show OFin p e below s _ _ _ (T0.setTop (mkF m 42 #[.val (.int p1)] []))
              refine own_st (fun _ kS => XS.iconst X0.here hx rfl (hb hby own_d1_42) kS) ?_
              show OFin p e below s _ _ _ (T0.setTop (mkF m 43 #[.val (.int p1)] [(.int (1 : Int32))]))
              refine own_st (fun _ kS => XS.goto X0.here hx rfl (pc0 := 43) (pc' := 47) rfl (hb hby own_d1_43) (by decide) (by decide) kS) ?_
              show OFin p e below s _ _ _ (T0.setTop (mkF m 47 #[.val (.int p1)] [(.int (1 : Int32))]))
              exact own_ret X0 hx (t := .boolean) hret hlk rfl (Or.inl ⟨rfl, by simp, _, rfl⟩) (hb hby own_d1_47) (by decide) (by decide) ⟨by first | (simp only [own_nm, own_nm2, own_nm3, c1, c2, c3, c4, c5, c6, if_true, if_false]; done) | (simp only [own_nm, own_nm2, own_nm3, c1, c2, c3, c4, c5, c6, if_true, if_false]; decide), e0, rfl⟩
            · refine own_st (fun _ kS => XS.icmpYes X0.here hx rfl (pc0 := 39) (pc' := 46) rfl (hb hby own_d1_39) rfl (feq c6).2 (by decide) (by decide) kS) ?_
              show OFin p e below s _ _ _ (T0.setTop (mkF m 46 #[.val (.int p1)] []))
              refine own_st (fun _ kS => XS.iconst X0.here hx rfl (hb hby own_d1_46) kS) ?_
              show OFin p e below s _ _ _ (T0.setTop (mkF m 47 #[.val (.int p1)] [(.int (0 : Int32))]))
              exact own_ret X0 hx (t := .boolean) hret hlk rfl (Or.inl ⟨rfl, by simp, _, rfl⟩) (hb hby own_d1_47) (by decide) (by decide) ⟨by first | (simp only [own_nm, own_nm2, own_nm3, c1, c2, c3, c4, c5, c6, if_true, if_false]; done) | (simp only [own_nm, own_nm2, own_nm3, c1, c2, c3, c4, c5, c6, if_true, if_false]; decide), e0, rfl⟩
          · refine own_st (fun _ kS => XS.icmpNo X0.here hx rfl (hb hby own_d1_27) rfl (flt c5).1 kS) ?_
            show OFin p e below s _ _ _ (T0.setTop (mkF m 30 #[.val (.int p1)] []))
            refine own_st (fun _ kS => XS.iloadN X0.here hx rfl (hb hby own_d1_30) rfl kS) ?_
            show OFin p e below s _ _ _ (T0.setTop (mkF m 31 #[.val (.int p1)] [(.int p1)]))
            refine own_st (fun _ kS => XS.bipush X0.here hx rfl (hb hby own_d1_31) kS) ?_
            show OFin p e below s _ _ _ (T0.setTop (mkF m 33 #[.val (.int p1)] [(.int (57 : Int32)), (.int p1)]))
            by_cases c6 : (57 : Int32) < p1
            · refine own_st (fun _ kS => XS.icmpNo X0.here hx rfl (hb hby own_d1_33) rfl (tlt c6).2.2.2 kS) ?_
              show OFin p e below s _ _ _ (T0.setTop (mkF m 36 #[.val (.int p1)] []))
              refine own_st (fun _ kS => XS.iloadN X0.here hx rfl (hb hby own_d1_36) rfl kS) ?_
              show OFin p e below s _ _ _ (T0.setTop (mkF m 37 #[.val (.int p1)] [(.int p1)]))
              refine own_st (fun _ kS => XS.bipush X0.here hx rfl (hb hby own_d1_37) kS) ?_
              show OFin p e below s _ _ _ (T0.setTop (mkF m 39 #[.val (.int p1)] [(.int (95 : Int32)), (.int p1)]))
              by_cases c7 : p1 = (95 : Int32)
              · refine own_st (fun _ kS => XS.icmpNo X0.here hx rfl (hb hby own_d1_39) rfl (teq c7).2 kS) ?_
                show OFin p e below s _ _ _ (T0.setTop (mkF m 42 #[.val (.int p1)] []))
                refine own_st (fun _ kS => XS.iconst X0.here hx rfl (hb hby own_d1_42) kS) ?_
                show OFin p e below s _ _ _ (T0.setTop (mkF m 43 #[.val (.int p1)] [(.int (1 : Int32))]))
                refine own_st (fun _ kS => XS.goto X0.here hx rfl (pc0 := 43) (pc' := 47) rfl (hb hby own_d1_43) (by decide) (by decide) kS) ?_
                show OFin p e below s _ _ _ (T0.setTop (mkF m 47 #[.val (.int p1)] [(.int (1 : Int32))]))
                exact own_ret X0 hx (t := .boolean) hret hlk rfl (Or.inl ⟨rfl, by simp, _, rfl⟩) (hb hby own_d1_47) (by decide) (by decide) ⟨by first | (simp only [own_nm, own_nm2, own_nm3, c1, c2, c3, c4, c5, c6, c7, if_true, if_false]; done) | (simp only [own_nm, own_nm2, own_nm3, c1, c2, c3, c4, c5, c6, c7, if_true, if_false]; decide), e0, rfl⟩
              · refine own_st (fun _ kS => XS.icmpYes X0.here hx rfl (pc0 := 39) (pc' := 46) rfl (hb hby own_d1_39) rfl (feq c7).2 (by decide) (by decide) kS) ?_
                show OFin p e below s _ _ _ (T0.setTop (mkF m 46 #[.val (.int p1)] []))
                refine own_st (fun _ kS => XS.iconst X0.here hx rfl (hb hby own_d1_46) kS) ?_
                show OFin p e below s _ _ _ (T0.setTop (mkF m 47 #[.val (.int p1)] [(.int (0 : Int32))]))
                exact own_ret X0 hx (t := .boolean) hret hlk rfl (Or.inl ⟨rfl, by simp, _, rfl⟩) (hb hby own_d1_47) (by decide) (by decide) ⟨by first | (simp only [own_nm, own_nm2, own_nm3, c1, c2, c3, c4, c5, c6, c7, if_true, if_false]; done) | (simp only [own_nm, own_nm2, own_nm3, c1, c2, c3, c4, c5, c6, c7, if_true, if_false]; decide), e0, rfl⟩
            · refine own_st (fun _ kS => XS.icmpYes X0.here hx rfl (pc0 := 33) (pc' := 42) rfl (hb hby own_d1_33) rfl (flt c6).2.2.2 (by decide) (by decide) kS) ?_
              show OFin p e below s _ _ _ (T0.setTop (mkF m 42 #[.val (.int p1)] []))
              refine own_st (fun _ kS => XS.iconst X0.here hx rfl (hb hby own_d1_42) kS) ?_
              show OFin p e below s _ _ _ (T0.setTop (mkF m 43 #[.val (.int p1)] [(.int (1 : Int32))]))
              refine own_st (fun _ kS => XS.goto X0.here hx rfl (pc0 := 43) (pc' := 47) rfl (hb hby own_d1_43) (by decide) (by decide) kS) ?_
              show OFin p e below s _ _ _ (T0.setTop (mkF m 47 #[.val (.int p1)] [(.int (1 : Int32))]))
              exact own_ret X0 hx (t := .boolean) hret hlk rfl (Or.inl ⟨rfl, by simp, _, rfl⟩) (hb hby own_d1_47) (by decide) (by decide) ⟨by first | (simp only [own_nm, own_nm2, own_nm3, c1, c2, c3, c4, c5, c6, if_true, if_false]; done) | (simp only [own_nm, own_nm2, own_nm3, c1, c2, c3, c4, c5, c6, if_true, if_false]; decide), e0, rfl⟩
        · refine own_st (fun _ kS => XS.icmpYes X0.here hx rfl (pc0 := 21) (pc' := 42) rfl (hb hby own_d1_21) rfl (flt c4).2.2.2 (by decide) (by decide) kS) ?_
          show OFin p e below s _ _ _ (T0.setTop (mkF m 42 #[.val (.int p1)] []))
          refine own_st (fun _ kS => XS.iconst X0.here hx rfl (hb hby own_d1_42) kS) ?_
          show OFin p e below s _ _ _ (T0.setTop (mkF m 43 #[.val (.int p1)] [(.int (1 : Int32))]))
          refine own_st (fun _ kS => XS.goto X0.here hx rfl (pc0 := 43) (pc' := 47) rfl (hb hby own_d1_43) (by decide) (by decide) kS) ?_
          show OFin p e below s _ _ _ (T0.setTop (mkF m 47 #[.val (.int p1)] [(.int (1 : Int32))]))
          exact own_ret X0 hx (t := .boolean) hret hlk rfl (Or.inl ⟨rfl, by simp, _, rfl⟩) (hb hby own_d1_47) (by decide) (by decide) ⟨by first | (simp only [own_nm, own_nm2, own_nm3, c1, c2, c3, c4, if_true, if_false]; done) | (simp only [own_nm, own_nm2, own_nm3, c1, c2, c3, c4, if_true, if_false]; decide), e0, rfl⟩
    · refine own_st (fun _ kS => XS.icmpYes X0.here hx rfl (pc0 := 9) (pc' := 42) rfl (hb hby own_d1_9) rfl (flt c2).2.2.2 (by decide) (by decide) kS) ?_
      show OFin p e below s _ _ _ (T0.setTop (mkF m 42 #[.val (.int p1)] []))
      refine own_st (fun _ kS => XS.iconst X0.here hx rfl (hb hby own_d1_42) kS) ?_
      show OFin p e below s _ _ _ (T0.setTop (mkF m 43 #[.val (.int p1)] [(.int (1 : Int32))]))
      refine own_st (fun _ kS => XS.goto X0.here hx rfl (pc0 := 43) (pc' := 47) rfl (hb hby own_d1_43) (by decide) (by decide) kS) ?_
      show OFin p e below s _ _ _ (T0.setTop (mkF m 47 #[.val (.int p1)] [(.int (1 : Int32))]))
      exact own_ret X0 hx (t := .boolean) hret hlk rfl (Or.inl ⟨rfl, by simp, _, rfl⟩) (hb hby own_d1_47) (by decide) (by decide) ⟨by first | (simp only [own_nm, own_nm2, own_nm3, c1, c2, if_true, if_false]; done) | (simp only [own_nm, own_nm2, own_nm3, c1, c2, if_true, if_false]; decide), e0, rfl⟩
set_option maxRecDepth 65536 in
set_option maxHeartbeats 40000000 in
theorem rm2 (l : Launch) (Z : State) (a0 : Array Value) (hw : ∀ d ∈ tables_1, d.before a0 Z = true) (p1 : Int32) (h0 : Heap)  :
    OMet l Z (⟨"com/example/unify_trace/unifytrace/term/TermIsNameCharacterPinLaw", "reference", "(C)Z"⟩ : MethodName) method_2_code 4 (some .boolean) (⟨0, 0, 0, 0⟩ : Room) #[(.int p1)] h0 (fun v h L => v = some (.int (own_rf p1)) ∧ h = h0 ∧ L = []) := by
  refine own_enter own_pn2 ?_
  intro p e s m below meth c T0 X0 hC e0
  obtain ⟨hx, hZ, hby, hml, hown, hret, hlk, hnm⟩ := hC
  have hown : s.vm.findClass "com/example/unify_trace/unifytrace/term/TermIsNameCharacterPinLaw" = some m.cls := hown
  refine own_at (own_ef2_I m p1) ?_
  show OFin p e below s _ _ _ (T0.setTop (mkF m 0 #[.val (.int p1), .unset, .unset, .unset] []))
  refine own_st (fun _ kS => XS.iloadN X0.here hx rfl (hb hby own_d2_0) rfl kS) ?_
  show OFin p e below s _ _ _ (T0.setTop (mkF m 1 #[.val (.int p1), .unset, .unset, .unset] [(.int p1)]))
  refine own_st (fun _ kS => XS.istoreN X0.here hx rfl (hb hby own_d2_1) rfl (l' := #[.val (.int p1), .val (.int p1), .unset, .unset]) rfl kS) ?_
  show OFin p e below s _ _ _ (T0.setTop (mkF m 2 #[.val (.int p1), .val (.int p1), .unset, .unset] []))
  refine own_st (fun _ kS => XS.iloadN X0.here hx rfl (hb hby own_d2_2) rfl kS) ?_
  show OFin p e below s _ _ _ (T0.setTop (mkF m 3 #[.val (.int p1), .val (.int p1), .unset, .unset] [(.int p1)]))
  refine own_st (fun _ kS => XS.sipush X0.here hx rfl (hb hby own_d2_3) kS) ?_
  show OFin p e below s _ _ _ (T0.setTop (mkF m 6 #[.val (.int p1), .val (.int p1), .unset, .unset] [(.int (128 : Int32)), (.int p1)]))
  by_cases c1 : p1 < (128 : Int32)
  · refine own_st (fun _ kS => XS.icmpYes X0.here hx rfl (pc0 := 6) (pc' := 11) rfl (hb hby own_d2_6) rfl (tlt c1).1 (by decide) (by decide) kS) ?_
    show OFin p e below s _ _ _ (T0.setTop (mkF m 11 #[.val (.int p1), .val (.int p1), .unset, .unset] []))
    refine own_st (fun _ kS => XS.iloadN X0.here hx rfl (hb hby own_d2_11) rfl kS) ?_
    show OFin p e below s _ _ _ (T0.setTop (mkF m 12 #[.val (.int p1), .val (.int p1), .unset, .unset] [(.int p1)]))
    refine own_st (fun _ kS => XS.iconst X0.here hx rfl (hb hby own_d2_12) kS) ?_
    show OFin p e below s _ _ _ (T0.setTop (mkF m 13 #[.val (.int p1), .val (.int p1), .unset, .unset] [(.int (5 : Int32)), (.int p1)]))
    refine own_st (fun _ kS => XS.ishr X0.here hx rfl (hb hby own_d2_13) rfl kS) ?_
    show OFin p e below s _ _ _ (T0.setTop (mkF m 14 #[.val (.int p1), .val (.int p1), .unset, .unset] [(.int (p1 >>> ((5 : Int32) &&& 31)))]))
    refine own_st (fun _ kS => XS.istoreN X0.here hx rfl (hb hby own_d2_14) rfl (l' := #[.val (.int p1), .val (.int p1), .val (.int (p1 >>> ((5 : Int32) &&& 31))), .unset]) rfl kS) ?_
    show OFin p e below s _ _ _ (T0.setTop (mkF m 15 #[.val (.int p1), .val (.int p1), .val (.int (p1 >>> ((5 : Int32) &&& 31))), .unset] []))
    refine own_st (fun _ kS => XS.iloadN X0.here hx rfl (hb hby own_d2_15) rfl kS) ?_
    show OFin p e below s _ _ _ (T0.setTop (mkF m 16 #[.val (.int p1), .val (.int p1), .val (.int (p1 >>> ((5 : Int32) &&& 31))), .unset] [(.int (p1 >>> ((5 : Int32) &&& 31)))]))
    by_cases c2 : (p1 >>> ((5 : Int32) &&& 31)) = (0 : Int32)
    · refine own_st (fun _ kS => XS.ifNo X0.here hx rfl (hb hby own_d2_16) rfl ((if0 _ _).trans (teq c2).2) kS) ?_
      show OFin p e below s _ _ _ (T0.setTop (mkF m 19 #[.val (.int p1), .val (.int p1), .val (.int (p1 >>> ((5 : Int32) &&& 31))), .unset] []))
      refine own_st (fun _ kS => XS.iconst X0.here hx rfl (hb hby own_d2_19) kS) ?_
      show OFin p e below s _ _ _ (T0.setTop (mkF m 20 #[.val (.int p1), .val (.int p1), .val (.int (p1 >>> ((5 : Int32) &&& 31))), .unset] [(.int (0 : Int32))]))
      refine own_st (fun _ kS => XS.istoreN X0.here hx rfl (hb hby own_d2_20) rfl (l' := #[.val (.int p1), .val (.int p1), .val (.int (p1 >>> ((5 : Int32) &&& 31))), .val (.int (0 : Int32))]) rfl kS) ?_
      show OFin p e below s _ _ _ (T0.setTop (mkF m 21 #[.val (.int p1), .val (.int p1), .val (.int (p1 >>> ((5 : Int32) &&& 31))), .val (.int (0 : Int32))] []))
      refine own_st (fun _ kS => XS.goto X0.here hx rfl (pc0 := 21) (pc' := 49) rfl (hb hby own_d2_21) (by decide) (by decide) kS) ?_
      show OFin p e below s _ _ _ (T0.setTop (mkF m 49 #[.val (.int p1), .val (.int p1), .val (.int (p1 >>> ((5 : Int32) &&& 31))), .val (.int (0 : Int32))] []))
      refine own_st (fun _ kS => XS.iloadN X0.here hx rfl (hb hby own_d2_49) rfl kS) ?_
      show OFin p e below s _ _ _ (T0.setTop (mkF m 50 #[.val (.int p1), .val (.int p1), .val (.int (p1 >>> ((5 : Int32) &&& 31))), .val (.int (0 : Int32))] [(.int (0 : Int32))]))
      refine own_st (fun _ kS => XS.iloadN X0.here hx rfl (hb hby own_d2_50) rfl kS) ?_
      show OFin p e below s _ _ _ (T0.setTop (mkF m 51 #[.val (.int p1), .val (.int p1), .val (.int (p1 >>> ((5 : Int32) &&& 31))), .val (.int (0 : Int32))] [(.int p1), (.int (0 : Int32))]))
      refine own_st (fun _ kS => XS.bipush X0.here hx rfl (hb hby own_d2_51) kS) ?_
      show OFin p e below s _ _ _ (T0.setTop (mkF m 53 #[.val (.int p1), .val (.int p1), .val (.int (p1 >>> ((5 : Int32) &&& 31))), .val (.int (0 : Int32))] [(.int (31 : Int32)), (.int p1), (.int (0 : Int32))]))
      refine own_st (fun _ kS => XS.iand X0.here hx rfl (hb hby own_d2_53) rfl kS) ?_
      show OFin p e below s _ _ _ (T0.setTop (mkF m 54 #[.val (.int p1), .val (.int p1), .val (.int (p1 >>> ((5 : Int32) &&& 31))), .val (.int (0 : Int32))] [(.int (p1 &&& (31 : Int32))), (.int (0 : Int32))]))
      refine own_st (fun _ kS => XS.iushr X0.here hx rfl (hb hby own_d2_54) rfl kS) ?_
      show OFin p e below s _ _ _ (T0.setTop (mkF m 55 #[.val (.int p1), .val (.int p1), .val (.int (p1 >>> ((5 : Int32) &&& 31))), .val (.int (0 : Int32))] [(.int (((0 : Int32).toUInt32 >>> ((p1 &&& (31 : Int32)) &&& 31).toUInt32).toInt32))]))
      refine own_st (fun _ kS => XS.iconst X0.here hx rfl (hb hby own_d2_55) kS) ?_
      show OFin p e below s _ _ _ (T0.setTop (mkF m 56 #[.val (.int p1), .val (.int p1), .val (.int (p1 >>> ((5 : Int32) &&& 31))), .val (.int (0 : Int32))] [(.int (1 : Int32)), (.int (((0 : Int32).toUInt32 >>> ((p1 &&& (31 : Int32)) &&& 31).toUInt32).toInt32))]))
      refine own_st (fun _ kS => XS.iand X0.here hx rfl (hb hby own_d2_56) rfl kS) ?_
      show OFin p e below s _ _ _ (T0.setTop (mkF m 57 #[.val (.int p1), .val (.int p1), .val (.int (p1 >>> ((5 : Int32) &&& 31))), .val (.int (0 : Int32))] [(.int ((((0 : Int32).toUInt32 >>> ((p1 &&& (31 : Int32)) &&& 31).toUInt32).toInt32) &&& (1 : Int32)))]))
      by_cases c3 : ((((0 : Int32).toUInt32 >>> ((p1 &&& (31 : Int32)) &&& 31).toUInt32).toInt32) &&& (1 : Int32)) = (0 : Int32)
      · refine own_st (fun _ kS => XS.ifYes X0.here hx rfl (pc0 := 57) (pc' := 64) rfl (hb hby own_d2_57) rfl ((if0 _ _).trans (teq c3).1) (by decide) (by decide) kS) ?_
        show OFin p e below s _ _ _ (T0.setTop (mkF m 64 #[.val (.int p1), .val (.int p1), .val (.int (p1 >>> ((5 : Int32) &&& 31))), .val (.int (0 : Int32))] []))
        refine own_st (fun _ kS => XS.iconst X0.here hx rfl (hb hby own_d2_64) kS) ?_
        show OFin p e below s _ _ _ (T0.setTop (mkF m 65 #[.val (.int p1), .val (.int p1), .val (.int (p1 >>> ((5 : Int32) &&& 31))), .val (.int (0 : Int32))] [(.int (0 : Int32))]))
        exact own_ret X0 hx (t := .boolean) hret hlk rfl (Or.inl ⟨rfl, by simp, _, rfl⟩) (hb hby own_d2_65) (by decide) (by decide) ⟨by first | (simp only [own_rf, own_bit, c1, c2, c3, if_true, if_false]; done) | (simp only [own_rf, own_bit, c1, c2, c3, if_true, if_false]; simp), e0, rfl⟩
      · refine own_st (fun _ kS => XS.ifNo X0.here hx rfl (hb hby own_d2_57) rfl ((if0 _ _).trans (feq c3).1) kS) ?_
        show OFin p e below s _ _ _ (T0.setTop (mkF m 60 #[.val (.int p1), .val (.int p1), .val (.int (p1 >>> ((5 : Int32) &&& 31))), .val (.int (0 : Int32))] []))
        refine own_st (fun _ kS => XS.iconst X0.here hx rfl (hb hby own_d2_60) kS) ?_
        show OFin p e below s _ _ _ (T0.setTop (mkF m 61 #[.val (.int p1), .val (.int p1), .val (.int (p1 >>> ((5 : Int32) &&& 31))), .val (.int (0 : Int32))] [(.int (1 : Int32))]))
        refine own_st (fun _ kS => XS.goto X0.here hx rfl (pc0 := 61) (pc' := 65) rfl (hb hby own_d2_61) (by decide) (by decide) kS) ?_
        show OFin p e below s _ _ _ (T0.setTop (mkF m 65 #[.val (.int p1), .val (.int p1), .val (.int (p1 >>> ((5 : Int32) &&& 31))), .val (.int (0 : Int32))] [(.int (1 : Int32))]))
        exact own_ret X0 hx (t := .boolean) hret hlk rfl (Or.inl ⟨rfl, by simp, _, rfl⟩) (hb hby own_d2_65) (by decide) (by decide) ⟨by first | (simp only [own_rf, own_bit, c1, c2, c3, if_true, if_false]; done) | (simp only [own_rf, own_bit, c1, c2, c3, if_true, if_false]; simp), e0, rfl⟩
    · refine own_st (fun _ kS => XS.ifYes X0.here hx rfl (pc0 := 16) (pc' := 24) rfl (hb hby own_d2_16) rfl ((if0 _ _).trans (feq c2).2) (by decide) (by decide) kS) ?_
      show OFin p e below s _ _ _ (T0.setTop (mkF m 24 #[.val (.int p1), .val (.int p1), .val (.int (p1 >>> ((5 : Int32) &&& 31))), .unset] []))
      refine own_st (fun _ kS => XS.iloadN X0.here hx rfl (hb hby own_d2_24) rfl kS) ?_
      show OFin p e below s _ _ _ (T0.setTop (mkF m 25 #[.val (.int p1), .val (.int p1), .val (.int (p1 >>> ((5 : Int32) &&& 31))), .unset] [(.int (p1 >>> ((5 : Int32) &&& 31)))]))
      refine own_st (fun _ kS => XS.iconst X0.here hx rfl (hb hby own_d2_25) kS) ?_
      show OFin p e below s _ _ _ (T0.setTop (mkF m 26 #[.val (.int p1), .val (.int p1), .val (.int (p1 >>> ((5 : Int32) &&& 31))), .unset] [(.int (1 : Int32)), (.int (p1 >>> ((5 : Int32) &&& 31)))]))
      by_cases c3 : (p1 >>> ((5 : Int32) &&& 31)) = (1 : Int32)
      · refine own_st (fun _ kS => XS.icmpNo X0.here hx rfl (hb hby own_d2_26) rfl (teq c3).2 kS) ?_
        show OFin p e below s _ _ _ (T0.setTop (mkF m 29 #[.val (.int p1), .val (.int p1), .val (.int (p1 >>> ((5 : Int32) &&& 31))), .unset] []))
        refine own_st (X0.ldcInt hx hown (mvT hZ (own_w hw 10 rfl)) (g := (mkF m 29 #[.val (.int p1), .val (.int p1), .val (.int (p1 >>> ((5 : Int32) &&& 31))), .unset] [])) rfl (hb hby own_d2_29)) ?_
        show OFin p e below s _ _ _ (T0.setTop (mkF m 31 #[.val (.int p1), .val (.int p1), .val (.int (p1 >>> ((5 : Int32) &&& 31))), .unset] [(.int (67043328 : Int32))]))
        refine own_st (fun _ kS => XS.istoreN X0.here hx rfl (hb hby own_d2_31) rfl (l' := #[.val (.int p1), .val (.int p1), .val (.int (p1 >>> ((5 : Int32) &&& 31))), .val (.int (67043328 : Int32))]) rfl kS) ?_
        show OFin p e below s _ _ _ (T0.setTop (mkF m 32 #[.val (.int p1), .val (.int p1), .val (.int (p1 >>> ((5 : Int32) &&& 31))), .val (.int (67043328 : Int32))] []))
        refine own_st (fun _ kS => XS.goto X0.here hx rfl (pc0 := 32) (pc' := 49) rfl (hb hby own_d2_32) (by decide) (by decide) kS) ?_
        show OFin p e below s _ _ _ (T0.setTop (mkF m 49 #[.val (.int p1), .val (.int p1), .val (.int (p1 >>> ((5 : Int32) &&& 31))), .val (.int (67043328 : Int32))] []))
        refine own_st (fun _ kS => XS.iloadN X0.here hx rfl (hb hby own_d2_49) rfl kS) ?_
        show OFin p e below s _ _ _ (T0.setTop (mkF m 50 #[.val (.int p1), .val (.int p1), .val (.int (p1 >>> ((5 : Int32) &&& 31))), .val (.int (67043328 : Int32))] [(.int (67043328 : Int32))]))
        refine own_st (fun _ kS => XS.iloadN X0.here hx rfl (hb hby own_d2_50) rfl kS) ?_
        show OFin p e below s _ _ _ (T0.setTop (mkF m 51 #[.val (.int p1), .val (.int p1), .val (.int (p1 >>> ((5 : Int32) &&& 31))), .val (.int (67043328 : Int32))] [(.int p1), (.int (67043328 : Int32))]))
        refine own_st (fun _ kS => XS.bipush X0.here hx rfl (hb hby own_d2_51) kS) ?_
        show OFin p e below s _ _ _ (T0.setTop (mkF m 53 #[.val (.int p1), .val (.int p1), .val (.int (p1 >>> ((5 : Int32) &&& 31))), .val (.int (67043328 : Int32))] [(.int (31 : Int32)), (.int p1), (.int (67043328 : Int32))]))
        refine own_st (fun _ kS => XS.iand X0.here hx rfl (hb hby own_d2_53) rfl kS) ?_
        show OFin p e below s _ _ _ (T0.setTop (mkF m 54 #[.val (.int p1), .val (.int p1), .val (.int (p1 >>> ((5 : Int32) &&& 31))), .val (.int (67043328 : Int32))] [(.int (p1 &&& (31 : Int32))), (.int (67043328 : Int32))]))
        refine own_st (fun _ kS => XS.iushr X0.here hx rfl (hb hby own_d2_54) rfl kS) ?_
        show OFin p e below s _ _ _ (T0.setTop (mkF m 55 #[.val (.int p1), .val (.int p1), .val (.int (p1 >>> ((5 : Int32) &&& 31))), .val (.int (67043328 : Int32))] [(.int (((67043328 : Int32).toUInt32 >>> ((p1 &&& (31 : Int32)) &&& 31).toUInt32).toInt32))]))
        refine own_st (fun _ kS => XS.iconst X0.here hx rfl (hb hby own_d2_55) kS) ?_
        show OFin p e below s _ _ _ (T0.setTop (mkF m 56 #[.val (.int p1), .val (.int p1), .val (.int (p1 >>> ((5 : Int32) &&& 31))), .val (.int (67043328 : Int32))] [(.int (1 : Int32)), (.int (((67043328 : Int32).toUInt32 >>> ((p1 &&& (31 : Int32)) &&& 31).toUInt32).toInt32))]))
        refine own_st (fun _ kS => XS.iand X0.here hx rfl (hb hby own_d2_56) rfl kS) ?_
        show OFin p e below s _ _ _ (T0.setTop (mkF m 57 #[.val (.int p1), .val (.int p1), .val (.int (p1 >>> ((5 : Int32) &&& 31))), .val (.int (67043328 : Int32))] [(.int ((((67043328 : Int32).toUInt32 >>> ((p1 &&& (31 : Int32)) &&& 31).toUInt32).toInt32) &&& (1 : Int32)))]))
        by_cases c4 : ((((67043328 : Int32).toUInt32 >>> ((p1 &&& (31 : Int32)) &&& 31).toUInt32).toInt32) &&& (1 : Int32)) = (0 : Int32)
        · refine own_st (fun _ kS => XS.ifYes X0.here hx rfl (pc0 := 57) (pc' := 64) rfl (hb hby own_d2_57) rfl ((if0 _ _).trans (teq c4).1) (by decide) (by decide) kS) ?_
          show OFin p e below s _ _ _ (T0.setTop (mkF m 64 #[.val (.int p1), .val (.int p1), .val (.int (p1 >>> ((5 : Int32) &&& 31))), .val (.int (67043328 : Int32))] []))
          refine own_st (fun _ kS => XS.iconst X0.here hx rfl (hb hby own_d2_64) kS) ?_
          show OFin p e below s _ _ _ (T0.setTop (mkF m 65 #[.val (.int p1), .val (.int p1), .val (.int (p1 >>> ((5 : Int32) &&& 31))), .val (.int (67043328 : Int32))] [(.int (0 : Int32))]))
          exact own_ret X0 hx (t := .boolean) hret hlk rfl (Or.inl ⟨rfl, by simp, _, rfl⟩) (hb hby own_d2_65) (by decide) (by decide) ⟨by first | (simp only [own_rf, own_bit, c1, c2, c3, c4, if_true, if_false]; done) | (simp only [own_rf, own_bit, c1, c2, c3, c4, if_true, if_false]; simp), e0, rfl⟩
        · refine own_st (fun _ kS => XS.ifNo X0.here hx rfl (hb hby own_d2_57) rfl ((if0 _ _).trans (feq c4).1) kS) ?_
          show OFin p e below s _ _ _ (T0.setTop (mkF m 60 #[.val (.int p1), .val (.int p1), .val (.int (p1 >>> ((5 : Int32) &&& 31))), .val (.int (67043328 : Int32))] []))
          refine own_st (fun _ kS => XS.iconst X0.here hx rfl (hb hby own_d2_60) kS) ?_
          show OFin p e below s _ _ _ (T0.setTop (mkF m 61 #[.val (.int p1), .val (.int p1), .val (.int (p1 >>> ((5 : Int32) &&& 31))), .val (.int (67043328 : Int32))] [(.int (1 : Int32))]))
          refine own_st (fun _ kS => XS.goto X0.here hx rfl (pc0 := 61) (pc' := 65) rfl (hb hby own_d2_61) (by decide) (by decide) kS) ?_
          show OFin p e below s _ _ _ (T0.setTop (mkF m 65 #[.val (.int p1), .val (.int p1), .val (.int (p1 >>> ((5 : Int32) &&& 31))), .val (.int (67043328 : Int32))] [(.int (1 : Int32))]))
          exact own_ret X0 hx (t := .boolean) hret hlk rfl (Or.inl ⟨rfl, by simp, _, rfl⟩) (hb hby own_d2_65) (by decide) (by decide) ⟨by first | (simp only [own_rf, own_bit, c1, c2, c3, c4, if_true, if_false]; done) | (simp only [own_rf, own_bit, c1, c2, c3, c4, if_true, if_false]; simp), e0, rfl⟩
      · refine own_st (fun _ kS => XS.icmpYes X0.here hx rfl (pc0 := 26) (pc' := 35) rfl (hb hby own_d2_26) rfl (feq c3).2 (by decide) (by decide) kS) ?_
        show OFin p e below s _ _ _ (T0.setTop (mkF m 35 #[.val (.int p1), .val (.int p1), .val (.int (p1 >>> ((5 : Int32) &&& 31))), .unset] []))
        refine own_st (fun _ kS => XS.iloadN X0.here hx rfl (hb hby own_d2_35) rfl kS) ?_
        show OFin p e below s _ _ _ (T0.setTop (mkF m 36 #[.val (.int p1), .val (.int p1), .val (.int (p1 >>> ((5 : Int32) &&& 31))), .unset] [(.int (p1 >>> ((5 : Int32) &&& 31)))]))
        refine own_st (fun _ kS => XS.iconst X0.here hx rfl (hb hby own_d2_36) kS) ?_
        show OFin p e below s _ _ _ (T0.setTop (mkF m 37 #[.val (.int p1), .val (.int p1), .val (.int (p1 >>> ((5 : Int32) &&& 31))), .unset] [(.int (2 : Int32)), (.int (p1 >>> ((5 : Int32) &&& 31)))]))
        by_cases c4 : (p1 >>> ((5 : Int32) &&& 31)) = (2 : Int32)
        · refine own_st (fun _ kS => XS.icmpNo X0.here hx rfl (hb hby own_d2_37) rfl (teq c4).2 kS) ?_
          show OFin p e below s _ _ _ (T0.setTop (mkF m 40 #[.val (.int p1), .val (.int p1), .val (.int (p1 >>> ((5 : Int32) &&& 31))), .unset] []))
          refine own_st (X0.ldcInt hx hown (mvT hZ (own_w hw 9 rfl)) (g := (mkF m 40 #[.val (.int p1), .val (.int p1), .val (.int (p1 >>> ((5 : Int32) &&& 31))), .unset] [])) rfl (hb hby own_d2_40)) ?_
          show OFin p e below s _ _ _ (T0.setTop (mkF m 42 #[.val (.int p1), .val (.int p1), .val (.int (p1 >>> ((5 : Int32) &&& 31))), .unset] [(.int (-2013265922 : Int32))]))
          refine own_st (fun _ kS => XS.istoreN X0.here hx rfl (hb hby own_d2_42) rfl (l' := #[.val (.int p1), .val (.int p1), .val (.int (p1 >>> ((5 : Int32) &&& 31))), .val (.int (-2013265922 : Int32))]) rfl kS) ?_
          show OFin p e below s _ _ _ (T0.setTop (mkF m 43 #[.val (.int p1), .val (.int p1), .val (.int (p1 >>> ((5 : Int32) &&& 31))), .val (.int (-2013265922 : Int32))] []))
          refine own_st (fun _ kS => XS.goto X0.here hx rfl (pc0 := 43) (pc' := 49) rfl (hb hby own_d2_43) (by decide) (by decide) kS) ?_
          show OFin p e below s _ _ _ (T0.setTop (mkF m 49 #[.val (.int p1), .val (.int p1), .val (.int (p1 >>> ((5 : Int32) &&& 31))), .val (.int (-2013265922 : Int32))] []))
          refine own_st (fun _ kS => XS.iloadN X0.here hx rfl (hb hby own_d2_49) rfl kS) ?_
          show OFin p e below s _ _ _ (T0.setTop (mkF m 50 #[.val (.int p1), .val (.int p1), .val (.int (p1 >>> ((5 : Int32) &&& 31))), .val (.int (-2013265922 : Int32))] [(.int (-2013265922 : Int32))]))
          refine own_st (fun _ kS => XS.iloadN X0.here hx rfl (hb hby own_d2_50) rfl kS) ?_
          show OFin p e below s _ _ _ (T0.setTop (mkF m 51 #[.val (.int p1), .val (.int p1), .val (.int (p1 >>> ((5 : Int32) &&& 31))), .val (.int (-2013265922 : Int32))] [(.int p1), (.int (-2013265922 : Int32))]))
          refine own_st (fun _ kS => XS.bipush X0.here hx rfl (hb hby own_d2_51) kS) ?_
          show OFin p e below s _ _ _ (T0.setTop (mkF m 53 #[.val (.int p1), .val (.int p1), .val (.int (p1 >>> ((5 : Int32) &&& 31))), .val (.int (-2013265922 : Int32))] [(.int (31 : Int32)), (.int p1), (.int (-2013265922 : Int32))]))
          refine own_st (fun _ kS => XS.iand X0.here hx rfl (hb hby own_d2_53) rfl kS) ?_
          show OFin p e below s _ _ _ (T0.setTop (mkF m 54 #[.val (.int p1), .val (.int p1), .val (.int (p1 >>> ((5 : Int32) &&& 31))), .val (.int (-2013265922 : Int32))] [(.int (p1 &&& (31 : Int32))), (.int (-2013265922 : Int32))]))
          refine own_st (fun _ kS => XS.iushr X0.here hx rfl (hb hby own_d2_54) rfl kS) ?_
          show OFin p e below s _ _ _ (T0.setTop (mkF m 55 #[.val (.int p1), .val (.int p1), .val (.int (p1 >>> ((5 : Int32) &&& 31))), .val (.int (-2013265922 : Int32))] [(.int (((-2013265922 : Int32).toUInt32 >>> ((p1 &&& (31 : Int32)) &&& 31).toUInt32).toInt32))]))
          refine own_st (fun _ kS => XS.iconst X0.here hx rfl (hb hby own_d2_55) kS) ?_
          show OFin p e below s _ _ _ (T0.setTop (mkF m 56 #[.val (.int p1), .val (.int p1), .val (.int (p1 >>> ((5 : Int32) &&& 31))), .val (.int (-2013265922 : Int32))] [(.int (1 : Int32)), (.int (((-2013265922 : Int32).toUInt32 >>> ((p1 &&& (31 : Int32)) &&& 31).toUInt32).toInt32))]))
          refine own_st (fun _ kS => XS.iand X0.here hx rfl (hb hby own_d2_56) rfl kS) ?_
          show OFin p e below s _ _ _ (T0.setTop (mkF m 57 #[.val (.int p1), .val (.int p1), .val (.int (p1 >>> ((5 : Int32) &&& 31))), .val (.int (-2013265922 : Int32))] [(.int ((((-2013265922 : Int32).toUInt32 >>> ((p1 &&& (31 : Int32)) &&& 31).toUInt32).toInt32) &&& (1 : Int32)))]))
          by_cases c5 : ((((-2013265922 : Int32).toUInt32 >>> ((p1 &&& (31 : Int32)) &&& 31).toUInt32).toInt32) &&& (1 : Int32)) = (0 : Int32)
          · refine own_st (fun _ kS => XS.ifYes X0.here hx rfl (pc0 := 57) (pc' := 64) rfl (hb hby own_d2_57) rfl ((if0 _ _).trans (teq c5).1) (by decide) (by decide) kS) ?_
            show OFin p e below s _ _ _ (T0.setTop (mkF m 64 #[.val (.int p1), .val (.int p1), .val (.int (p1 >>> ((5 : Int32) &&& 31))), .val (.int (-2013265922 : Int32))] []))
            refine own_st (fun _ kS => XS.iconst X0.here hx rfl (hb hby own_d2_64) kS) ?_
            show OFin p e below s _ _ _ (T0.setTop (mkF m 65 #[.val (.int p1), .val (.int p1), .val (.int (p1 >>> ((5 : Int32) &&& 31))), .val (.int (-2013265922 : Int32))] [(.int (0 : Int32))]))
            exact own_ret X0 hx (t := .boolean) hret hlk rfl (Or.inl ⟨rfl, by simp, _, rfl⟩) (hb hby own_d2_65) (by decide) (by decide) ⟨by first | (simp only [own_rf, own_bit, c1, c2, c3, c4, c5, if_true, if_false]; done) | (simp only [own_rf, own_bit, c1, c2, c3, c4, c5, if_true, if_false]; simp), e0, rfl⟩
          · refine own_st (fun _ kS => XS.ifNo X0.here hx rfl (hb hby own_d2_57) rfl ((if0 _ _).trans (feq c5).1) kS) ?_
            show OFin p e below s _ _ _ (T0.setTop (mkF m 60 #[.val (.int p1), .val (.int p1), .val (.int (p1 >>> ((5 : Int32) &&& 31))), .val (.int (-2013265922 : Int32))] []))
            refine own_st (fun _ kS => XS.iconst X0.here hx rfl (hb hby own_d2_60) kS) ?_
            show OFin p e below s _ _ _ (T0.setTop (mkF m 61 #[.val (.int p1), .val (.int p1), .val (.int (p1 >>> ((5 : Int32) &&& 31))), .val (.int (-2013265922 : Int32))] [(.int (1 : Int32))]))
            refine own_st (fun _ kS => XS.goto X0.here hx rfl (pc0 := 61) (pc' := 65) rfl (hb hby own_d2_61) (by decide) (by decide) kS) ?_
            show OFin p e below s _ _ _ (T0.setTop (mkF m 65 #[.val (.int p1), .val (.int p1), .val (.int (p1 >>> ((5 : Int32) &&& 31))), .val (.int (-2013265922 : Int32))] [(.int (1 : Int32))]))
            exact own_ret X0 hx (t := .boolean) hret hlk rfl (Or.inl ⟨rfl, by simp, _, rfl⟩) (hb hby own_d2_65) (by decide) (by decide) ⟨by first | (simp only [own_rf, own_bit, c1, c2, c3, c4, c5, if_true, if_false]; done) | (simp only [own_rf, own_bit, c1, c2, c3, c4, c5, if_true, if_false]; simp), e0, rfl⟩
        · refine own_st (fun _ kS => XS.icmpYes X0.here hx rfl (pc0 := 37) (pc' := 46) rfl (hb hby own_d2_37) rfl (feq c4).2 (by decide) (by decide) kS) ?_
          show OFin p e below s _ _ _ (T0.setTop (mkF m 46 #[.val (.int p1), .val (.int p1), .val (.int (p1 >>> ((5 : Int32) &&& 31))), .unset] []))
          refine own_st (X0.ldcInt hx hown (mvT hZ (own_w hw 8 rfl)) (g := (mkF m 46 #[.val (.int p1), .val (.int p1), .val (.int (p1 >>> ((5 : Int32) &&& 31))), .unset] [])) rfl (hb hby own_d2_46)) ?_
          show OFin p e below s _ _ _ (T0.setTop (mkF m 48 #[.val (.int p1), .val (.int p1), .val (.int (p1 >>> ((5 : Int32) &&& 31))), .unset] [(.int (134217726 : Int32))]))
          refine own_st (fun _ kS => XS.istoreN X0.here hx rfl (hb hby own_d2_48) rfl (l' := #[.val (.int p1), .val (.int p1), .val (.int (p1 >>> ((5 : Int32) &&& 31))), .val (.int (134217726 : Int32))]) rfl kS) ?_
          show OFin p e below s _ _ _ (T0.setTop (mkF m 49 #[.val (.int p1), .val (.int p1), .val (.int (p1 >>> ((5 : Int32) &&& 31))), .val (.int (134217726 : Int32))] []))
          refine own_st (fun _ kS => XS.iloadN X0.here hx rfl (hb hby own_d2_49) rfl kS) ?_
          show OFin p e below s _ _ _ (T0.setTop (mkF m 50 #[.val (.int p1), .val (.int p1), .val (.int (p1 >>> ((5 : Int32) &&& 31))), .val (.int (134217726 : Int32))] [(.int (134217726 : Int32))]))
          refine own_st (fun _ kS => XS.iloadN X0.here hx rfl (hb hby own_d2_50) rfl kS) ?_
          show OFin p e below s _ _ _ (T0.setTop (mkF m 51 #[.val (.int p1), .val (.int p1), .val (.int (p1 >>> ((5 : Int32) &&& 31))), .val (.int (134217726 : Int32))] [(.int p1), (.int (134217726 : Int32))]))
          refine own_st (fun _ kS => XS.bipush X0.here hx rfl (hb hby own_d2_51) kS) ?_
          show OFin p e below s _ _ _ (T0.setTop (mkF m 53 #[.val (.int p1), .val (.int p1), .val (.int (p1 >>> ((5 : Int32) &&& 31))), .val (.int (134217726 : Int32))] [(.int (31 : Int32)), (.int p1), (.int (134217726 : Int32))]))
          refine own_st (fun _ kS => XS.iand X0.here hx rfl (hb hby own_d2_53) rfl kS) ?_
          show OFin p e below s _ _ _ (T0.setTop (mkF m 54 #[.val (.int p1), .val (.int p1), .val (.int (p1 >>> ((5 : Int32) &&& 31))), .val (.int (134217726 : Int32))] [(.int (p1 &&& (31 : Int32))), (.int (134217726 : Int32))]))
          refine own_st (fun _ kS => XS.iushr X0.here hx rfl (hb hby own_d2_54) rfl kS) ?_
          show OFin p e below s _ _ _ (T0.setTop (mkF m 55 #[.val (.int p1), .val (.int p1), .val (.int (p1 >>> ((5 : Int32) &&& 31))), .val (.int (134217726 : Int32))] [(.int (((134217726 : Int32).toUInt32 >>> ((p1 &&& (31 : Int32)) &&& 31).toUInt32).toInt32))]))
          refine own_st (fun _ kS => XS.iconst X0.here hx rfl (hb hby own_d2_55) kS) ?_
          show OFin p e below s _ _ _ (T0.setTop (mkF m 56 #[.val (.int p1), .val (.int p1), .val (.int (p1 >>> ((5 : Int32) &&& 31))), .val (.int (134217726 : Int32))] [(.int (1 : Int32)), (.int (((134217726 : Int32).toUInt32 >>> ((p1 &&& (31 : Int32)) &&& 31).toUInt32).toInt32))]))
          refine own_st (fun _ kS => XS.iand X0.here hx rfl (hb hby own_d2_56) rfl kS) ?_
          show OFin p e below s _ _ _ (T0.setTop (mkF m 57 #[.val (.int p1), .val (.int p1), .val (.int (p1 >>> ((5 : Int32) &&& 31))), .val (.int (134217726 : Int32))] [(.int ((((134217726 : Int32).toUInt32 >>> ((p1 &&& (31 : Int32)) &&& 31).toUInt32).toInt32) &&& (1 : Int32)))]))
          by_cases c5 : ((((134217726 : Int32).toUInt32 >>> ((p1 &&& (31 : Int32)) &&& 31).toUInt32).toInt32) &&& (1 : Int32)) = (0 : Int32)
          · refine own_st (fun _ kS => XS.ifYes X0.here hx rfl (pc0 := 57) (pc' := 64) rfl (hb hby own_d2_57) rfl ((if0 _ _).trans (teq c5).1) (by decide) (by decide) kS) ?_
            show OFin p e below s _ _ _ (T0.setTop (mkF m 64 #[.val (.int p1), .val (.int p1), .val (.int (p1 >>> ((5 : Int32) &&& 31))), .val (.int (134217726 : Int32))] []))
            refine own_st (fun _ kS => XS.iconst X0.here hx rfl (hb hby own_d2_64) kS) ?_
            show OFin p e below s _ _ _ (T0.setTop (mkF m 65 #[.val (.int p1), .val (.int p1), .val (.int (p1 >>> ((5 : Int32) &&& 31))), .val (.int (134217726 : Int32))] [(.int (0 : Int32))]))
            exact own_ret X0 hx (t := .boolean) hret hlk rfl (Or.inl ⟨rfl, by simp, _, rfl⟩) (hb hby own_d2_65) (by decide) (by decide) ⟨by first | (simp only [own_rf, own_bit, c1, c2, c3, c4, c5, if_true, if_false]; done) | (simp only [own_rf, own_bit, c1, c2, c3, c4, c5, if_true, if_false]; simp), e0, rfl⟩
          · refine own_st (fun _ kS => XS.ifNo X0.here hx rfl (hb hby own_d2_57) rfl ((if0 _ _).trans (feq c5).1) kS) ?_
            show OFin p e below s _ _ _ (T0.setTop (mkF m 60 #[.val (.int p1), .val (.int p1), .val (.int (p1 >>> ((5 : Int32) &&& 31))), .val (.int (134217726 : Int32))] []))
            refine own_st (fun _ kS => XS.iconst X0.here hx rfl (hb hby own_d2_60) kS) ?_
            show OFin p e below s _ _ _ (T0.setTop (mkF m 61 #[.val (.int p1), .val (.int p1), .val (.int (p1 >>> ((5 : Int32) &&& 31))), .val (.int (134217726 : Int32))] [(.int (1 : Int32))]))
            refine own_st (fun _ kS => XS.goto X0.here hx rfl (pc0 := 61) (pc' := 65) rfl (hb hby own_d2_61) (by decide) (by decide) kS) ?_
            show OFin p e below s _ _ _ (T0.setTop (mkF m 65 #[.val (.int p1), .val (.int p1), .val (.int (p1 >>> ((5 : Int32) &&& 31))), .val (.int (134217726 : Int32))] [(.int (1 : Int32))]))
            exact own_ret X0 hx (t := .boolean) hret hlk rfl (Or.inl ⟨rfl, by simp, _, rfl⟩) (hb hby own_d2_65) (by decide) (by decide) ⟨by first | (simp only [own_rf, own_bit, c1, c2, c3, c4, c5, if_true, if_false]; done) | (simp only [own_rf, own_bit, c1, c2, c3, c4, c5, if_true, if_false]; simp), e0, rfl⟩
  · refine own_st (fun _ kS => XS.icmpNo X0.here hx rfl (hb hby own_d2_6) rfl (flt c1).1 kS) ?_
    show OFin p e below s _ _ _ (T0.setTop (mkF m 9 #[.val (.int p1), .val (.int p1), .unset, .unset] []))
    refine own_st (fun _ kS => XS.iconst X0.here hx rfl (hb hby own_d2_9) kS) ?_
    show OFin p e below s _ _ _ (T0.setTop (mkF m 10 #[.val (.int p1), .val (.int p1), .unset, .unset] [(.int (0 : Int32))]))
    exact own_ret X0 hx (t := .boolean) hret hlk rfl (Or.inl ⟨rfl, by simp, _, rfl⟩) (hb hby own_d2_10) (by decide) (by decide) ⟨by first | (simp only [own_rf, own_bit, c1, if_true, if_false]; done) | (simp only [own_rf, own_bit, c1, if_true, if_false]; simp), e0, rfl⟩
set_option maxRecDepth 65536 in
set_option maxHeartbeats 40000000 in
theorem rm0 (l : Launch) (Z : State) (a0 : Array Value) (hw : ∀ d ∈ tables_1, d.before a0 Z = true) (p1 : Int32) (h0 : Heap) (n0 : Nat)  :
    OMet l Z x code maxLocals ret room_1 #[(.int p1)] h0 (fun v h L => v = some (.int (1 : Int32)) ∧ Fr n0 L) := by
  refine own_enter own_pn0 ?_
  intro p e s m below meth c T0 X0 hC e0
  obtain ⟨hx, hZ, hby, hml, hown, hret, hlk, hnm⟩ := hC
  have hown : s.vm.findClass "com/example/unify_trace/unifytrace/term/TermIsNameCharacterPinLaw" = some m.cls := hown
  refine own_at (own_ef0_I m p1) ?_
  show OFin p e below s _ _ _ (T0.setTop (mkF m 0 #[.val (.int p1), .unset] []))
  refine own_st (fun _ kS => XS.iloadN X0.here hx rfl (hb hby at_0) rfl kS) ?_
  show OFin p e below s _ _ _ (T0.setTop (mkF m 1 #[.val (.int p1), .unset] [(.int p1)]))
  refine own_st (fun _ kS => XS.i2c X0.here hx rfl (hb hby at_1) rfl kS) ?_
  show OFin p e below s _ _ _ (T0.setTop (mkF m 2 #[.val (.int p1), .unset] [(.int (p1.toUInt32.toUInt16.toUInt32.toInt32))]))
  refine own_st (fun _ kS => XS.istoreN X0.here hx rfl (hb hby at_2) rfl (l' := #[.val (.int p1), .val (.int (p1.toUInt32.toUInt16.toUInt32.toInt32))]) rfl kS) ?_
  show OFin p e below s _ _ _ (T0.setTop (mkF m 3 #[.val (.int p1), .val (.int (p1.toUInt32.toUInt16.toUInt32.toInt32))] []))
  have hc := own_law _ (own_ch p1)
  generalize (p1.toUInt32.toUInt16.toUInt32.toInt32) = ch at hc ⊢
  show OFin p e below s _ _ _ (T0.setTop (mkF m 3 #[.val (.int p1), .val (.int ch)] []))
  refine own_st (fun _ kS => XS.iloadN X0.here hx rfl (hb hby at_3) rfl kS) ?_
  show OFin p e below s _ _ _ (T0.setTop (mkF m 4 #[.val (.int p1), .val (.int ch)] [(.int ch)]))
  obtain ⟨v1, T1, L1, X1, hQ1, st1⟩ := own_static X0 hx hZ (y := (⟨"com/example/unify_trace/unifytrace/term/Term", "isNameCharacter", "(C)Z"⟩ : MethodName)) (rm := ⟨0, 0, 0, 0⟩) (W := 0) (argsL := [(.int ch)]) (rest := []) hown (own_w hw 0 rfl) (own_w hw 1 rfl) (own_w hw 2 rfl) (own_w hw 3 rfl) (rm1 l Z a0 hw _ h0) e0 (g := (mkF m 4 #[.val (.int p1), .val (.int ch)] [(.int ch)])) rfl (by rw [hml]; rfl) (lenOf own_pd0 rfl) rfl (by show 2 * 0 + _ ≤ _; exact Nat.le_of_eq rfl) (hb hby at_4) (by decide) (by decide) (by decide) (by decide)
  obtain ⟨rfl, e1, rfl⟩ := hQ1
  rw [List.append_nil] at X1
  refine own_st (st1) ?_
  show OFin p e below s _ _ _ (T1.setTop (mkF m 7 #[.val (.int p1), .val (.int ch)] [(.int (own_nm ch))]))
  refine own_st (fun _ kS => XS.iloadN X1.here hx rfl (hb hby at_7) rfl kS) ?_
  show OFin p e below s _ _ _ (T1.setTop (mkF m 8 #[.val (.int p1), .val (.int ch)] [(.int ch), (.int (own_nm ch))]))
  obtain ⟨v2, T2, L2, X2, hQ2, st2⟩ := own_static X1 hx hZ (y := (⟨"com/example/unify_trace/unifytrace/term/TermIsNameCharacterPinLaw", "reference", "(C)Z"⟩ : MethodName)) (rm := ⟨0, 0, 0, 0⟩) (W := 1) (argsL := [(.int ch)]) (rest := [(.int (own_nm ch))]) hown (own_w hw 4 rfl) (own_w hw 5 rfl) (own_w hw 6 rfl) (own_w hw 7 rfl) (rm2 l Z a0 hw _ h0) e1 (g := (mkF m 8 #[.val (.int p1), .val (.int ch)] [(.int ch), (.int (own_nm ch))])) rfl (by rw [hml]; rfl) (lenOf own_pd0 rfl) rfl (by show 2 * 0 + _ ≤ _; exact Nat.le_of_eq rfl) (hb hby at_8) (by decide) (by decide) (by decide) (by decide)
  obtain ⟨rfl, e2, rfl⟩ := hQ2
  rw [List.append_nil] at X2
  refine own_st (st2) ?_
  show OFin p e below s _ _ _ (T2.setTop (mkF m 11 #[.val (.int p1), .val (.int ch)] [(.int (own_rf ch)), (.int (own_nm ch))]))
  refine own_st (fun _ kS => XS.icmpNo X2.here hx rfl (hb hby at_11) rfl (teq hc).2 kS) ?_
  show OFin p e below s _ _ _ (T2.setTop (mkF m 14 #[.val (.int p1), .val (.int ch)] []))
  refine own_st (fun _ kS => XS.iconst X2.here hx rfl (hb hby at_14) kS) ?_
  show OFin p e below s _ _ _ (T2.setTop (mkF m 15 #[.val (.int p1), .val (.int ch)] [(.int (1 : Int32))]))
  refine own_st (fun _ kS => XS.goto X2.here hx rfl (pc0 := 15) (pc' := 19) rfl (hb hby at_15) (by decide) (by decide) kS) ?_
  show OFin p e below s _ _ _ (T2.setTop (mkF m 19 #[.val (.int p1), .val (.int ch)] [(.int (1 : Int32))]))
  exact own_ret X2 hx (t := .boolean) hret hlk rfl (Or.inl ⟨rfl, by simp, _, rfl⟩) (hb hby at_19) (by decide) (by decide) ⟨rfl, Fr.nil n0⟩
set_option maxRecDepth 65536 in
set_option maxHeartbeats 40000000 in
theorem comes_1 {Post : Tables → Env → Array Value → State → Outcome → State → Prop} (hpost : ∀ tb e args s v u, (limb_1_1.after args s (.returned v) u = true ∧ limb_1_2.after args s (.returned v) u = true ∧ True) → FrameEnd s (.returned v) u (Jvm.fieldLocs frame_1_writes args s ++ Jvm.arrayLocs frame_1_arrays args s ++ Jvm.staticLocs frame_1_statics s) 0 0 → Post tb e args s (.returned v) u) :
    ArmFor flags0 classFile x code maxLocals ret World_1 tables_1 room_1 Calls_1 rest_1 Pre_1 Post := by
  intro l hfl _ _ p e ha hc hk s m args below hf hA hF happ hP
  obtain ⟨hcalls, hrest, hpre⟩ := hP
  obtain ⟨-, -, -, hnamed, -, -, -, hat⟩ := (Spec.applies_iff hf).mp happ
  obtain ⟨hg, hn⟩ := and_e (Cond.before_iff.mp (show (Jvm.Cond.and given_1 narrow_1).before args s = true from hpre))
  obtain ⟨gc, hg0⟩ := and_e hg
  obtain ⟨w0, rfl⟩ : ∃ w0 : Value, args = #[w0] := by
    have hs : args.size = 1 := by simpa [Cond.value, given_1] using gc
    obtain ⟨L⟩ := args
    match L, hs with
    | [w0], _ => exact ⟨w0, rfl⟩
  have hw := fun d (hd : d ∈ tables_1) => atoms_spec (ws := Jvm.Cond.code x code maxLocals ret :: tables_1) hat d (List.mem_cons_of_mem _ hd)
  have hfit : Fit s := fun {y c} hc i hi => by
    obtain ⟨ha, rfl⟩ := Array.getElem?_eq_some_iff.mp hc
    have q := List.all_eq_true.mp ((Array.all_eq_true_iff_forall_mem.mp hF) _ (Array.getElem_mem ha)) i (List.mem_range.mpr hi)
    simpa [Array.getElem?_eq_getElem hi] using q
  obtain ⟨i0, ei0⟩ := is_v hg0
  obtain rfl : w0 = (.int i0) := Option.some.inj ei0
  obtain ⟨n, o, h1, h2, h3, _, L, rfl, ⟨rfl, N⟩, hq⟩ := rm0 l s _ hw i0 s.heap s.heap.size tables_1 p e ha hc hk s m _ below hf ((Spec.applies_iff_loose hf).mp happ).1 ⟨rfl, State.Warmed39.refl s, rfl⟩ trivial
  refine ⟨n, _, h1, h2, h3, hpost _ _ _ _ _ _ ⟨Cond.after_iff.mpr rfl, Cond.after_iff.mpr (eq_i res_at (Term.int_eval (1)) rfl), trivial⟩ ⟨hq.1, hq.2.1, (hq.2.2.sift fun y hy => Or.inr (N y hy)).mono (by decide) (by decide)⟩⟩
theorem main_1_1 : Claimed_1_1 := comes_1 fun _ _ _ _ _ _ h hF => ⟨h.1, hF⟩
theorem main_1_2 : Claimed_1_2 := comes_1 fun _ _ _ _ _ _ h hF => ⟨h.2.1, hF⟩
end Jvm.Pilot.@@N@@
namespace Jvm.Pilot.@@N@@
open Jvm Jvm.ClassFile Sem Op Lib Jvm.Free Jvm.Stand Jvm.Pilot.@@N@@.Jvm.D
/-! MADE BY PROGRAM (witnessworld.py) out of the Statement's table words and the real class files: 9 classes; the members and pool entries that the words name. The judged class is class 1, her method 2. -/
namespace start1
open Jvm.ClassFile
def u (s : String) : CpInfo := .utf8 (stringToUtf16 s)
/-- a pool by its gaps: so many unusable entries, then the entry; so many at the end -/
def gap : Nat → List CpInfo → List CpInfo
  | 0, r => r
  | n + 1, r => .unusable :: gap n r
def poolList (es : List (Nat × CpInfo)) (last : Nat) : List CpInfo := es.foldr (fun e r => gap e.1 (e.2 :: r)) (gap last [])
def pool (es : List (Nat × CpInfo)) (last : Nat) : Array CpInfo := ⟨poolList es last⟩
def fileOf (pool : Array CpInfo) (this : Nat) (attrs : Array Attribute := #[]) (ms : Array MethodInfo := #[]) (fl : Nat := 33) (sup : Nat := 0) (ifs : Array Nat := #[]) (fds : Array FieldInfo := #[]) : ClassFile where
  minorVersion := 0
  majorVersion := 65
  constantPool := pool
  accessFlags := fl
  thisClass := this
  superClass := sup
  interfaces := ifs
  fields := fds
  methods := ms
  attributes := attrs
def plain (name : String) (sup : Option ClassId) : Class where
  name := name
  kind := .ordinary
  loader := none
  accessFlags := 33
  super := sup
  interfaces := #[]
  cf := none
  fields := #[]
  methods := #[]
  instanceTypes := #[]
  staticTypes := #[]
  resolved := #[]
  callSites := []
  init := .initialized
  statics := none
  mirror := none

def pool0 : Array CpInfo := pool [(5, u "<init>"), (0, u "()V"), (1, .class_ 10), (1, u "java/lang/Object")] 113

def k0m0 : Method := { name := "<init>", desc := "()V", sig := { parameters := [], returnType := none }, accessFlags := 1, code := none }
/-- java/lang/Object -/
def k0 : Class := { plain "java/lang/Object" none with
  accessFlags := 33
  interfaces := #[]
  cf := some (fileOf pool0 8 #[] #[{ accessFlags := 1, nameIndex := 5, descriptorIndex := 6, attributes := #[] }] 33 0 #[] #[])
  fields := #[]
  methods := #[k0m0]
  instanceTypes := #[]
  staticTypes := #[]
  resolved := Array.replicate 124 none
  statics := none }

def pool1 : Array CpInfo := pool [(2, .class_ 4), (1, u "java/lang/Object"), (0, u "<init>"), (0, u "()V"), (0, .integer 67043328), (0, .integer 2281701374), (0, .integer 134217726), (0, .methodref 11 12), (0, .class_ 13), (0, .nameAndType 14 15), (0, u "com/example/unify_trace/unifytrace/term/Term"), (0, u "isNameCharacter"), (0, u "(C)Z"), (0, .methodref 17 18), (0, .class_ 19), (0, .nameAndType 20 15), (0, u "com/example/unify_trace/unifytrace/term/TermIsNameCharacterPinLaw"), (0, u "reference"), (3, u "law"), (0, u "(I)Z")] 2

def k1m0 : Method := { name := "<init>", desc := "()V", sig := { parameters := [], returnType := none }, accessFlags := 1, code := none }
def k1c1 : Code := { maxStack := 3, maxLocals := 4, code := method_2_code, exceptionTable := #[], attributes := #[] }
def k1m1 : Method := { name := "reference", desc := "(C)Z", sig := { parameters := [.char], returnType := some .boolean }, accessFlags := 10, code := some k1c1 }
def k1c2 : Code := { maxStack := 2, maxLocals := 2, code := code, exceptionTable := #[], attributes := #[] }
def k1m2 : Method := { name := "law", desc := "(I)Z", sig := { parameters := [.int], returnType := some .boolean }, accessFlags := 9, code := some k1c2 }
/-- com/example/unify_trace/unifytrace/term/TermIsNameCharacterPinLaw -/
def k1 : Class := { plain "com/example/unify_trace/unifytrace/term/TermIsNameCharacterPinLaw" (some 0) with
  accessFlags := 49
  interfaces := #[]
  cf := some (fileOf pool1 17 #[] #[{ accessFlags := 1, nameIndex := 5, descriptorIndex := 6, attributes := #[] }, { accessFlags := 10, nameIndex := 20, descriptorIndex := 15, attributes := #[] }, { accessFlags := 9, nameIndex := 24, descriptorIndex := 25, attributes := #[] }] 49 2 #[] #[])
  fields := #[]
  methods := #[k1m0, k1m1, k1m2]
  instanceTypes := #[]
  staticTypes := #[]
  resolved := Array.replicate 28 none
  statics := none }

def pool2 : Array CpInfo := pool [(2, .class_ 4), (1, u "java/lang/Object"), (3, .class_ 10), (1, u "com/example/unify_trace/unifytrace/term/Term"), (0, u "name"), (0, u "Ljava/lang/String;"), (73, u "isNameCharacter"), (0, u "(C)Z")] 14

def k2c0 : Code := { maxStack := 2, maxLocals := 1, code := prog_26_method_8_code, exceptionTable := #[], attributes := #[] }
def k2m0 : Method := { name := "isNameCharacter", desc := "(C)Z", sig := { parameters := [.char], returnType := some .boolean }, accessFlags := 9, code := some k2c0 }
/-- com/example/unify_trace/unifytrace/term/Term -/
def k2 : Class := { plain "com/example/unify_trace/unifytrace/term/Term" (some 0) with
  accessFlags := 1057
  interfaces := #[]
  cf := some (fileOf pool2 8 #[] #[{ accessFlags := 9, nameIndex := 86, descriptorIndex := 87, attributes := #[] }] 1057 2 #[] #[{ accessFlags := 18, nameIndex := 11, descriptorIndex := 12, attributes := #[] }])
  fields := #[{ name := "name", type := (.object "java/lang/String"), accessFlags := 18, slot := 0, constantValue := 0 }]
  methods := #[k2m0]
  instanceTypes := #[(.object "java/lang/String")]
  staticTypes := #[]
  resolved := Array.replicate 102 none
  statics := none }

def pool3 : Array CpInfo := pool [(1, u "java/lang/Cloneable"), (0, .class_ 1), (0, u "java/lang/Object"), (0, .class_ 3)] 3

/-- java/lang/Cloneable -/
def k3 : Class := { plain "java/lang/Cloneable" (some 0) with
  accessFlags := 1537
  interfaces := #[]
  cf := some (fileOf pool3 2 #[] #[] 1537 4 #[] #[])
  fields := #[]
  methods := #[]
  instanceTypes := #[]
  staticTypes := #[]
  resolved := Array.replicate 8 none
  statics := none }

def pool4 : Array CpInfo := pool [(1, u "java/io/Serializable"), (0, .class_ 1), (0, u "java/lang/Object"), (0, .class_ 3)] 3

/-- java/io/Serializable -/
def k4 : Class := { plain "java/io/Serializable" (some 0) with
  accessFlags := 1537
  interfaces := #[]
  cf := some (fileOf pool4 2 #[] #[] 1537 4 #[] #[])
  fields := #[]
  methods := #[]
  instanceTypes := #[]
  staticTypes := #[]
  resolved := Array.replicate 8 none
  statics := none }

/-- the primitive byte -/
def k5 : Class := { plain "byte" none with kind := .primitive 'B', accessFlags := 0x411 }
/-- [B -/
def k6 : Class := { plain "[B" (some 0) with kind := .array 5 .byte, interfaces := #[3, 4], accessFlags := 1041 }

/-- the primitive int -/
def k7 : Class := { plain "int" none with kind := .primitive 'I', accessFlags := 0x411 }
/-- [I -/
def k8 : Class := { plain "[I" (some 0) with kind := .array 7 .int, interfaces := #[3, 4], accessFlags := 1041 }

def heap : Heap := #[]
def classes : Array Class := #[k0, k1, k2, k3, k4, k5, k6, k7, k8]
def interned : List (Array UInt16 × Addr) := []
def slotsUsed : Nat := 0
def theMethod : MethodId := ⟨1, 2⟩
def args0 : Array Value := #[.int 5]
def aboutOver (below : List Frame) : State where
  vm := { classes := classes, interned := interned.toArray }
  heap := heap
  slotsUsed := slotsUsed
  threads := #[{ frames := .invoking theMethod args0 :: below }]
def below0 : List Frame := [.native { method := ⟨0, 0⟩, args := #[] }]
def about1 : State := aboutOver below0
def p0 : Program := .bare "" "" ""
def e0 : Env := launch0.env 0 0 0
theorem w_frames : about1.frames = Frame.invoking theMethod args0 :: below0 := rfl
set_option maxRecDepth 65536 in
theorem w_args : argsFit about1.vm theMethod args0 = true := by decide +kernel
set_option maxRecDepth 65536 in
theorem w_heap : heapFits about1 = true := by decide +kernel
set_option maxRecDepth 65536 in
theorem w_runnable : about1.curStatus? = some .runnable := by decide +kernel
set_option maxRecDepth 65536 in
theorem w_alone : about1.alone = true := by decide +kernel
set_option maxRecDepth 65536 in
theorem w_named : about1.methodNamed? x = some theMethod := by decide +kernel
set_option maxRecDepth 65536 in
theorem w_hears : about1.hears theMethod below0 = true := by decide +kernel
set_option maxRecDepth 65536 in
theorem w_ripe : about1.ripe theMethod args0 below0 = true := by decide +kernel
theorem w_running : about1.status = .running := rfl
set_option maxRecDepth 65536 in
theorem w_room : about1.hasRoom e0.platform room_1 = true :=
  launch0.hasRoom_least _ room_1 (by decide +kernel) (by decide +kernel) (by decide +kernel) (by decide +kernel) (by decide +kernel) (by decide +kernel)
theorem allAtoms_all (ts : List Jvm.Cond) (a : Array Jvm.Value) (st : Jvm.State) : (allAtoms ts).before a st = ts.all (fun c => c.before a st) := by
  induction ts with
  | nil => rfl
  | cons c t ih =>
    show (Jvm.Cond.and c (allAtoms t)).before a st = _
    rw [Jvm.Cond.before_and, ih, List.all_cons]
def words1 : List Jvm.Cond := Jvm.Cond.code x code maxLocals ret :: tables_1
/-- a 'code' word, met by the world's own term for the bytes: nothing is compared byte by byte -/
theorem code_word {y : MethodName} {bytes : ByteArray} {mx : Nat} {rt : Option FieldType} {a : Array Value} {s : State} {m : MethodId} {meth : Method} {c : Code} (h1 : s.methodNamed? y = some m) (h2 : s.vm.method? m = some meth) (h3 : meth.code = some c) (h4 : c.code = bytes)
    (h5 : (c.maxLocals == mx && c.exceptionTable.isEmpty && decide (c.maxStack ≤ mostOperands) && decide (meth.sig.returnType = rt) && !meth.locks && decide (parseMethodDescriptor y.desc = some meth.sig)) = true) : (Jvm.Cond.code y bytes mx rt).before a s = true := by
  simp only [Bool.and_eq_true, beq_iff_eq, Bool.not_eq_true', decide_eq_true_eq] at h5
  obtain ⟨⟨⟨⟨⟨g1, g2⟩, g3⟩, g4⟩, g5⟩, g6⟩ := h5
  simp [Cond.before, Cond.holds, Cond.value, h1, h2, h3, h4, g1, g2, g3, g4, g5, g6]
def isCode : Jvm.Cond → Bool
  | .code _ _ _ _ => true
  | _ => false
theorem all_split {L : List Jvm.Cond} {P : Jvm.Cond → Bool} (h1 : L.all (fun c => isCode c || P c) = true) (h2 : ∀ c ∈ L.filter isCode, P c = true) : L.all P = true := by
  refine List.all_eq_true.mpr fun c hc => ?_
  have h := List.all_eq_true.mp h1 c hc
  rcases Bool.eq_false_or_eq_true (isCode c) with hi | hi
  · exact h2 c (List.mem_filter.mpr ⟨hc, hi⟩)
  · simpa [hi] using h
set_option maxRecDepth 65536 in
theorem w_c0 : (Jvm.Cond.code x code maxLocals ret).before args0 about1 = true := code_word (m := ⟨1, 2⟩) (meth := k1m2) (c := k1c2) (by decide +kernel) rfl rfl rfl (by decide +kernel)
set_option maxRecDepth 65536 in
theorem w_c1 : (Jvm.Cond.code ({ cls := "com/example/unify_trace/unifytrace/term/Term", name := "isNameCharacter", desc := "(C)Z" } : Jvm.MethodName) prog_26_method_8_code (1 : Nat) (Option.some Jvm.ClassFile.FieldType.boolean)).before args0 about1 = true := code_word (m := ⟨2, 0⟩) (meth := k2m0) (c := k2c0) (by decide +kernel) rfl rfl rfl (by decide +kernel)
set_option maxRecDepth 65536 in
theorem w_c2 : (Jvm.Cond.code ({ cls := "com/example/unify_trace/unifytrace/term/TermIsNameCharacterPinLaw", name := "reference", desc := "(C)Z" } : Jvm.MethodName) method_2_code (4 : Nat) (Option.some Jvm.ClassFile.FieldType.boolean)).before args0 about1 = true := code_word (m := ⟨1, 1⟩) (meth := k1m1) (c := k1c1) (by decide +kernel) rfl rfl rfl (by decide +kernel)
def codes1 : List Jvm.Cond := [Jvm.Cond.code x code maxLocals ret, Jvm.Cond.code ({ cls := "com/example/unify_trace/unifytrace/term/Term", name := "isNameCharacter", desc := "(C)Z" } : Jvm.MethodName) prog_26_method_8_code (1 : Nat) (Option.some Jvm.ClassFile.FieldType.boolean), Jvm.Cond.code ({ cls := "com/example/unify_trace/unifytrace/term/TermIsNameCharacterPinLaw", name := "reference", desc := "(C)Z" } : Jvm.MethodName) method_2_code (4 : Nat) (Option.some Jvm.ClassFile.FieldType.boolean)]
set_option maxRecDepth 65536 in
theorem codes_eq : words1.filter isCode = codes1 := rfl
theorem w_codes : ∀ c ∈ words1.filter isCode, c.before args0 about1 = true := by
  rw [codes_eq]
  intro c hc
  simp only [codes1, List.mem_cons, List.not_mem_nil, or_false] at hc
  rcases hc with rfl | rfl | rfl
  · exact w_c0
  · exact w_c1
  · exact w_c2
set_option maxRecDepth 65536 in
theorem w_t1 : words1.all (fun c => isCode c || c.before args0 about1) = true := by decide +kernel
theorem w_tables : (allAtoms (Jvm.Cond.code x code maxLocals ret :: tables_1)).before args0 about1 = true := by
  rw [allAtoms_all]
  show words1.all (fun c => c.before args0 about1) = true
  refine all_split ?_ w_codes
  rw [w_t1]
set_option maxRecDepth 65536 in
theorem w_case : (Jvm.Cond.and given_1 narrow_1).before args0 about1 = true := by decide +kernel
theorem w_applies : (headSpec (Jvm.Cond.code x code maxLocals ret :: tables_1) room_1).applies x e0.platform about1 = true :=
  (Spec.applies_iff w_frames).mpr ⟨w_running, w_runnable, w_alone, w_named, w_hears, w_ripe, w_room, w_tables⟩
theorem atStart : AtStart classFile x code maxLocals ret World_1 tables_1 room_1 Calls_1 rest_1 Pre_1 launch0 p0 e0 about1 theMethod args0 below0 :=
  ⟨lists_1, trivial, launch0.admits_env _ _ _, launch0.least_env, fairChoices_fair.cas, fairChoices_fair.clock, w_frames, w_args, w_heap, w_applies, trivial, trivial, w_case⟩
end start1
theorem witness_1 : WitnessClaimed_1 := ⟨start1.p0, start1.e0, start1.about1, start1.theMethod, start1.args0, start1.below0, start1.atStart⟩
end Jvm.Pilot.@@N@@
