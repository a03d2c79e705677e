import JvmDerived
import JvmDerived.Pilot.@@N@@Statement
import JvmDerived.Pilot.@@N@@Code
set_option linter.unusedVariables false
set_option linter.unusedSimpArgs false
namespace Jvm.RoadKit
open Sem ClassFile Op Lib Jvm.Stand Jvm.Free Jvm.LawKit
section New
variable {p : Program} {l : Launch} {e : Env} {R : Room} {s : State} {m : MethodId} {args : Array Value} {below : List Frame} {meth : Method} {c : Code} {T : State} {locs : List Loc} {cells slots : Nat}
theorem retI (X : Stand p l e R s m args below meth c T locs cells slots) (hx : p.tables.exec = Jvm.exec) {pc : Nat} {Ls : Array Slot} {z : Int32} {rest : List Value} (hret : meth.sig.returnType = some .int) (hd : decode c.code pc = .ok (.ireturn, 1)) {fs : List Frame}
    (hl : ∀ (f : JFrame) (acts : List Action), f.method = m → f.locked = none → f.entered = [] → (doReturn e (T.setTop f) acts (some (.int z))).1 = T.setFrames fs) : Steps p.tables e below (T.setTop (mkF m pc Ls (.int z :: rest))) (T.setFrames fs) := by
  have hm' : T.vm.method? m = some meth := X.method'
  have hn : narrow .int (.int z) = .int z := rfl
  show Steps p.tables e below (T.setTop { method := m, pc := pc, locals := Ls, stack := _ :: rest, locked := none }) _
  jvm_step X.here [X.here.top, hx, hd, hm', hret, hn]
  first | (intro acts; rw [hl _ acts rfl rfl rfl]) | rw [hl _ _ rfl rfl rfl]
  exact Steps.refl _
/-- from here the invocation comes to an end of which R holds -/
def Goes (p : Program) (e : Env) (below : List Frame) (cur : State) (R : State → Outcome → Prop) : Prop := ∃ s₂ o, Steps p.tables e below cur s₂ ∧ s₂.status = .running ∧ Ended s₂ below o ∧ R s₂ o
theorem Goes.via {cur next : State} {R : State → Outcome → Prop} (k : ∀ t, Steps p.tables e below next t → Steps p.tables e below cur t) (h : Goes p e below next R) : Goes p e below cur R := by
  obtain ⟨s₂, o, h1, h2⟩ := h
  exact ⟨s₂, o, k _ h1, h2⟩
/-- the places written so far, as one unknown list -/
theorem ownPack (X : Stand p l e R s m args below meth c T locs cells slots) {n0 : Nat} (N : Fr n0 locs) : ∃ L, Stand p l e R s m args below meth c T L cells slots ∧ Fr n0 L := ⟨_, X, N⟩
end New
end Jvm.RoadKit
namespace Jvm.RoadKit
open Sem ClassFile Op Lib Jvm.Stand Jvm.Free Jvm.LawKit
section NewS
variable {p : Program} {l : Launch} {e : Env} {R : Room} {s : State} {m : MethodId} {args : Array Value} {below : List Frame} {meth : Method} {c : Code} {T : State} {locs : List Loc} {cells slots : Nat} {Z : State} {a0 : Array Value} {h : Heap}
/-- a callee that may intern, with a word on the tables ahead (I) and behind (in Q) -/
theorem ownBackS {y : MethodName} {bytes : ByteArray} {maxL : Nat} {ret : Option FieldType} {rm : Room} {len W : Nat} {as' : Array Value} {I : Vm → Prop} {Q : Option Value → Heap → Vm → List Loc → Prop}
    (hM : MetFree l y (head1 [Cond.code y bytes maxL ret] rm) (fun a U => a = as' ∧ Z.Warmed39 U.vm ∧ U.heap = h ∧ I U.vm) (fun _ _ _ _ _ => True) (fun _ U o U' => ∃ v L, o = .returned v ∧ Q v U'.heap U'.vm L ∧ ReturnedEndW U o U' L rm.cells rm.slots))
    (hZ : Z.Warmed39 s.vm) (hI : ∀ vm, s.WarmedH vm → I vm) (wc : (Cond.code y bytes maxL ret).before a0 Z = true) (wz : (Cond.initialized y.cls).before a0 Z = true) (hf : rm.frames + 1 ≤ R.frames) (hl : W + (maxL + 11) + rm.locals ≤ R.locals) :
    BackS l R p e below s args y len W (fun A a => a = as' ∧ A.U.heap = h ∧ A.cells + rm.cells ≤ R.cells ∧ A.slots + rm.slots ≤ R.slots)
      (fun A _ v B => ∃ L, Q v B.U.heap B.U.vm L ∧ B.locs = A.locs ++ L ∧ B.cells = A.cells + rm.cells ∧ B.slots = A.slots + rm.slots) :=
  BackS.of_freeW (bytes := bytes) (maxL := maxL) (ret := ret) (E := fun _ _ o t L k n => k = rm.cells ∧ n = rm.slots ∧ ∃ v, o = .returned v ∧ Q v t.heap t.vm L) hM hf hl
    (fun m meth c A a Y hp => have hU : Z.Warmed39 A.U.vm := wtrans hZ Y.warmed
      ⟨by show (Cond.and _ .tt).before a A.U = true; rw [Cond.before_and, mv hU wc]; rfl, mv hU wc, mv hU wz, hp.2.2.1, hp.2.2.2⟩)
    (fun m meth c A a g mk Y hp => ⟨hp.1, wtrans hZ Y.warmed, hp.2.1, hI _ Y.warmed⟩) (fun _ _ _ _ _ _ _ _ _ => trivial)
    (fun _ _ _ _ ⟨v, L, h1, h2, h3⟩ => ⟨L, _, _, h3, rfl, rfl, v, h1, h2⟩)
    (fun m meth c A a g mk v t L k n Y hp _ _ ⟨e1, e2, v', e3, e4⟩ => by cases e3; subst e1 e2; exact ⟨L, e4, rfl, rfl, rfl⟩)
theorem IB.warm {Ts : List String} (I : IB Z s.vm Ts) {vm : Vm} (hW : s.WarmedH vm) : IB Z vm Ts := by
  obtain ⟨more, h1, h2⟩ := I
  exact ⟨more, hW.interned_eq.trans h1, h2⟩
theorem Lit.any {s' : State} {vm : Vm} {own : String} {i : Nat} {a : Addr} (L : Lit (s.setVm vm) own i a) : Lit (s'.setVm vm) own i a := L
theorem Lit.warm {own : String} {i : Nat} {a : Addr} (L : Lit s own i a) {vm : Vm} (hW : s.WarmedH vm) : Lit (s.setVm vm) own i a := State.resolvedAt?_warmed39 (s := s) hW.wide L
end NewS
end Jvm.RoadKit
namespace Jvm.Pilot.@@N@@
open Jvm Jvm.ClassFile Sem Op Lib Jvm.Free Jvm.Stand Jvm.LawKit Jvm.RoadKit Bundle Jvm.Pilot.@@N@@.Jvm.D
def own_St (Z : State) (w0 : Int32) (vF : Value) : Prop := Sta Z Z.heap "java/lang/String" "COMPACT_STRINGS" "Z" (.int w0) ∧ ¬ w0 = (0 : Int32) ∧ Sta Z Z.heap "java/lang/StringUTF16" "$assertionsDisabled" "Z" (.int (1 : Int32)) ∧ Sta Z Z.heap "java/lang/StringUTF16" "HI_BYTE_SHIFT" "I" (.int (0 : Int32)) ∧ Sta Z Z.heap "java/lang/StringUTF16" "LO_BYTE_SHIFT" "I" (.int (8 : Int32)) ∧ Sta Z Z.heap "jdk/internal/util/Preconditions" "SIOOBE_FORMATTER" "Ljava/util/function/BiFunction;" vF ∧ vF.isRef = true
theorem own_wS {Z : State} {a0 : Array Value} (hw : ∀ d ∈ tables_1, d.before a0 Z = true) : ∀ a ∈ Bundle.stringAtoms, a.before a0 Z = true := by
  intro a ha
  simp only [Bundle.stringAtoms, Bundle.sN, List.mem_cons, List.not_mem_nil, or_false] at ha
  rcases ha with rfl | rfl | rfl | rfl | rfl | rfl | rfl
  · exact hw _ (List.mem_of_getElem? (i := 7) rfl)
  · exact hw _ (List.mem_of_getElem? (i := 8) rfl)
  · exact hw _ (List.mem_of_getElem? (i := 0) rfl)
  · exact hw _ (List.mem_of_getElem? (i := 9) rfl)
  · exact hw _ (List.mem_of_getElem? (i := 10) rfl)
  · exact hw _ (List.mem_of_getElem? (i := 11) rfl)
  · exact hw _ (List.mem_of_getElem? (i := 12) rfl)
theorem d4_0 : decode jdk_43_method_3_code 0 = .ok (.iload_n 0, 1) := by decide +kernel
theorem d4_1 : decode jdk_43_method_3_code 1 = .ok (.sipush 255, 3) := by decide +kernel
theorem d4_4 : decode jdk_43_method_3_code 4 = .ok (.if_icmp .gt 7, 3) := by decide +kernel
theorem d4_11 : decode jdk_43_method_3_code 11 = .ok (.iconst 0, 1) := by decide +kernel
theorem d4_12 : decode jdk_43_method_3_code 12 = .ok (.ireturn, 1) := by decide +kernel
theorem pn_4 : plainName "java/lang/StringLatin1" = true := by first | (simp [plainName, overriddenIn]; done) | decide +kernel
theorem ef_4 (m : MethodId)  : entryFrame m #[(.int (65533 : Int32))] 1 = mkF m 0 #[.val (.int (65533 : Int32))] [] := by first | (simp [entryFrame, mkF, argsToLocals, Value.category]; done) | rfl
def Q4 (Z : State) (h0 : Heap) (n0 : Nat) (v : Option Value) (h : Heap) (L : List Loc) : Prop := v = some (.int (0 : Int32)) ∧ Fr n0 L ∧ h = h0
set_option maxRecDepth 65536 in
set_option maxHeartbeats 40000000 in
theorem rm4 (l : Launch) (Z : State) (a0 : Array Value) (hw : ∀ d ∈ tables_1, d.before a0 Z = true) (ws : List Jvm.Cond)  (h0 : Heap) (n0 : Nat) (Z0 : n0 ≤ h0.size) :
    MetFree l (⟨"java/lang/StringLatin1", "canEncode", "(C)Z"⟩ : MethodName) (head1 (Jvm.Cond.code (⟨"java/lang/StringLatin1", "canEncode", "(C)Z"⟩ : MethodName) jdk_43_method_3_code 1 (some .boolean) :: ws) ({ frames := 0, cells := 0, slots := 0, locals := 0 } : Room)) (fun a U => a = #[(.int (65533 : Int32))] ∧ Z.Warmed39 U.vm ∧ U.heap = h0) (fun _ _ _ _ _ => True) (fun _ U o U' => ∃ v L, o = .returned v ∧ Q4 Z  h0 n0 v U'.heap L ∧ FrameEnd U o U' L ({ frames := 0, cells := 0, slots := 0, locals := 0 } : Room).cells ({ frames := 0, cells := 0, slots := 0, locals := 0 } : Room).slots) := by
  refine MetFree.of_bodySF (plainFor_of_name pn_4) hisR ?_
  intro p e s m args below meth c s₁ Bd hml0 hP hK
  obtain ⟨rfl, hZ, hh⟩ := hP
  have hx := Bd.exec
  have hby := Bd.bytes
  have hml : c.maxLocals = 1 := hml0
  have hown : s.vm.findClass "java/lang/StringLatin1" = some m.cls := findClass_of_methodNamed Bd.named
  have hnm := (name_of_methodNamed Bd.named Bd.method).1
  have X0 : Stand p l e ({ frames := 0, cells := 0, slots := 0, locals := 0 } : Room) s m #[(.int (65533 : Int32))] below meth c s₁ [] 0 0 := Stand.of_body Bd
  have e0 : s₁.heap = h0 := by rw [← hh, Bd.state]; rfl
  have N0 := Fr.nil n0
  refine Goes.via (next := s₁.setTop (mkF m 0 #[.val (.int (65533 : Int32))] [])) (fun t k => castTop (ef_4 m ) k) ?_
  refine Goes.via (fun t k => XS.iloadN X0.here hx rfl (hb hby d4_0) rfl k) ?_
  show Goes p e below (s₁.setTop (mkF m 1 #[.val (.int (65533 : Int32))] [(.int (65533 : Int32))])) _
  refine Goes.via (fun t k => XS.sipush X0.here hx rfl (hb hby d4_1) k) ?_
  show Goes p e below (s₁.setTop (mkF m 4 #[.val (.int (65533 : Int32))] [(.int (255 : Int32)), (.int (65533 : Int32))])) _
  refine Goes.via (fun t k => XS.icmpYes X0.here hx rfl (pc0 := 4) (pc' := 11) rfl (hb hby d4_4) rfl (tlt (show (255 : Int32) < (65533 : Int32) from (by decide))).2.2.1 (by decide) (by decide) k) ?_
  show Goes p e below (s₁.setTop (mkF m 11 #[.val (.int (65533 : Int32))] [])) _
  refine Goes.via (fun t k => XS.iconst X0.here hx rfl (hb hby d4_11) k) ?_
  show Goes p e below (s₁.setTop (mkF m 12 #[.val (.int (65533 : Int32))] [(.int (0 : Int32))])) _
  obtain ⟨fs, hr, hrun, hended, hW, hsame⟩ := X0.leave (v := some (.int (0 : Int32))) (fun h => by rw [Bd.returns] at h; cases h)
  refine ⟨_, _, ?_, hrun, hended, _, _, rfl, ?_, ⟨_, rfl⟩, hW, hsame.mono (by decide) (by decide)⟩
  · exact retN X0 hx (t := .boolean) Bd.returns (by simp) (hb hby d4_12) hr
  · show Q4 Z  h0 n0 _ s₁.heap _
    rw [e0]
    exact ⟨rfl, N0, rfl⟩
theorem d6_0 : decode jdk_52_method_4_code 0 = .ok (.getstatic 44, 3) := by decide +kernel
theorem d6_3 : decode jdk_52_method_4_code 3 = .ok (.ifCond .ne 25, 3) := by decide +kernel
theorem d6_28 : decode jdk_52_method_4_code 28 = .ok (.iload_n 1, 1) := by decide +kernel
theorem d6_29 : decode jdk_52_method_4_code 29 = .ok (.iconst 1, 1) := by decide +kernel
theorem d6_30 : decode jdk_52_method_4_code 30 = .ok (.ishl, 1) := by decide +kernel
theorem d6_31 : decode jdk_52_method_4_code 31 = .ok (.istore_n 1, 1) := by decide +kernel
theorem d6_32 : decode jdk_52_method_4_code 32 = .ok (.aload_n 0, 1) := by decide +kernel
theorem d6_33 : decode jdk_52_method_4_code 33 = .ok (.iload_n 1, 1) := by decide +kernel
theorem d6_34 : decode jdk_52_method_4_code 34 = .ok (.iinc 1 1, 3) := by decide +kernel
theorem d6_37 : decode jdk_52_method_4_code 37 = .ok (.iload_n 2, 1) := by decide +kernel
theorem d6_38 : decode jdk_52_method_4_code 38 = .ok (.getstatic 59, 3) := by decide +kernel
theorem d6_41 : decode jdk_52_method_4_code 41 = .ok (.ishr, 1) := by decide +kernel
theorem d6_42 : decode jdk_52_method_4_code 42 = .ok (.i2b, 1) := by decide +kernel
theorem d6_43 : decode jdk_52_method_4_code 43 = .ok (.bastore, 1) := by decide +kernel
theorem d6_44 : decode jdk_52_method_4_code 44 = .ok (.aload_n 0, 1) := by decide +kernel
theorem d6_45 : decode jdk_52_method_4_code 45 = .ok (.iload_n 1, 1) := by decide +kernel
theorem d6_46 : decode jdk_52_method_4_code 46 = .ok (.iload_n 2, 1) := by decide +kernel
theorem d6_47 : decode jdk_52_method_4_code 47 = .ok (.getstatic 63, 3) := by decide +kernel
theorem d6_50 : decode jdk_52_method_4_code 50 = .ok (.ishr, 1) := by decide +kernel
theorem d6_51 : decode jdk_52_method_4_code 51 = .ok (.i2b, 1) := by decide +kernel
theorem d6_52 : decode jdk_52_method_4_code 52 = .ok (.bastore, 1) := by decide +kernel
theorem d6_53 : decode jdk_52_method_4_code 53 = .ok (.return_, 1) := by decide +kernel
theorem pn_6 : plainName "java/lang/StringUTF16" = true := by first | (simp [plainName, overriddenIn]; done) | decide +kernel
theorem ef_6 (m : MethodId) (x0 : Addr) : entryFrame m #[(.ref x0), (.int (0 : Int32)), (.int (65533 : Int32))] 3 = mkF m 0 #[.val (.ref x0), .val (.int (0 : Int32)), .val (.int (65533 : Int32))] [] := by first | (simp [entryFrame, mkF, argsToLocals, Value.category]; done) | rfl
def Q6 (Z : State) (a1 : Addr) (k1 : ClassId) (h0 : Heap) (n0 : Nat) (v : Option Value) (h : Heap) (L : List Loc) : Prop := v = none ∧ Fr n0 L ∧ Keep h0 h [a1] ∧ Arv Z h a1 k1 .byte (2 : Int32) [(.int (-3 : Int32)), (.int (-1 : Int32))] (.int (0 : Int32))
set_option maxRecDepth 65536 in
set_option maxHeartbeats 40000000 in
theorem rm6 (l : Launch) (Z : State) (a0 : Array Value) (hw : ∀ d ∈ tables_1, d.before a0 Z = true) (ws : List Jvm.Cond) (a1 : Addr) (k1 : ClassId) (w0 : Int32) (vF : Value) (h0 : Heap) (n0 : Nat) (Z0 : n0 ≤ h0.size) (V1 : Arv Z h0 a1 k1 .byte (2 : Int32) [(.int (0 : Int32)), (.int (0 : Int32))] (.int (0 : Int32))) (g1 : n0 ≤ a1) (O0 : Old Z n0 h0) (St : own_St Z w0 vF) :
    MetFree l (⟨"java/lang/StringUTF16", "putChar", "([BII)V"⟩ : MethodName) (head1 (Jvm.Cond.code (⟨"java/lang/StringUTF16", "putChar", "([BII)V"⟩ : MethodName) jdk_52_method_4_code 3 none :: ws) ({ frames := 0, cells := 0, slots := 0, locals := 0 } : Room)) (fun a U => a = #[(.ref a1), (.int (0 : Int32)), (.int (65533 : Int32))] ∧ Z.Warmed39 U.vm ∧ U.heap = h0) (fun _ _ _ _ _ => True) (fun _ U o U' => ∃ v L, o = .returned v ∧ Q6 Z a1 k1 h0 n0 v U'.heap L ∧ FrameEnd U o U' L ({ frames := 0, cells := 0, slots := 0, locals := 0 } : Room).cells ({ frames := 0, cells := 0, slots := 0, locals := 0 } : Room).slots) := by
  refine MetFree.of_bodySF (plainFor_of_name pn_6) hisR ?_
  intro p e s m args below meth c s₁ Bd hml0 hP hK
  obtain ⟨rfl, hZ, hh⟩ := hP
  have hx := Bd.exec
  have hby := Bd.bytes
  have hml : c.maxLocals = 3 := hml0
  have hown : s.vm.findClass "java/lang/StringUTF16" = some m.cls := findClass_of_methodNamed Bd.named
  have hnm := (name_of_methodNamed Bd.named Bd.method).1
  have X0 : Stand p l e ({ frames := 0, cells := 0, slots := 0, locals := 0 } : Room) s m #[(.ref a1), (.int (0 : Int32)), (.int (65533 : Int32))] below meth c s₁ [] 0 0 := Stand.of_body Bd
  have e0 : s₁.heap = h0 := by rw [← hh, Bd.state]; rfl
  have N0 := Fr.nil n0
  refine Goes.via (next := s₁.setTop (mkF m 0 #[.val (.ref a1), .val (.int (0 : Int32)), .val (.int (65533 : Int32))] [])) (fun t k => castTop (ef_6 m a1) k) ?_
  obtain ⟨T1, X1, e1, st1⟩ := getS2 X0 hx hZ hown (host := "") (Or.inl (hw _ (List.mem_of_getElem? (i := 36) rfl))) Via.refl e0 (St.2.2.1.ext O0.2) (g := (mkF m 0 #[.val (.ref a1), .val (.int (0 : Int32)), .val (.int (65533 : Int32))] [])) rfl (hb hby d6_0)
  refine Goes.via st1 ?_
  show Goes p e below (T1.setTop (mkF m 3 #[.val (.ref a1), .val (.int (0 : Int32)), .val (.int (65533 : Int32))] [(.int (1 : Int32))])) _
  refine Goes.via (fun t k => XS.ifYes X1.here hx rfl (pc0 := 3) (pc' := 28) rfl (hb hby d6_3) rfl ((if0 _ _).trans (feq (show ¬ ((1 : Int32) = (0 : Int32)) from (by decide))).2) (by decide) (by decide) k) ?_
  show Goes p e below (T1.setTop (mkF m 28 #[.val (.ref a1), .val (.int (0 : Int32)), .val (.int (65533 : Int32))] [])) _
  refine Goes.via (fun t k => XS.iloadN X1.here hx rfl (hb hby d6_28) rfl k) ?_
  show Goes p e below (T1.setTop (mkF m 29 #[.val (.ref a1), .val (.int (0 : Int32)), .val (.int (65533 : Int32))] [(.int (0 : Int32))])) _
  refine Goes.via (fun t k => XS.iconst X1.here hx rfl (hb hby d6_29) k) ?_
  show Goes p e below (T1.setTop (mkF m 30 #[.val (.ref a1), .val (.int (0 : Int32)), .val (.int (65533 : Int32))] [(.int (1 : Int32)), (.int (0 : Int32))])) _
  refine Goes.via (fun t k => XS.ishl X1.here hx rfl (hb hby d6_30) rfl k) ?_
  show Goes p e below (T1.setTop (mkF m 31 #[.val (.ref a1), .val (.int (0 : Int32)), .val (.int (65533 : Int32))] [(.int (0 : Int32))])) _
  refine Goes.via (fun t k => XS.istoreN X1.here hx rfl (hb hby d6_31) rfl (l' := #[.val (.ref a1), .val (.int (0 : Int32)), .val (.int (65533 : Int32))]) rfl k) ?_
  show Goes p e below (T1.setTop (mkF m 32 #[.val (.ref a1), .val (.int (0 : Int32)), .val (.int (65533 : Int32))] [])) _
  refine Goes.via (fun t k => XS.aloadN X1.here hx rfl (hb hby d6_32) rfl rfl k) ?_
  show Goes p e below (T1.setTop (mkF m 33 #[.val (.ref a1), .val (.int (0 : Int32)), .val (.int (65533 : Int32))] [(.ref a1)])) _
  refine Goes.via (fun t k => XS.iloadN X1.here hx rfl (hb hby d6_33) rfl k) ?_
  show Goes p e below (T1.setTop (mkF m 34 #[.val (.ref a1), .val (.int (0 : Int32)), .val (.int (65533 : Int32))] [(.int (0 : Int32)), (.ref a1)])) _
  refine Goes.via (fun t k => XS.iinc X1.here hx rfl (hb hby d6_34) rfl (l' := #[.val (.ref a1), .val (.int (1 : Int32)), .val (.int (65533 : Int32))]) rfl k) ?_
  show Goes p e below (T1.setTop (mkF m 37 #[.val (.ref a1), .val (.int (1 : Int32)), .val (.int (65533 : Int32))] [(.int (0 : Int32)), (.ref a1)])) _
  refine Goes.via (fun t k => XS.iloadN X1.here hx rfl (hb hby d6_37) rfl k) ?_
  show Goes p e below (T1.setTop (mkF m 38 #[.val (.ref a1), .val (.int (1 : Int32)), .val (.int (65533 : Int32))] [(.int (65533 : Int32)), (.int (0 : Int32)), (.ref a1)])) _
  obtain ⟨T2, X2, e2, st2⟩ := getS2 X1 hx hZ hown (host := "") (Or.inl (hw _ (List.mem_of_getElem? (i := 37) rfl))) Via.refl e1 (St.2.2.2.1.ext O0.2) (g := (mkF m 38 #[.val (.ref a1), .val (.int (1 : Int32)), .val (.int (65533 : Int32))] [(.int (65533 : Int32)), (.int (0 : Int32)), (.ref a1)])) rfl (hb hby d6_38)
  refine Goes.via st2 ?_
  show Goes p e below (T2.setTop (mkF m 41 #[.val (.ref a1), .val (.int (1 : Int32)), .val (.int (65533 : Int32))] [(.int (0 : Int32)), (.int (65533 : Int32)), (.int (0 : Int32)), (.ref a1)])) _
  refine Goes.via (fun t k => XS.ishr X2.here hx rfl (hb hby d6_41) rfl k) ?_
  show Goes p e below (T2.setTop (mkF m 42 #[.val (.ref a1), .val (.int (1 : Int32)), .val (.int (65533 : Int32))] [(.int (65533 : Int32)), (.int (0 : Int32)), (.ref a1)])) _
  refine Goes.via (fun t k => XS.i2b X2.here hx rfl (hb hby d6_42) rfl k) ?_
  show Goes p e below (T2.setTop (mkF m 43 #[.val (.ref a1), .val (.int (1 : Int32)), .val (.int (65533 : Int32))] [(.int (-3 : Int32)), (.int (0 : Int32)), (.ref a1)])) _
  obtain ⟨cl3, Ar3, qa3, Sa3, Na3, Ha3, Ga3⟩ := V1
  have hin3 : ¬ ((0 : Int32) < 0 ∨ cl3.slots.size ≤ ((0 : Int32)).toNatClampNeg) := inb_of Sa3 ⟨by decide, by decide⟩
  obtain ⟨T3, h3, X3, e3, W3, st3⟩ := stB X2 hx hZ e2 Ar3 (j := (0 : Int32)) hin3 (g := (mkF m 43 #[.val (.ref a1), .val (.int (1 : Int32)), .val (.int (65533 : Int32))] [(.int (-3 : Int32)), (.int (0 : Int32)), (.ref a1)])) rfl rfl (hb hby d6_43)
  have V3 : Arv Z h3 a1 k1 .byte (2 : Int32) [(.int (-3 : Int32)), (.int (0 : Int32))] (.int (0 : Int32)) := Arv.set Ar3 qa3 Sa3 Na3 Ha3 Ga3 (by decide) W3 0 rfl (Nat.le_of_ble_eq_true rfl)
  have K3 : Keep h0 h3 [a1] := (Keep.refl h0 [a1]).wr W3 (Or.inl (List.mem_of_getElem? (i := 0) rfl))
  have Z3 : n0 ≤ h3.size := Nat.le_trans Z0 (Keep.of_wr W3).1
  have N3 := Fr.snoc X3 N0 g1
  have O3 := O0.wr W3 g1
  refine Goes.via st3 ?_
  show Goes p e below (T3.setTop (mkF m 44 #[.val (.ref a1), .val (.int (1 : Int32)), .val (.int (65533 : Int32))] [])) _
  refine Goes.via (fun t k => XS.aloadN X3.here hx rfl (hb hby d6_44) rfl rfl k) ?_
  show Goes p e below (T3.setTop (mkF m 45 #[.val (.ref a1), .val (.int (1 : Int32)), .val (.int (65533 : Int32))] [(.ref a1)])) _
  refine Goes.via (fun t k => XS.iloadN X3.here hx rfl (hb hby d6_45) rfl k) ?_
  show Goes p e below (T3.setTop (mkF m 46 #[.val (.ref a1), .val (.int (1 : Int32)), .val (.int (65533 : Int32))] [(.int (1 : Int32)), (.ref a1)])) _
  refine Goes.via (fun t k => XS.iloadN X3.here hx rfl (hb hby d6_46) rfl k) ?_
  show Goes p e below (T3.setTop (mkF m 47 #[.val (.ref a1), .val (.int (1 : Int32)), .val (.int (65533 : Int32))] [(.int (65533 : Int32)), (.int (1 : Int32)), (.ref a1)])) _
  obtain ⟨T4, X4, e4, st4⟩ := getS2 X3 hx hZ hown (host := "") (Or.inl (hw _ (List.mem_of_getElem? (i := 38) rfl))) Via.refl e3 (St.2.2.2.2.1.ext O3.2) (g := (mkF m 47 #[.val (.ref a1), .val (.int (1 : Int32)), .val (.int (65533 : Int32))] [(.int (65533 : Int32)), (.int (1 : Int32)), (.ref a1)])) rfl (hb hby d6_47)
  refine Goes.via st4 ?_
  show Goes p e below (T4.setTop (mkF m 50 #[.val (.ref a1), .val (.int (1 : Int32)), .val (.int (65533 : Int32))] [(.int (8 : Int32)), (.int (65533 : Int32)), (.int (1 : Int32)), (.ref a1)])) _
  refine Goes.via (fun t k => XS.ishr X4.here hx rfl (hb hby d6_50) rfl k) ?_
  show Goes p e below (T4.setTop (mkF m 51 #[.val (.ref a1), .val (.int (1 : Int32)), .val (.int (65533 : Int32))] [(.int (255 : Int32)), (.int (1 : Int32)), (.ref a1)])) _
  refine Goes.via (fun t k => XS.i2b X4.here hx rfl (hb hby d6_51) rfl k) ?_
  show Goes p e below (T4.setTop (mkF m 52 #[.val (.ref a1), .val (.int (1 : Int32)), .val (.int (65533 : Int32))] [(.int (-1 : Int32)), (.int (1 : Int32)), (.ref a1)])) _
  obtain ⟨cl5, Ar5, qa5, Sa5, Na5, Ha5, Ga5⟩ := V3
  have hin5 : ¬ ((1 : Int32) < 0 ∨ cl5.slots.size ≤ ((1 : Int32)).toNatClampNeg) := inb_of Sa5 ⟨by decide, by decide⟩
  obtain ⟨T5, h5, X5, e5, W5, st5⟩ := stB X4 hx hZ e4 Ar5 (j := (1 : Int32)) hin5 (g := (mkF m 52 #[.val (.ref a1), .val (.int (1 : Int32)), .val (.int (65533 : Int32))] [(.int (-1 : Int32)), (.int (1 : Int32)), (.ref a1)])) rfl rfl (hb hby d6_52)
  have V5 : Arv Z h5 a1 k1 .byte (2 : Int32) [(.int (-3 : Int32)), (.int (-1 : Int32))] (.int (0 : Int32)) := Arv.set Ar5 qa5 Sa5 Na5 Ha5 Ga5 (by decide) W5 1 rfl (Nat.le_of_ble_eq_true rfl)
  have K5 : Keep h0 h5 [a1] := K3.wr W5 (Or.inl (List.mem_of_getElem? (i := 0) rfl))
  have Z5 : n0 ≤ h5.size := Nat.le_trans Z3 (Keep.of_wr W5).1
  have N5 := Fr.snoc X5 N3 g1
  have O5 := O3.wr W5 g1
  refine Goes.via st5 ?_
  show Goes p e below (T5.setTop (mkF m 53 #[.val (.ref a1), .val (.int (1 : Int32)), .val (.int (65533 : Int32))] [])) _
  obtain ⟨fs, hr, hrun, hended, hW, hsame⟩ := X5.leave (v := none) (fun _ => rfl)
  refine ⟨_, _, ?_, hrun, hended, _, _, rfl, ?_, ⟨_, rfl⟩, hW, hsame.mono (by decide) (by decide)⟩
  · exact X5.returnOut hx Bd.returns (hb hby d6_53) hr
  · show Q6 Z a1 k1 h0 n0 _ T5.heap _
    rw [e5]
    exact ⟨rfl, N5, K5, V5⟩
theorem d5_0 : decode jdk_52_method_24_code 0 = .ok (.iconst 2, 1) := by decide +kernel
theorem d5_1 : decode jdk_52_method_24_code 1 = .ok (.newarray .byte, 2) := by decide +kernel
theorem d5_3 : decode jdk_52_method_24_code 3 = .ok (.astore_n 1, 1) := by decide +kernel
theorem d5_4 : decode jdk_52_method_24_code 4 = .ok (.aload_n 1, 1) := by decide +kernel
theorem d5_5 : decode jdk_52_method_24_code 5 = .ok (.iconst 0, 1) := by decide +kernel
theorem d5_6 : decode jdk_52_method_24_code 6 = .ok (.iload_n 0, 1) := by decide +kernel
theorem d5_7 : decode jdk_52_method_24_code 7 = .ok (.invokestatic 111, 3) := by decide +kernel
theorem d5_10 : decode jdk_52_method_24_code 10 = .ok (.aload_n 1, 1) := by decide +kernel
theorem d5_11 : decode jdk_52_method_24_code 11 = .ok (.areturn, 1) := by decide +kernel
theorem pn_5 : plainName "java/lang/StringUTF16" = true := by first | (simp [plainName, overriddenIn]; done) | decide +kernel
theorem pd_5_0 : parseMethodDescriptor "([BII)V" = some ⟨[(.array .byte), .int, .int], none⟩ := by decide +kernel
theorem ef_5 (m : MethodId)  : entryFrame m #[(.int (65533 : Int32))] 2 = mkF m 0 #[.val (.int (65533 : Int32)), .unset] [] := by first | (simp [entryFrame, mkF, argsToLocals, Value.category]; done) | rfl
def Q5 (Z : State) (h0 : Heap) (n0 : Nat) (v : Option Value) (h : Heap) (L : List Loc) : Prop := ∃ (t : Addr) (k : ClassId), v = some (.ref t) ∧ Fr n0 L ∧ n0 ≤ t ∧ h0.size ≤ t ∧ Keep h0 h [] ∧ Arv Z h t k .byte (2 : Int32) [(.int (-3 : Int32)), (.int (-1 : Int32))] (.int (0 : Int32))
set_option maxRecDepth 65536 in
set_option maxHeartbeats 40000000 in
theorem rm5 (l : Launch) (Z : State) (a0 : Array Value) (hw : ∀ d ∈ tables_1, d.before a0 Z = true) (ws : List Jvm.Cond)  (w0 : Int32) (vF : Value) (h0 : Heap) (n0 : Nat) (Z0 : n0 ≤ h0.size) (O0 : Old Z n0 h0) (St : own_St Z w0 vF) :
    MetFree l (⟨"java/lang/StringUTF16", "toBytes", "(C)[B"⟩ : MethodName) (head1 (Jvm.Cond.code (⟨"java/lang/StringUTF16", "toBytes", "(C)[B"⟩ : MethodName) jdk_52_method_24_code 2 (some (.array .byte)) :: ws) ({ frames := 1, cells := 1, slots := 2, locals := 14 } : Room)) (fun a U => a = #[(.int (65533 : Int32))] ∧ Z.Warmed39 U.vm ∧ U.heap = h0) (fun _ _ _ _ _ => True) (fun _ U o U' => ∃ v L, o = .returned v ∧ Q5 Z  h0 n0 v U'.heap L ∧ FrameEnd U o U' L ({ frames := 1, cells := 1, slots := 2, locals := 14 } : Room).cells ({ frames := 1, cells := 1, slots := 2, locals := 14 } : Room).slots) := by
  refine MetFree.of_bodySF (plainFor_of_name pn_5) hisR ?_
  intro p e s m args below meth c s₁ Bd hml0 hP hK
  obtain ⟨rfl, hZ, hh⟩ := hP
  have hx := Bd.exec
  have hby := Bd.bytes
  have hml : c.maxLocals = 2 := hml0
  have hown : s.vm.findClass "java/lang/StringUTF16" = some m.cls := findClass_of_methodNamed Bd.named
  have hnm := (name_of_methodNamed Bd.named Bd.method).1
  have X0 : Stand p l e ({ frames := 1, cells := 1, slots := 2, locals := 14 } : Room) s m #[(.int (65533 : Int32))] below meth c s₁ [] 0 0 := Stand.of_body Bd
  have e0 : s₁.heap = h0 := by rw [← hh, Bd.state]; rfl
  have N0 := Fr.nil n0
  refine Goes.via (next := s₁.setTop (mkF m 0 #[.val (.int (65533 : Int32)), .unset] [])) (fun t k => castTop (ef_5 m ) k) ?_
  refine Goes.via (fun t k => XS.iconst X0.here hx rfl (hb hby d5_0) k) ?_
  show Goes p e below (s₁.setTop (mkF m 1 #[.val (.int (65533 : Int32)), .unset] [(.int (2 : Int32))])) _
  obtain ⟨T1, h1, k1, X1, e1, E1, A1, st1⟩ := newP X0 hx hZ (hw _ (List.mem_of_getElem? (i := 0) rfl)) e0 (g := (mkF m 1 #[.val (.int (65533 : Int32)), .unset] [(.int (2 : Int32))])) rfl (hb hby d5_1) rfl (by decide) (cap := 2) (by decide) (by decide) (by decide) (by decide)
  obtain ⟨b1, g1⟩ : ∃ z, z = h0.size := ⟨_, rfl⟩
  rw [← g1] at A1 st1
  have ge_b1 : n0 ≤ b1 := Nat.le_trans Z0 (Nat.le_of_eq g1.symm)
  have sz_b1 : h0.size ≤ b1 := Nat.le_trans (Keep.refl h0 []).1 (Nat.le_of_eq g1.symm)
  have K1 : Keep h0 h1 [] := (Keep.refl h0 []).ext E1
  have Z1 : n0 ≤ h1.size := Nat.le_trans Z0 E1.1
  have O1 := O0.ext E1
  have V1 : Arv Z h1 b1 k1 .byte (2 : Int32) [(.int (0 : Int32)), (.int (0 : Int32))] (.int (0 : Int32)) := (Arv.new A1 (by decide)).pad (pad_rep [] (.int (0 : Int32)) 2)
  refine Goes.via st1 ?_
  show Goes p e below (T1.setTop (mkF m 3 #[.val (.int (65533 : Int32)), .unset] [(.ref b1)])) _
  refine Goes.via (fun t k => XS.astoreN X1.here hx rfl (hb hby d5_3) rfl rfl (l' := #[.val (.int (65533 : Int32)), .val (.ref b1)]) rfl k) ?_
  show Goes p e below (T1.setTop (mkF m 4 #[.val (.int (65533 : Int32)), .val (.ref b1)] [])) _
  refine Goes.via (fun t k => XS.aloadN X1.here hx rfl (hb hby d5_4) rfl rfl k) ?_
  show Goes p e below (T1.setTop (mkF m 5 #[.val (.int (65533 : Int32)), .val (.ref b1)] [(.ref b1)])) _
  refine Goes.via (fun t k => XS.iconst X1.here hx rfl (hb hby d5_5) k) ?_
  show Goes p e below (T1.setTop (mkF m 6 #[.val (.int (65533 : Int32)), .val (.ref b1)] [(.int (0 : Int32)), (.ref b1)])) _
  refine Goes.via (fun t k => XS.iloadN X1.here hx rfl (hb hby d5_6) rfl k) ?_
  show Goes p e below (T1.setTop (mkF m 7 #[.val (.int (65533 : Int32)), .val (.ref b1)] [(.int (65533 : Int32)), (.int (0 : Int32)), (.ref b1)])) _
  obtain ⟨_, _, ⟨T2, L2, k2, n2⟩, -, X2, ⟨Lc2, hQ2, l2, y2, z2⟩, st2⟩ := Jvm.LawKit.callS X1 hx (y := (⟨"java/lang/StringUTF16", "putChar", "([BII)V"⟩ : MethodName)) hown (mvT hZ (hw _ (List.mem_of_getElem? (i := 33) rfl))) (mvT hZ (hw _ (List.mem_of_getElem? (i := 34) rfl))) (mvT hZ (hw _ (List.mem_of_getElem? (i := 31) rfl))) (mvT hZ (hw _ (List.mem_of_getElem? (i := 35) rfl))) (by decide) (backOf (W := 0) (rm6 l Z a0 hw [] b1 k1 w0 vF h1 n0 Z1 V1 ge_b1 O1 St) hZ (hw _ (List.mem_of_getElem? (i := 35) rfl)) (hw _ (List.mem_of_getElem? (i := 31) rfl)) (by decide) (by decide)) (g := (mkF m 7 #[.val (.int (65533 : Int32)), .val (.ref b1)] [(.int (65533 : Int32)), (.int (0 : Int32)), (.ref b1)])) rfl (by rw [hml]; rfl) (argsL := [(.ref b1), (.int (0 : Int32)), (.int (65533 : Int32))]) (rest := []) (lenOf pd_5_0 rfl) rfl (by show 2 * 0 + _ ≤ _; exact Nat.le_of_eq rfl) (hb hby d5_7) (fun _ _ => ⟨rfl, e1, (by decide : 1 + 0 ≤ _), (by decide : 2 + 0 ≤ _)⟩)
  dsimp only [Pt.U, Pt.locs, Pt.cells, Pt.slots] at X2 l2 y2 z2 st2 hQ2
  subst l2 y2 z2
  obtain ⟨rfl, N2q, Kc2, Vc2⟩ := hQ2
  have K2 : Keep h0 T2.heap [] := K1.trans Kc2 (fun x hx => by cases List.mem_singleton.mp hx; exact Or.inr sz_b1)
  have Z2 : n0 ≤ T2.heap.size := Nat.le_trans Z1 Kc2.1
  have O2 := O1.keep Kc2 (fun x hx => by cases List.mem_singleton.mp hx; exact ge_b1)
  have N2 := Fr.app N0 N2q
  refine Goes.via st2 ?_
  show Goes p e below (T2.setTop (mkF m 10 #[.val (.int (65533 : Int32)), .val (.ref b1)] [])) _
  refine Goes.via (fun t k => XS.aloadN X2.here hx rfl (hb hby d5_10) rfl rfl k) ?_
  show Goes p e below (T2.setTop (mkF m 11 #[.val (.int (65533 : Int32)), .val (.ref b1)] [(.ref b1)])) _
  obtain ⟨fs, hr, hrun, hended, hW, hsame⟩ := X2.leave (v := some (.ref b1)) (fun h => by rw [Bd.returns] at h; cases h)
  refine ⟨_, _, ?_, hrun, hended, _, _, rfl, ?_, ⟨_, rfl⟩, hW, hsame.mono (by decide) (by decide)⟩
  · exact retOut X2 hx (t := (.array .byte)) Bd.returns rfl (Or.inr (Or.inr (Or.inr (Or.inr ⟨rfl, rfl, rfl⟩)))) (hb hby d5_11) hr
  · exact ⟨b1, _, rfl, N2, ge_b1, sz_b1, K2, Vc2⟩
theorem d7_0 : decode jdk_42_method_151_code 0 = .ok (.aload_n 0, 1) := by decide +kernel
theorem d7_1 : decode jdk_42_method_151_code 1 = .ok (.invokespecial 1, 3) := by decide +kernel
theorem d7_4 : decode jdk_42_method_151_code 4 = .ok (.aload_n 0, 1) := by decide +kernel
theorem d7_5 : decode jdk_42_method_151_code 5 = .ok (.aload_n 1, 1) := by decide +kernel
theorem d7_6 : decode jdk_42_method_151_code 6 = .ok (.putfield 9, 3) := by decide +kernel
theorem d7_9 : decode jdk_42_method_151_code 9 = .ok (.aload_n 0, 1) := by decide +kernel
theorem d7_10 : decode jdk_42_method_151_code 10 = .ok (.iload_n 2, 1) := by decide +kernel
theorem d7_11 : decode jdk_42_method_151_code 11 = .ok (.putfield 15, 3) := by decide +kernel
theorem d7_14 : decode jdk_42_method_151_code 14 = .ok (.return_, 1) := by decide +kernel
theorem pn_7 : plainName "java/lang/String" = true := by first | (simp [plainName, overriddenIn]; done) | decide +kernel
theorem ef_7 (m : MethodId) (x0 : Addr) (x1 : Addr) : entryFrame m #[(.ref x0), (.ref x1), (.int (1 : Int32))] 3 = mkF m 0 #[.val (.ref x0), .val (.ref x1), .val (.int (1 : Int32))] [] := by first | (simp [entryFrame, mkF, argsToLocals, Value.category]; done) | rfl
def Q7 (Z : State) (a1 a2 : Addr) (h0 : Heap) (n0 : Nat) (v : Option Value) (h : Heap) (L : List Loc) : Prop := v = none ∧ Fr n0 L ∧ Keep h0 h [a1] ∧ Fld Z h a1 "java/lang/String" "value" "[B" (.ref a2) ∧ Fld Z h a1 "java/lang/String" "coder" "B" (.int (1 : Int32))
set_option maxRecDepth 65536 in
set_option maxHeartbeats 40000000 in
theorem rm7 (l : Launch) (Z : State) (a0 : Array Value) (hw : ∀ d ∈ tables_1, d.before a0 Z = true) (ws : List Jvm.Cond) (a1 : Addr) (a2 : Addr) (h0 : Heap) (n0 : Nat) (Z0 : n0 ≤ h0.size) (E1 : Exa Z h0 a1 "java/lang/String") (Fv : Fld Z h0 a1 "java/lang/String" "value" "[B" .null) (Fc : Fld Z h0 a1 "java/lang/String" "coder" "B" (.int (0 : Int32))) (g1 : n0 ≤ a1) :
    MetFree l (⟨"java/lang/String", "<init>", "([BB)V"⟩ : MethodName) (head1 (Jvm.Cond.code (⟨"java/lang/String", "<init>", "([BB)V"⟩ : MethodName) jdk_42_method_151_code 3 none :: ws) ({ frames := 1, cells := 0, slots := 0, locals := 12 } : Room)) (fun a U => a = #[(.ref a1), (.ref a2), (.int (1 : Int32))] ∧ Z.Warmed39 U.vm ∧ U.heap = h0) (fun _ _ _ _ _ => True) (fun _ U o U' => ∃ v L, o = .returned v ∧ Q7 Z a1 a2 h0 n0 v U'.heap L ∧ FrameEnd U o U' L ({ frames := 1, cells := 0, slots := 0, locals := 12 } : Room).cells ({ frames := 1, cells := 0, slots := 0, locals := 12 } : Room).slots) := by
  refine MetFree.of_bodySF (plainFor_of_name pn_7) hisR ?_
  intro p e s m args below meth c s₁ Bd hml0 hP hK
  obtain ⟨rfl, hZ, hh⟩ := hP
  have hx := Bd.exec
  have hby := Bd.bytes
  have hml : c.maxLocals = 3 := hml0
  have hown : s.vm.findClass "java/lang/String" = some m.cls := findClass_of_methodNamed Bd.named
  have hnm := (name_of_methodNamed Bd.named Bd.method).1
  have X0 : Stand p l e ({ frames := 1, cells := 0, slots := 0, locals := 12 } : Room) s m #[(.ref a1), (.ref a2), (.int (1 : Int32))] below meth c s₁ [] 0 0 := Stand.of_body Bd
  have e0 : s₁.heap = h0 := by rw [← hh, Bd.state]; rfl
  have N0 := Fr.nil n0
  refine Goes.via (next := s₁.setTop (mkF m 0 #[.val (.ref a1), .val (.ref a2), .val (.int (1 : Int32))] [])) (fun t k => castTop (ef_7 m a1 a2) k) ?_
  refine Goes.via (fun t k => XS.aloadN X0.here hx rfl (hb hby d7_0) rfl rfl k) ?_
  show Goes p e below (s₁.setTop (mkF m 1 #[.val (.ref a1), .val (.ref a2), .val (.int (1 : Int32))] [(.ref a1)])) _
  obtain ⟨T1, X1, e1, st1⟩ := initO X0 hx hZ hown (hw _ (List.mem_of_getElem? (i := 43) rfl)) (hw _ (List.mem_of_getElem? (i := 44) rfl)) (hw _ (List.mem_of_getElem? (i := 45) rfl)) e0 (g := (mkF m 1 #[.val (.ref a1), .val (.ref a2), .val (.int (1 : Int32))] [(.ref a1)])) rfl (by rw [hml]; rfl) rfl (hb hby d7_1) (by decide) (W := 0) (by show 2 * 0 + _ ≤ _; exact Nat.le_of_eq rfl) (by decide)
  refine Goes.via st1 ?_
  show Goes p e below (T1.setTop (mkF m 4 #[.val (.ref a1), .val (.ref a2), .val (.int (1 : Int32))] [])) _
  refine Goes.via (fun t k => XS.aloadN X1.here hx rfl (hb hby d7_4) rfl rfl k) ?_
  show Goes p e below (T1.setTop (mkF m 5 #[.val (.ref a1), .val (.ref a2), .val (.int (1 : Int32))] [(.ref a1)])) _
  refine Goes.via (fun t k => XS.aloadN X1.here hx rfl (hb hby d7_5) rfl rfl k) ?_
  show Goes p e below (T1.setTop (mkF m 6 #[.val (.ref a1), .val (.ref a2), .val (.int (1 : Int32))] [(.ref a2), (.ref a1)])) _
  obtain ⟨T2, h2, X2, e2, W2, st2⟩ := putF X1 hx hZ hown (host := "") (Or.inl (hw _ (List.mem_of_getElem? (i := 18) rfl))) Via.refl e1 Fv E1 (Or.inr ⟨(hw _ (List.mem_of_getElem? (i := 9) rfl)), rfl, hnm⟩) (hw _ (List.mem_of_getElem? (i := 8) rfl)) (ty := (.array .byte)) (by decide) rfl rfl (g := (mkF m 6 #[.val (.ref a1), .val (.ref a2), .val (.int (1 : Int32))] [(.ref a2), (.ref a1)])) rfl rfl (hb hby d7_6)
  have Fw2 := Fv.same W2
  have F2_11 := E1.wr W2
  have F2_12 := Fc.other W2 (Or.inr (slot_ne (Or.inr (hw _ (List.mem_of_getElem? (i := 10) rfl))) (Or.inr (hw _ (List.mem_of_getElem? (i := 9) rfl))) (by decide) (t := .byte) (t' := (.array .byte)) (by decide) (by decide)))
  have K2 : Keep h0 h2 [a1] := (Keep.refl h0 [a1]).wr W2 (Or.inl (List.mem_of_getElem? (i := 0) rfl))
  have Z2 : n0 ≤ h2.size := Nat.le_trans Z0 (Keep.of_wr W2).1
  have N2 := Fr.snoc X2 N0 g1
  refine Goes.via st2 ?_
  show Goes p e below (T2.setTop (mkF m 9 #[.val (.ref a1), .val (.ref a2), .val (.int (1 : Int32))] [])) _
  refine Goes.via (fun t k => XS.aloadN X2.here hx rfl (hb hby d7_9) rfl rfl k) ?_
  show Goes p e below (T2.setTop (mkF m 10 #[.val (.ref a1), .val (.ref a2), .val (.int (1 : Int32))] [(.ref a1)])) _
  refine Goes.via (fun t k => XS.iloadN X2.here hx rfl (hb hby d7_10) rfl k) ?_
  show Goes p e below (T2.setTop (mkF m 11 #[.val (.ref a1), .val (.ref a2), .val (.int (1 : Int32))] [(.int (1 : Int32)), (.ref a1)])) _
  obtain ⟨T3, h3, X3, e3, W3, st3⟩ := putFN X2 hx hZ hown (hw _ (List.mem_of_getElem? (i := 46) rfl)) Via.refl e2 F2_12 F2_11 (Or.inr ⟨(hw _ (List.mem_of_getElem? (i := 10) rfl)), rfl, hnm⟩) (hw _ (List.mem_of_getElem? (i := 8) rfl)) (ty := .byte) (v' := (.int (1 : Int32))) (by decide) rfl (by decide) (g := (mkF m 11 #[.val (.ref a1), .val (.ref a2), .val (.int (1 : Int32))] [(.int (1 : Int32)), (.ref a1)])) rfl rfl (hb hby d7_11)
  have Fw3 := F2_12.same W3
  have F3_24 := F2_11.wr W3
  have F3_25 := Fw2.other W3 (Or.inr (slot_ne (Or.inr (hw _ (List.mem_of_getElem? (i := 9) rfl))) (Or.inr (hw _ (List.mem_of_getElem? (i := 10) rfl))) (by decide) (t := (.array .byte)) (t' := .byte) (by decide) (by decide)))
  have K3 : Keep h0 h3 [a1] := K2.wr W3 (Or.inl (List.mem_of_getElem? (i := 0) rfl))
  have Z3 : n0 ≤ h3.size := Nat.le_trans Z2 (Keep.of_wr W3).1
  have N3 := Fr.snoc X3 N2 g1
  refine Goes.via st3 ?_
  show Goes p e below (T3.setTop (mkF m 14 #[.val (.ref a1), .val (.ref a2), .val (.int (1 : Int32))] [])) _
  obtain ⟨fs, hr, hrun, hended, hW, hsame⟩ := X3.leave (v := none) (fun _ => rfl)
  refine ⟨_, _, ?_, hrun, hended, _, _, rfl, ?_, ⟨_, rfl⟩, hW, hsame.mono (by decide) (by decide)⟩
  · exact X3.returnOut hx Bd.returns (hb hby d7_14) hr
  · show Q7 Z a1 a2 h0 n0 _ T3.heap _
    rw [e3]
    exact ⟨rfl, N3, K3, F3_25, Fw3⟩
theorem d3_0 : decode jdk_42_method_139_code 0 = .ok (.getstatic 38, 3) := by decide +kernel
theorem d3_3 : decode jdk_42_method_139_code 3 = .ok (.ifCond .eq 23, 3) := by decide +kernel
theorem d3_6 : decode jdk_42_method_139_code 6 = .ok (.iload_n 0, 1) := by decide +kernel
theorem d3_7 : decode jdk_42_method_139_code 7 = .ok (.invokestatic 1015, 3) := by decide +kernel
theorem d3_10 : decode jdk_42_method_139_code 10 = .ok (.ifCond .eq 16, 3) := by decide +kernel
theorem d3_26 : decode jdk_42_method_139_code 26 = .ok (.new 10, 3) := by decide +kernel
theorem d3_29 : decode jdk_42_method_139_code 29 = .ok (.dup, 1) := by decide +kernel
theorem d3_30 : decode jdk_42_method_139_code 30 = .ok (.iload_n 0, 1) := by decide +kernel
theorem d3_31 : decode jdk_42_method_139_code 31 = .ok (.invokestatic 1021, 3) := by decide +kernel
theorem d3_34 : decode jdk_42_method_139_code 34 = .ok (.iconst 1, 1) := by decide +kernel
theorem d3_35 : decode jdk_42_method_139_code 35 = .ok (.invokespecial 209, 3) := by decide +kernel
theorem d3_38 : decode jdk_42_method_139_code 38 = .ok (.areturn, 1) := by decide +kernel
theorem pn_3 : plainName "java/lang/String" = true := by first | (simp [plainName, overriddenIn]; done) | decide +kernel
theorem pd_3_0 : parseMethodDescriptor "(C)Z" = some ⟨[.char], some .boolean⟩ := by decide +kernel
theorem pd_3_1 : parseMethodDescriptor "(C)[B" = some ⟨[.char], some (.array .byte)⟩ := by decide +kernel
theorem pd_3_2 : parseMethodDescriptor "([BB)V" = some ⟨[(.array .byte), .byte], none⟩ := by decide +kernel
theorem ef_3 (m : MethodId)  : entryFrame m #[(.int (65533 : Int32))] 1 = mkF m 0 #[.val (.int (65533 : Int32))] [] := by first | (simp [entryFrame, mkF, argsToLocals, Value.category]; done) | rfl
def Q3 (Z : State) (h0 : Heap) (n0 : Nat) (v : Option Value) (h : Heap) (L : List Loc) : Prop := ∃ (r t : Addr) (k : ClassId), v = some (.ref r) ∧ Fr n0 L ∧ n0 ≤ r ∧ Keep h0 h [] ∧ Exa Z h r "java/lang/String" ∧ Fld Z h r "java/lang/String" "value" "[B" (.ref t) ∧ Fld Z h r "java/lang/String" "coder" "B" (.int (1 : Int32)) ∧ Arv Z h t k .byte (2 : Int32) [(.int (-3 : Int32)), (.int (-1 : Int32))] (.int (0 : Int32))
set_option maxRecDepth 65536 in
set_option maxHeartbeats 40000000 in
theorem rm3 (l : Launch) (Z : State) (a0 : Array Value) (hw : ∀ d ∈ tables_1, d.before a0 Z = true) (ws : List Jvm.Cond)  (w0 : Int32) (vF : Value) (h0 : Heap) (n0 : Nat) (Z0 : n0 ≤ h0.size) (O0 : Old Z n0 h0) (St : own_St Z w0 vF) :
    MetFree l (⟨"java/lang/String", "valueOf", "(C)Ljava/lang/String;"⟩ : MethodName) (head1 (Jvm.Cond.code (⟨"java/lang/String", "valueOf", "(C)Ljava/lang/String;"⟩ : MethodName) jdk_42_method_139_code 1 (some (.object "java/lang/String")) :: ws) ({ frames := 2, cells := 2, slots := 6, locals := 29 } : Room)) (fun a U => a = #[(.int (65533 : Int32))] ∧ Z.Warmed39 U.vm ∧ U.heap = h0) (fun _ _ _ _ _ => True) (fun _ U o U' => ∃ v L, o = .returned v ∧ Q3 Z  h0 n0 v U'.heap L ∧ FrameEnd U o U' L ({ frames := 2, cells := 2, slots := 6, locals := 29 } : Room).cells ({ frames := 2, cells := 2, slots := 6, locals := 29 } : Room).slots) := by
  refine MetFree.of_bodySF (plainFor_of_name pn_3) hisR ?_
  intro p e s m args below meth c s₁ Bd hml0 hP hK
  obtain ⟨rfl, hZ, hh⟩ := hP
  have hx := Bd.exec
  have hby := Bd.bytes
  have hml : c.maxLocals = 1 := hml0
  have hown : s.vm.findClass "java/lang/String" = some m.cls := findClass_of_methodNamed Bd.named
  have hnm := (name_of_methodNamed Bd.named Bd.method).1
  have X0 : Stand p l e ({ frames := 2, cells := 2, slots := 6, locals := 29 } : Room) s m #[(.int (65533 : Int32))] below meth c s₁ [] 0 0 := Stand.of_body Bd
  have e0 : s₁.heap = h0 := by rw [← hh, Bd.state]; rfl
  have N0 := Fr.nil n0
  refine Goes.via (next := s₁.setTop (mkF m 0 #[.val (.int (65533 : Int32))] [])) (fun t k => castTop (ef_3 m ) k) ?_
  obtain ⟨T1, X1, e1, st1⟩ := getS2 X0 hx hZ hown (host := "") (Or.inl (hw _ (List.mem_of_getElem? (i := 23) rfl))) Via.refl e0 (St.1.ext O0.2) (g := (mkF m 0 #[.val (.int (65533 : Int32))] [])) rfl (hb hby d3_0)
  refine Goes.via st1 ?_
  show Goes p e below (T1.setTop (mkF m 3 #[.val (.int (65533 : Int32))] [(.int w0)])) _
  have hc3_2 : ¬ (w0 = (0 : Int32)) := St.2.1
  refine Goes.via (fun t k => XS.ifNo X1.here hx rfl (hb hby d3_3) rfl ((if0 _ _).trans (feq hc3_2).1) k) ?_
  show Goes p e below (T1.setTop (mkF m 6 #[.val (.int (65533 : Int32))] [])) _
  refine Goes.via (fun t k => XS.iloadN X1.here hx rfl (hb hby d3_6) rfl k) ?_
  show Goes p e below (T1.setTop (mkF m 7 #[.val (.int (65533 : Int32))] [(.int (65533 : Int32))])) _
  obtain ⟨_, _, ⟨T3, L3, k3, n3⟩, -, X3, ⟨Lc3, hQ3, l3, y3, z3⟩, st3⟩ := Jvm.LawKit.callS X1 hx (y := (⟨"java/lang/StringLatin1", "canEncode", "(C)Z"⟩ : MethodName)) hown (mvT hZ (hw _ (List.mem_of_getElem? (i := 24) rfl))) (mvT hZ (hw _ (List.mem_of_getElem? (i := 25) rfl))) (mvT hZ (hw _ (List.mem_of_getElem? (i := 26) rfl))) (mvT hZ (hw _ (List.mem_of_getElem? (i := 27) rfl))) (by decide) (backOf (W := 0) (rm4 l Z a0 hw []   h0 n0 Z0 ) hZ (hw _ (List.mem_of_getElem? (i := 27) rfl)) (hw _ (List.mem_of_getElem? (i := 26) rfl)) (by decide) (by decide)) (g := (mkF m 7 #[.val (.int (65533 : Int32))] [(.int (65533 : Int32))])) rfl (by rw [hml]; rfl) (argsL := [(.int (65533 : Int32))]) (rest := []) (lenOf pd_3_0 rfl) rfl (by show 2 * 0 + _ ≤ _; exact Nat.le_of_eq rfl) (hb hby d3_7) (fun _ _ => ⟨rfl, e1, (by decide : 0 + 0 ≤ _), (by decide : 0 + 0 ≤ _)⟩)
  dsimp only [Pt.U, Pt.locs, Pt.cells, Pt.slots] at X3 l3 y3 z3 st3 hQ3
  subst l3 y3 z3
  obtain ⟨rfl, N3q, er3⟩ := hQ3
  have e3 : T3.heap = h0 := er3
  have N3 := Fr.app N0 N3q
  refine Goes.via st3 ?_
  show Goes p e below (T3.setTop (mkF m 10 #[.val (.int (65533 : Int32))] [(.int (0 : Int32))])) _
  refine Goes.via (fun t k => XS.ifYes X3.here hx rfl (pc0 := 10) (pc' := 26) rfl (hb hby d3_10) rfl ((if0 _ _).trans (teq (show (0 : Int32) = (0 : Int32) from rfl)).1) (by decide) (by decide) k) ?_
  show Goes p e below (T3.setTop (mkF m 26 #[.val (.int (65533 : Int32))] [])) _
  obtain ⟨T4, h4, X4, e4, E4, A4, D4, -, st4⟩ := newO X3 hx hZ hown (hw _ (List.mem_of_getElem? (i := 28) rfl)) (hw _ (List.mem_of_getElem? (i := 8) rfl)) (hw _ (List.mem_of_getElem? (i := 7) rfl)) e3 (g := (mkF m 26 #[.val (.int (65533 : Int32))] [])) rfl (hb hby d3_26) (by decide) (by decide)
  obtain ⟨b4, g4⟩ : ∃ z, z = h0.size := ⟨_, rfl⟩
  rw [← g4] at A4 D4 st4
  have ge_b4 : n0 ≤ b4 := Nat.le_trans Z0 (Nat.le_of_eq g4.symm)
  have sz_b4 : h0.size ≤ b4 := Nat.le_trans (Keep.refl h0 []).1 (Nat.le_of_eq g4.symm)
  have K4 : Keep h0 h4 [] := (Keep.refl h0 []).ext E4
  have Z4 : n0 ≤ h4.size := Nat.le_trans Z0 E4.1
  have O4 := O0.ext E4
  have F4_value : Fld Z h4 b4 "java/lang/String" "value" "[B" .null := D4 (Or.inr (hw _ (List.mem_of_getElem? (i := 9) rfl))) (ty := (.array .byte)) (by decide)
  have F4_coder : Fld Z h4 b4 "java/lang/String" "coder" "B" (.int (0 : Int32)) := D4 (Or.inr (hw _ (List.mem_of_getElem? (i := 10) rfl))) (ty := .byte) (by decide)
  refine Goes.via st4 ?_
  show Goes p e below (T4.setTop (mkF m 29 #[.val (.int (65533 : Int32))] [(.ref b4)])) _
  refine Goes.via (fun t k => XS.dup X4.here hx rfl (hb hby d3_29) rfl rfl k) ?_
  show Goes p e below (T4.setTop (mkF m 30 #[.val (.int (65533 : Int32))] [(.ref b4), (.ref b4)])) _
  refine Goes.via (fun t k => XS.iloadN X4.here hx rfl (hb hby d3_30) rfl k) ?_
  show Goes p e below (T4.setTop (mkF m 31 #[.val (.int (65533 : Int32))] [(.int (65533 : Int32)), (.ref b4), (.ref b4)])) _
  obtain ⟨Lw5, X5w, N5w⟩ := ownPack X4 N3
  obtain ⟨_, _, ⟨T6, L6, k6, n6⟩, -, X6, ⟨Lc6, hQ6, l6, y6, z6⟩, st6⟩ := Jvm.LawKit.callS X5w hx (y := (⟨"java/lang/StringUTF16", "toBytes", "(C)[B"⟩ : MethodName)) hown (mvT hZ (hw _ (List.mem_of_getElem? (i := 29) rfl))) (mvT hZ (hw _ (List.mem_of_getElem? (i := 30) rfl))) (mvT hZ (hw _ (List.mem_of_getElem? (i := 31) rfl))) (mvT hZ (hw _ (List.mem_of_getElem? (i := 32) rfl))) (by decide) (backOf (W := 2) (rm5 l Z a0 hw []  w0 vF h4 n0 Z4 O4 St) hZ (hw _ (List.mem_of_getElem? (i := 32) rfl)) (hw _ (List.mem_of_getElem? (i := 31) rfl)) (by decide) (by decide)) (g := (mkF m 31 #[.val (.int (65533 : Int32))] [(.int (65533 : Int32)), (.ref b4), (.ref b4)])) rfl (by rw [hml]; rfl) (argsL := [(.int (65533 : Int32))]) (rest := [(.ref b4), (.ref b4)]) (lenOf pd_3_1 rfl) rfl (by show 2 * 0 + _ ≤ _; exact Nat.le_of_eq rfl) (hb hby d3_31) (fun _ _ => ⟨rfl, e4, (by decide : 1 + 1 ≤ _), (by decide : 4 + 2 ≤ _)⟩)
  dsimp only [Pt.U, Pt.locs, Pt.cells, Pt.slots] at X6 l6 y6 z6 st6 hQ6
  subst l6 y6 z6
  obtain ⟨t6, kt6, rfl, N6q, gt6, zt6, Kc6, Vc6⟩ := hQ6
  have lt_b4_t6 : b4 < t6 := Nat.lt_of_lt_of_le A4.lt zt6
  have sz_t6 : h0.size ≤ t6 := Nat.le_trans K4.1 zt6
  have F6_41 := A4.keep Kc6
  have F6_42 := F4_value.keep Kc6 List.not_mem_nil
  have F6_43 := F4_coder.keep Kc6 List.not_mem_nil
  have K6 : Keep h0 T6.heap [] := K4.trans Kc6 (fun x hx => nomatch hx)
  have Z6 : n0 ≤ T6.heap.size := Nat.le_trans Z4 Kc6.1
  have O6 := O4.keep Kc6 (fun x hx => nomatch hx)
  have N6 := Fr.app N5w N6q
  refine Goes.via st6 ?_
  show Goes p e below (T6.setTop (mkF m 34 #[.val (.int (65533 : Int32))] [(.ref t6), (.ref b4), (.ref b4)])) _
  refine Goes.via (fun t k => XS.iconst X6.here hx rfl (hb hby d3_34) k) ?_
  show Goes p e below (T6.setTop (mkF m 35 #[.val (.int (65533 : Int32))] [(.int (1 : Int32)), (.ref t6), (.ref b4), (.ref b4)])) _
  obtain ⟨Lw7, X7w, N7w⟩ := ownPack X6 N6
  obtain ⟨_, _, ⟨T8, L8, k8, n8⟩, -, X8, ⟨Lc8, hQ8, l8, y8, z8⟩, st8⟩ := X7w.specialBack hx (y := (⟨"java/lang/String", "<init>", "([BB)V"⟩ : MethodName)) rfl hown (mvT hZ (hw _ (List.mem_of_getElem? (i := 39) rfl))) (mvT hZ (hw _ (List.mem_of_getElem? (i := 40) rfl))) (mvT hZ (hw _ (List.mem_of_getElem? (i := 42) rfl))) (by decide) (backOf (W := 1) (rm7 l Z a0 hw [] b4 t6  T6.heap n0 Z6 F6_41 F6_42 F6_43 ge_b4) hZ (hw _ (List.mem_of_getElem? (i := 42) rfl)) (hw _ (List.mem_of_getElem? (i := 7) rfl)) (by decide) (by decide)) (g := (mkF m 35 #[.val (.int (65533 : Int32))] [(.int (1 : Int32)), (.ref t6), (.ref b4), (.ref b4)])) rfl (by rw [hml]; rfl) (Steps.refl _) (a := b4) (argsL := [(.ref t6), (.int (1 : Int32))]) (rest := [(.ref b4)]) (lenOf pd_3_2 rfl) rfl (by show 2 * 0 + _ ≤ _; exact Nat.le_of_eq rfl) (hb hby d3_35) (fun _ _ => ⟨rfl, rfl, (by decide : 2 + 0 ≤ _), (by decide : 6 + 0 ≤ _)⟩)
  dsimp only [Pt.U, Pt.locs, Pt.cells, Pt.slots] at X8 l8 y8 z8 st8 hQ8
  subst l8 y8 z8
  obtain ⟨rfl, N8q, Kc8, Vq8, Cq8⟩ := hQ8
  have F8_57 := F6_41.keep Kc8
  have F8_58 := Vc6.keep Kc8 (fun q => (Nat.ne_of_gt lt_b4_t6) (List.mem_singleton.mp q))
  have K8 : Keep h0 T8.heap [] := K6.trans Kc8 (fun x hx => by cases List.mem_singleton.mp hx; exact Or.inr sz_b4)
  have Z8 : n0 ≤ T8.heap.size := Nat.le_trans Z6 Kc8.1
  have O8 := O6.keep Kc8 (fun x hx => by cases List.mem_singleton.mp hx; exact ge_b4)
  have N8 := Fr.app N7w N8q
  refine Goes.via (fun t k => st8.trans k) ?_
  show Goes p e below (T8.setTop (mkF m 38 #[.val (.int (65533 : Int32))] [(.ref b4)])) _
  obtain ⟨fs, hr, hrun, hended, hW, hsame⟩ := X8.leave (v := some (.ref b4)) (fun h => by rw [Bd.returns] at h; cases h)
  refine ⟨_, _, ?_, hrun, hended, _, _, rfl, ?_, ⟨_, rfl⟩, hW, hsame.mono (by decide) (by decide)⟩
  · exact retOut X8 hx (t := (.object "java/lang/String")) Bd.returns rfl (Or.inr (Or.inr (Or.inr (Or.inr ⟨rfl, rfl, rfl⟩)))) (hb hby d3_38) hr
  · exact ⟨b4, t6, _, rfl, N8, ge_b4, K8, F8_57, Vq8, Cq8, F8_58⟩
theorem d1a_0 : decode prog_94_method_4_code 0 = .ok (.iload_n 1, 1) := by decide +kernel
theorem d1a_1 : decode prog_94_method_4_code 1 = .ok (.aload_n 0, 1) := by decide +kernel
theorem d1a_2 : decode prog_94_method_4_code 2 = .ok (.arraylength, 1) := by decide +kernel
theorem d1a_3 : decode prog_94_method_4_code 3 = .ok (.if_icmp .ge 11, 3) := by decide +kernel
theorem d1a_6 : decode prog_94_method_4_code 6 = .ok (.ldc 16, 2) := by decide +kernel
theorem d1a_8 : decode prog_94_method_4_code 8 = .ok (.invokestatic 17, 3) := by decide +kernel
theorem d1a_11 : decode prog_94_method_4_code 11 = .ok (.goto 5, 3) := by decide +kernel
theorem d1a_16 : decode prog_94_method_4_code 16 = .ok (.areturn, 1) := by decide +kernel
theorem pn_1a : plainName "cascabel/parser/Decoders" = true := by first | (simp [plainName, overriddenIn]; done) | decide +kernel
theorem pd_1a_0 : parseMethodDescriptor "(C)Ljava/lang/String;" = some ⟨[.char], some (.object "java/lang/String")⟩ := by decide +kernel
theorem ef_1a (m : MethodId) (x0 : Addr) (x1 : Int32) : entryFrame m #[(.ref x0), (.int x1)] 2 = mkF m 0 #[.val (.ref x0), .val (.int x1)] [] := by first | (simp [entryFrame, mkF, argsToLocals, Value.category]; done) | rfl
def Q1a (Z : State) (h0 : Heap) (n0 : Nat) (v : Option Value) (h : Heap) (L : List Loc) : Prop := ∃ (r t : Addr) (k : ClassId), v = some (.ref r) ∧ Fr n0 L ∧ n0 ≤ r ∧ Keep h0 h [] ∧ Exa Z h r "java/lang/String" ∧ Fld Z h r "java/lang/String" "value" "[B" (.ref t) ∧ Fld Z h r "java/lang/String" "coder" "B" (.int (1 : Int32)) ∧ Arv Z h t k .byte (2 : Int32) [(.int (-3 : Int32)), (.int (-1 : Int32))] (.int (0 : Int32))
set_option maxRecDepth 65536 in
set_option maxHeartbeats 40000000 in
theorem rm1a (l : Launch) (Z : State) (a0 : Array Value) (hw : ∀ d ∈ tables_1, d.before a0 Z = true) (ws : List Jvm.Cond) (a1 : Addr) (p2 : Int32) (n1 : Int32) (k1 : ClassId) (vs1 : List Value) (w0 : Int32) (vF : Value) (h0 : Heap) (n0 : Nat) (Z0 : n0 ≤ h0.size) (V1 : Arv Z h0 a1 k1 .byte n1 vs1 (.int (0 : Int32))) (hlt : p2 < n1) (O0 : Old Z n0 h0) (St : own_St Z w0 vF) :
    MetFree l (⟨"cascabel/parser/Decoders", "replacement", "([BI)Ljava/lang/String;"⟩ : MethodName) (head1 (Jvm.Cond.code (⟨"cascabel/parser/Decoders", "replacement", "([BI)Ljava/lang/String;"⟩ : MethodName) prog_94_method_4_code 2 (some (.object "java/lang/String")) :: ws) ({ frames := 3, cells := 2, slots := 6, locals := 41 } : Room)) (fun a U => a = #[(.ref a1), (.int p2)] ∧ Z.Warmed39 U.vm ∧ U.heap = h0) (fun _ _ _ _ _ => True) (fun _ U o U' => ∃ v L, o = .returned v ∧ Q1a Z  h0 n0 v U'.heap L ∧ FrameEnd U o U' L ({ frames := 3, cells := 2, slots := 6, locals := 41 } : Room).cells ({ frames := 3, cells := 2, slots := 6, locals := 41 } : Room).slots) := by
  refine MetFree.of_bodySF (plainFor_of_name pn_1a) hisR ?_
  intro p e s m args below meth c s₁ Bd hml0 hP hK
  obtain ⟨rfl, hZ, hh⟩ := hP
  have hx := Bd.exec
  have hby := Bd.bytes
  have hml : c.maxLocals = 2 := hml0
  have hown : s.vm.findClass "cascabel/parser/Decoders" = some m.cls := findClass_of_methodNamed Bd.named
  have hnm := (name_of_methodNamed Bd.named Bd.method).1
  have X0 : Stand p l e ({ frames := 3, cells := 2, slots := 6, locals := 41 } : Room) s m #[(.ref a1), (.int p2)] below meth c s₁ [] 0 0 := Stand.of_body Bd
  have e0 : s₁.heap = h0 := by rw [← hh, Bd.state]; rfl
  have N0 := Fr.nil n0
  refine Goes.via (next := s₁.setTop (mkF m 0 #[.val (.ref a1), .val (.int p2)] [])) (fun t k => castTop (ef_1a m a1 p2) k) ?_
  refine Goes.via (fun t k => XS.iloadN X0.here hx rfl (hb hby d1a_0) rfl k) ?_
  show Goes p e below (s₁.setTop (mkF m 1 #[.val (.ref a1), .val (.int p2)] [(.int p2)])) _
  refine Goes.via (fun t k => XS.aloadN X0.here hx rfl (hb hby d1a_1) rfl rfl k) ?_
  show Goes p e below (s₁.setTop (mkF m 2 #[.val (.ref a1), .val (.int p2)] [(.ref a1), (.int p2)])) _
  obtain ⟨cl1, Ar1, -, Sa1, Na1, -, -⟩ := id V1
  refine Goes.via (next := s₁.setTop (mkF m 3 #[.val (.ref a1), .val (.int p2)] [(.int n1), (.int p2)])) (fun t k => X0.arraylength hx (by rw [e0]; exact Ar1.1) (State.isArrayOf_alike hZ.alike Ar1.2.1) (g := (mkF m 2 #[.val (.ref a1), .val (.int p2)] [(.ref a1), (.int p2)])) rfl rfl (hb hby d1a_2) _ (by rw [len_of Sa1 Na1]; exact k)) ?_
  show Goes p e below (s₁.setTop (mkF m 3 #[.val (.ref a1), .val (.int p2)] [(.int n1), (.int p2)])) _
  have hc3_2 : p2 < n1 := hlt
  refine Goes.via (fun t k => XS.icmpNo X0.here hx rfl (hb hby d1a_3) rfl (tlt hc3_2).2.1 k) ?_
  show Goes p e below (s₁.setTop (mkF m 6 #[.val (.ref a1), .val (.int p2)] [])) _
  refine Goes.via (fun t k => X0.ldcInt hx hown (mvT hZ (hw _ (List.mem_of_getElem? (i := 19) rfl))) (g := (mkF m 6 #[.val (.ref a1), .val (.int p2)] [])) rfl (hb hby d1a_6) _ k) ?_
  show Goes p e below (s₁.setTop (mkF m 8 #[.val (.ref a1), .val (.int p2)] [(.int (65533 : Int32))])) _
  obtain ⟨_, _, ⟨T3, L3, k3, n3⟩, -, X3, ⟨Lc3, hQ3, l3, y3, z3⟩, st3⟩ := Jvm.LawKit.callS X0 hx (y := (⟨"java/lang/String", "valueOf", "(C)Ljava/lang/String;"⟩ : MethodName)) hown (mvT hZ (hw _ (List.mem_of_getElem? (i := 20) rfl))) (mvT hZ (hw _ (List.mem_of_getElem? (i := 21) rfl))) (mvT hZ (hw _ (List.mem_of_getElem? (i := 7) rfl))) (mvT hZ (hw _ (List.mem_of_getElem? (i := 22) rfl))) (by decide) (backOf (W := 0) (rm3 l Z a0 hw []  w0 vF h0 n0 Z0 O0 St) hZ (hw _ (List.mem_of_getElem? (i := 22) rfl)) (hw _ (List.mem_of_getElem? (i := 7) rfl)) (by decide) (by decide)) (g := (mkF m 8 #[.val (.ref a1), .val (.int p2)] [(.int (65533 : Int32))])) rfl (by rw [hml]; rfl) (argsL := [(.int (65533 : Int32))]) (rest := []) (lenOf pd_1a_0 rfl) rfl (by show 2 * 0 + _ ≤ _; exact Nat.le_of_eq rfl) (hb hby d1a_8) (fun _ _ => ⟨rfl, e0, (by decide : 0 + 2 ≤ _), (by decide : 0 + 6 ≤ _)⟩)
  dsimp only [Pt.U, Pt.locs, Pt.cells, Pt.slots] at X3 l3 y3 z3 st3 hQ3
  subst l3 y3 z3
  obtain ⟨r3, t3, kt3, rfl, N3q, gr3, Kc3, Ex3, Vq3, Cq3, Vc3⟩ := hQ3
  have F3_16 := V1.keep Kc3 List.not_mem_nil
  have K3 : Keep h0 T3.heap [] := (Keep.refl h0 []).trans Kc3 (fun x hx => nomatch hx)
  have Z3 : n0 ≤ T3.heap.size := Nat.le_trans Z0 Kc3.1
  have O3 := O0.keep Kc3 (fun x hx => nomatch hx)
  have N3 := Fr.app N0 N3q
  refine Goes.via st3 ?_
  show Goes p e below (T3.setTop (mkF m 11 #[.val (.ref a1), .val (.int p2)] [(.ref r3)])) _
  refine Goes.via (fun t k => XS.goto X3.here hx rfl (pc0 := 11) (pc' := 16) rfl (hb hby d1a_11) (by decide) (by decide) k) ?_
  show Goes p e below (T3.setTop (mkF m 16 #[.val (.ref a1), .val (.int p2)] [(.ref r3)])) _
  obtain ⟨fs, hr, hrun, hended, hW, hsame⟩ := X3.leave (v := some (.ref r3)) (fun h => by rw [Bd.returns] at h; cases h)
  refine ⟨_, _, ?_, hrun, hended, _, _, rfl, ?_, ⟨_, rfl⟩, hW, hsame.mono (by decide) (by decide)⟩
  · exact retOut X3 hx (t := (.object "java/lang/String")) Bd.returns rfl (Or.inr (Or.inr (Or.inr (Or.inr ⟨rfl, rfl, rfl⟩)))) (hb hby d1a_16) hr
  · exact ⟨r3, t3, _, rfl, N3, gr3, K3, Ex3, Vq3, Cq3, Vc3⟩
theorem d1b_0 : decode prog_94_method_4_code 0 = .ok (.iload_n 1, 1) := by decide +kernel
theorem d1b_1 : decode prog_94_method_4_code 1 = .ok (.aload_n 0, 1) := by decide +kernel
theorem d1b_2 : decode prog_94_method_4_code 2 = .ok (.arraylength, 1) := by decide +kernel
theorem d1b_3 : decode prog_94_method_4_code 3 = .ok (.if_icmp .ge 11, 3) := by decide +kernel
theorem d1b_14 : decode prog_94_method_4_code 14 = .ok (.ldc 23, 2) := by decide +kernel
theorem d1b_16 : decode prog_94_method_4_code 16 = .ok (.areturn, 1) := by decide +kernel
theorem pn_1b : plainName "cascabel/parser/Decoders" = true := by first | (simp [plainName, overriddenIn]; done) | decide +kernel
theorem ef_1b (m : MethodId) (x0 : Addr) (x1 : Int32) : entryFrame m #[(.ref x0), (.int x1)] 2 = mkF m 0 #[.val (.ref x0), .val (.int x1)] [] := by first | (simp [entryFrame, mkF, argsToLocals, Value.category]; done) | rfl
def Q1b (Z : State) (h0 : Heap) (n0 : Nat) (v : Option Value) (h : Heap) (vm : Vm) (L : List Loc) : Prop := ∃ (r t : Addr) (k : ClassId), v = some (.ref r) ∧ Fr n0 L ∧ Keep h0 h [] ∧ Exa Z h r "java/lang/String" ∧ Fld Z h r "java/lang/String" "value" "[B" (.ref t) ∧ Arv Z h t k .byte (0 : Int32) [] (.int (0 : Int32))
set_option maxRecDepth 65536 in
set_option maxHeartbeats 40000000 in
theorem rm1b (l : Launch) (Z : State) (a0 : Array Value) (hw : ∀ d ∈ tables_1, d.before a0 Z = true) (ws : List Jvm.Cond) (a1 : Addr) (p2 : Int32) (n1 : Int32) (k1 : ClassId) (vs1 : List Value) (w0 : Int32) (vF : Value) (h0 : Heap) (n0 : Nat) (Z0 : n0 ≤ h0.size) (V1 : Arv Z h0 a1 k1 .byte n1 vs1 (.int (0 : Int32))) (hlt : ¬ (p2 < n1)) (O0 : Old Z n0 h0) (St : own_St Z w0 vF) (hcH : Jvm.Lit.constHeld Z "cascabel/parser/Decoders" 23) (hcw : Jvm.Lit.compactW.before a0 Z = true) :
    MetFree l (⟨"cascabel/parser/Decoders", "replacement", "([BI)Ljava/lang/String;"⟩ : MethodName) (head1 (Jvm.Cond.code (⟨"cascabel/parser/Decoders", "replacement", "([BI)Ljava/lang/String;"⟩ : MethodName) prog_94_method_4_code 2 (some (.object "java/lang/String")) :: ws) ({ frames := 0, cells := 2, slots := 4, locals := 0 } : Room)) (fun a U => a = #[(.ref a1), (.int p2)] ∧ Z.Warmed39 U.vm ∧ U.heap = h0 ∧ IB Z U.vm []) (fun _ _ _ _ _ => True) (fun _ U o U' => ∃ v L, o = .returned v ∧ Q1b Z  h0 n0 v U'.heap U'.vm L ∧ ReturnedEndW U o U' L ({ frames := 0, cells := 2, slots := 4, locals := 0 } : Room).cells ({ frames := 0, cells := 2, slots := 4, locals := 0 } : Room).slots) := by
  refine MetFree.of_bodySF (plainFor_of_name pn_1b) hisR ?_
  intro p e s m args below meth c s₁ Bd hml0 hP hK
  obtain ⟨rfl, hZ, hh, hI⟩ := hP
  have hx := Bd.exec
  have hby := Bd.bytes
  have hml : c.maxLocals = 2 := hml0
  have hown : s.vm.findClass "cascabel/parser/Decoders" = some m.cls := findClass_of_methodNamed Bd.named
  have hnm := (name_of_methodNamed Bd.named Bd.method).1
  have X0 : Stand p l e ({ frames := 0, cells := 2, slots := 4, locals := 0 } : Room) (s.setVm s.vm) m #[(.ref a1), (.int p2)] below meth c s₁ [] 0 0 := Stand.of_body Bd
  have e0 : s₁.heap = h0 := by rw [← hh, Bd.state]; rfl
  have N0 := Fr.nil n0
  have hS : s.Since s.vm 0 := (State.WarmedH.refl s).since 0
  have hk : 0 ≤ h0.size := Nat.zero_le _
  refine Goes.via (next := s₁.setTop (mkF m 0 #[.val (.ref a1), .val (.int p2)] [])) (fun t k => castTop (ef_1b m a1 p2) k) ?_
  refine Goes.via (fun t k => XS.iloadN X0.here hx rfl (hb hby d1b_0) rfl k) ?_
  show Goes p e below (s₁.setTop (mkF m 1 #[.val (.ref a1), .val (.int p2)] [(.int p2)])) _
  refine Goes.via (fun t k => XS.aloadN X0.here hx rfl (hb hby d1b_1) rfl rfl k) ?_
  show Goes p e below (s₁.setTop (mkF m 2 #[.val (.ref a1), .val (.int p2)] [(.ref a1), (.int p2)])) _
  obtain ⟨cl1, Ar1, -, Sa1, Na1, -, -⟩ := id V1
  refine Goes.via (next := s₁.setTop (mkF m 3 #[.val (.ref a1), .val (.int p2)] [(.int n1), (.int p2)])) (fun t k => X0.arraylength hx (by rw [e0]; exact Ar1.1) (State.isArrayOf_alike hZ.alike Ar1.2.1) (g := (mkF m 2 #[.val (.ref a1), .val (.int p2)] [(.ref a1), (.int p2)])) rfl rfl (hb hby d1b_2) _ (by rw [len_of Sa1 Na1]; exact k)) ?_
  show Goes p e below (s₁.setTop (mkF m 3 #[.val (.ref a1), .val (.int p2)] [(.int n1), (.int p2)])) _
  have hc3_2 : ¬ (p2 < n1) := hlt
  refine Goes.via (fun t k => XS.icmpYes X0.here hx rfl (pc0 := 3) (pc' := 14) rfl (hb hby d1b_3) rfl (flt hc3_2).2.1 (by decide) (by decide) k) ?_
  show Goes p e below (s₁.setTop (mkF m 14 #[.val (.ref a1), .val (.int p2)] [])) _
  obtain ⟨a3, T3, h3, kk3, b3, kc3, X3, e3, E3, S3, hk3, Zw3, ow3, Ex3, Fc3, Fv3, Va3, lta3, ltb3, I3, Lt3, st3⟩ := ldcSVL X0 hx hZ hown (hw _ (List.mem_of_getElem? (i := 6) rfl)) (own_wS hw) e0 hS hk (Fr.nil _) (fun b cl q => by rw [hh]; exact O0.2.2 b cl q) hI (by decide) hcH hcw (vs := []) (z := (0 : Int32)) ⟨by decide, by decide⟩ (by decide) (by decide) (g := (mkF m 14 #[.val (.ref a1), .val (.int p2)] [])) rfl (hb hby d1b_14) (n := 0) (by decide) (by decide) (by decide) (by decide)
  have F3_11 := V1.ext E3
  have K3 : Keep h0 h3 [] := (Keep.refl h0 []).ext E3
  have Z3 : n0 ≤ h3.size := Nat.le_trans Z0 E3.1
  have O3 := O0.ext E3
  have hZ := Zw3
  have hown := ow3
  have hS := S3
  have hk := hk3
  have hI := I3
  refine Goes.via st3 ?_
  show Goes p e below (T3.setTop (mkF m 16 #[.val (.ref a1), .val (.int p2)] [(.ref a3)])) _
  obtain ⟨fs, hr, hrun, hended, hRE⟩ := X3.leaveW hS (by rw [e3]; exact hk) (v := some (.ref a3)) (fun h => by rw [Bd.returns] at h; cases h)
  refine ⟨_, _, ?_, hrun, hended, _, _, rfl, ?_, hRE.1, hRE.2.1, hRE.2.2.1, hRE.2.2.2.mono (by decide) (by decide)⟩
  · exact retOut X3 hx (t := (.object "java/lang/String")) Bd.returns rfl (Or.inr (Or.inr (Or.inr (Or.inr ⟨rfl, rfl, rfl⟩)))) (hb hby d1b_16) hr
  · show Q1b Z h0 n0 _ T3.heap _ _
    rw [e3]
    exact ⟨a3, b3, _, rfl, N0, K3, Ex3, Fv3, Va3⟩
theorem d2_0 : decode jdk_42_method_55_code 0 = .ok (.aload_n 0, 1) := by decide +kernel
theorem d2_1 : decode jdk_42_method_55_code 1 = .ok (.getfield 9, 3) := by decide +kernel
theorem d2_4 : decode jdk_42_method_55_code 4 = .ok (.arraylength, 1) := by decide +kernel
theorem d2_5 : decode jdk_42_method_55_code 5 = .ok (.ifCond .ne 7, 3) := by decide +kernel
theorem d2_8 : decode jdk_42_method_55_code 8 = .ok (.iconst 1, 1) := by decide +kernel
theorem d2_9 : decode jdk_42_method_55_code 9 = .ok (.goto 4, 3) := by decide +kernel
theorem d2_13 : decode jdk_42_method_55_code 13 = .ok (.ireturn, 1) := by decide +kernel
theorem pn_2 : plainName "java/lang/String" = true := by first | (simp [plainName, overriddenIn]; done) | decide +kernel
theorem ef_2 (m : MethodId) (x0 : Addr) : entryFrame m #[(.ref x0)] 1 = mkF m 0 #[.val (.ref x0)] [] := by first | (simp [entryFrame, mkF, argsToLocals, Value.category]; done) | rfl
def Q2 (Z : State) (h0 : Heap) (n0 : Nat) (v : Option Value) (h : Heap) (L : List Loc) : Prop := v = some (.int (1 : Int32)) ∧ Fr n0 L ∧ h = h0
set_option maxRecDepth 65536 in
set_option maxHeartbeats 40000000 in
theorem rm2 (l : Launch) (Z : State) (a0 : Array Value) (hw : ∀ d ∈ tables_1, d.before a0 Z = true) (ws : List Jvm.Cond) (a1 : Addr) (t1 : Addr) (k1 : ClassId) (h0 : Heap) (n0 : Nat) (Z0 : n0 ≤ h0.size) (Fv : Fld Z h0 a1 "java/lang/String" "value" "[B" (.ref t1)) (V1 : Arv Z h0 t1 k1 .byte (0 : Int32) [] (.int (0 : Int32))) :
    MetFree l (⟨"java/lang/String", "isEmpty", "()Z"⟩ : MethodName) (head1 (Jvm.Cond.code (⟨"java/lang/String", "isEmpty", "()Z"⟩ : MethodName) jdk_42_method_55_code 1 (some .boolean) :: ws) ({ frames := 0, cells := 0, slots := 0, locals := 0 } : Room)) (fun a U => a = #[(.ref a1)] ∧ Z.Warmed39 U.vm ∧ U.heap = h0) (fun _ _ _ _ _ => True) (fun _ U o U' => ∃ v L, o = .returned v ∧ Q2 Z  h0 n0 v U'.heap L ∧ FrameEnd U o U' L ({ frames := 0, cells := 0, slots := 0, locals := 0 } : Room).cells ({ frames := 0, cells := 0, slots := 0, locals := 0 } : Room).slots) := by
  refine MetFree.of_bodySF (plainFor_of_name pn_2) hisR ?_
  intro p e s m args below meth c s₁ Bd hml0 hP hK
  obtain ⟨rfl, hZ, hh⟩ := hP
  have hx := Bd.exec
  have hby := Bd.bytes
  have hml : c.maxLocals = 1 := hml0
  have hown : s.vm.findClass "java/lang/String" = some m.cls := findClass_of_methodNamed Bd.named
  have hnm := (name_of_methodNamed Bd.named Bd.method).1
  have X0 : Stand p l e ({ frames := 0, cells := 0, slots := 0, locals := 0 } : Room) s m #[(.ref a1)] below meth c s₁ [] 0 0 := Stand.of_body Bd
  have e0 : s₁.heap = h0 := by rw [← hh, Bd.state]; rfl
  have N0 := Fr.nil n0
  refine Goes.via (next := s₁.setTop (mkF m 0 #[.val (.ref a1)] [])) (fun t k => castTop (ef_2 m a1) k) ?_
  refine Goes.via (fun t k => XS.aloadN X0.here hx rfl (hb hby d2_0) rfl rfl k) ?_
  show Goes p e below (s₁.setTop (mkF m 1 #[.val (.ref a1)] [(.ref a1)])) _
  obtain ⟨T1, X1, e1, st1⟩ := getF X0 hx hZ hown (host := "") (Or.inl (hw _ (List.mem_of_getElem? (i := 18) rfl))) Via.refl e0 Fv (g := (mkF m 1 #[.val (.ref a1)] [(.ref a1)])) rfl rfl (hb hby d2_1)
  refine Goes.via st1 ?_
  show Goes p e below (T1.setTop (mkF m 4 #[.val (.ref a1)] [(.ref t1)])) _
  obtain ⟨cl2, Ar2, -, Sa2, Na2, -, -⟩ := id V1
  refine Goes.via (next := T1.setTop (mkF m 5 #[.val (.ref a1)] [(.int (0 : Int32))])) (fun t k => X1.arraylength hx (by rw [e1]; exact Ar2.1) (State.isArrayOf_alike hZ.alike Ar2.2.1) (g := (mkF m 4 #[.val (.ref a1)] [(.ref t1)])) rfl rfl (hb hby d2_4) _ (by rw [len_of Sa2 Na2]; exact k)) ?_
  show Goes p e below (T1.setTop (mkF m 5 #[.val (.ref a1)] [(.int (0 : Int32))])) _
  refine Goes.via (fun t k => XS.ifNo X1.here hx rfl (hb hby d2_5) rfl ((if0 _ _).trans (teq (show (0 : Int32) = (0 : Int32) from rfl)).2) k) ?_
  show Goes p e below (T1.setTop (mkF m 8 #[.val (.ref a1)] [])) _
  refine Goes.via (fun t k => XS.iconst X1.here hx rfl (hb hby d2_8) k) ?_
  show Goes p e below (T1.setTop (mkF m 9 #[.val (.ref a1)] [(.int (1 : Int32))])) _
  refine Goes.via (fun t k => XS.goto X1.here hx rfl (pc0 := 9) (pc' := 13) rfl (hb hby d2_9) (by decide) (by decide) k) ?_
  show Goes p e below (T1.setTop (mkF m 13 #[.val (.ref a1)] [(.int (1 : Int32))])) _
  obtain ⟨fs, hr, hrun, hended, hW, hsame⟩ := X1.leave (v := some (.int (1 : Int32))) (fun h => by rw [Bd.returns] at h; cases h)
  refine ⟨_, _, ?_, hrun, hended, _, _, rfl, ?_, ⟨_, rfl⟩, hW, hsame.mono (by decide) (by decide)⟩
  · exact retN X1 hx (t := .boolean) Bd.returns (by simp) (hb hby d2_13) hr
  · show Q2 Z  h0 n0 _ T1.heap _
    rw [e1]
    exact ⟨rfl, N0, rfl⟩
theorem d10_0 : decode jdk_42_method_152_code 0 = .ok (.getstatic 38, 3) := by decide +kernel
theorem d10_3 : decode jdk_42_method_152_code 3 = .ok (.ifCond .eq 10, 3) := by decide +kernel
theorem d10_6 : decode jdk_42_method_152_code 6 = .ok (.aload_n 0, 1) := by decide +kernel
theorem d10_7 : decode jdk_42_method_152_code 7 = .ok (.getfield 15, 3) := by decide +kernel
theorem d10_10 : decode jdk_42_method_152_code 10 = .ok (.goto 4, 3) := by decide +kernel
theorem d10_14 : decode jdk_42_method_152_code 14 = .ok (.ireturn, 1) := by decide +kernel
theorem pn_10 : plainName "java/lang/String" = true := by first | (simp [plainName, overriddenIn]; done) | decide +kernel
theorem ef_10 (m : MethodId) (x0 : Addr) : entryFrame m #[(.ref x0)] 1 = mkF m 0 #[.val (.ref x0)] [] := by first | (simp [entryFrame, mkF, argsToLocals, Value.category]; done) | rfl
def Q10 (Z : State) (h0 : Heap) (n0 : Nat) (v : Option Value) (h : Heap) (L : List Loc) : Prop := v = some (.int (1 : Int32)) ∧ Fr n0 L ∧ h = h0
set_option maxRecDepth 65536 in
set_option maxHeartbeats 40000000 in
theorem rm10 (l : Launch) (Z : State) (a0 : Array Value) (hw : ∀ d ∈ tables_1, d.before a0 Z = true) (ws : List Jvm.Cond) (a1 : Addr) (w0 : Int32) (vF : Value) (h0 : Heap) (n0 : Nat) (Z0 : n0 ≤ h0.size) (Fc : Fld Z h0 a1 "java/lang/String" "coder" "B" (.int (1 : Int32))) (O0 : Old Z n0 h0) (St : own_St Z w0 vF) :
    MetFree l (⟨"java/lang/String", "coder", "()B"⟩ : MethodName) (head1 (Jvm.Cond.code (⟨"java/lang/String", "coder", "()B"⟩ : MethodName) jdk_42_method_152_code 1 (some .byte) :: ws) ({ frames := 0, cells := 0, slots := 0, locals := 0 } : Room)) (fun a U => a = #[(.ref a1)] ∧ Z.Warmed39 U.vm ∧ U.heap = h0) (fun _ _ _ _ _ => True) (fun _ U o U' => ∃ v L, o = .returned v ∧ Q10 Z  h0 n0 v U'.heap L ∧ FrameEnd U o U' L ({ frames := 0, cells := 0, slots := 0, locals := 0 } : Room).cells ({ frames := 0, cells := 0, slots := 0, locals := 0 } : Room).slots) := by
  refine MetFree.of_bodySF (plainFor_of_name pn_10) hisR ?_
  intro p e s m args below meth c s₁ Bd hml0 hP hK
  obtain ⟨rfl, hZ, hh⟩ := hP
  have hx := Bd.exec
  have hby := Bd.bytes
  have hml : c.maxLocals = 1 := hml0
  have hown : s.vm.findClass "java/lang/String" = some m.cls := findClass_of_methodNamed Bd.named
  have hnm := (name_of_methodNamed Bd.named Bd.method).1
  have X0 : Stand p l e ({ frames := 0, cells := 0, slots := 0, locals := 0 } : Room) s m #[(.ref a1)] below meth c s₁ [] 0 0 := Stand.of_body Bd
  have e0 : s₁.heap = h0 := by rw [← hh, Bd.state]; rfl
  have N0 := Fr.nil n0
  refine Goes.via (next := s₁.setTop (mkF m 0 #[.val (.ref a1)] [])) (fun t k => castTop (ef_10 m a1) k) ?_
  obtain ⟨T1, X1, e1, st1⟩ := getS2 X0 hx hZ hown (host := "") (Or.inl (hw _ (List.mem_of_getElem? (i := 23) rfl))) Via.refl e0 (St.1.ext O0.2) (g := (mkF m 0 #[.val (.ref a1)] [])) rfl (hb hby d10_0)
  refine Goes.via st1 ?_
  show Goes p e below (T1.setTop (mkF m 3 #[.val (.ref a1)] [(.int w0)])) _
  have hc3_2 : ¬ (w0 = (0 : Int32)) := St.2.1
  refine Goes.via (fun t k => XS.ifNo X1.here hx rfl (hb hby d10_3) rfl ((if0 _ _).trans (feq hc3_2).1) k) ?_
  show Goes p e below (T1.setTop (mkF m 6 #[.val (.ref a1)] [])) _
  refine Goes.via (fun t k => XS.aloadN X1.here hx rfl (hb hby d10_6) rfl rfl k) ?_
  show Goes p e below (T1.setTop (mkF m 7 #[.val (.ref a1)] [(.ref a1)])) _
  obtain ⟨T3, X3, e3, st3⟩ := getF X1 hx hZ hown (host := "") (Or.inl (hw _ (List.mem_of_getElem? (i := 46) rfl))) Via.refl e1 Fc (g := (mkF m 7 #[.val (.ref a1)] [(.ref a1)])) rfl rfl (hb hby d10_7)
  refine Goes.via st3 ?_
  show Goes p e below (T3.setTop (mkF m 10 #[.val (.ref a1)] [(.int (1 : Int32))])) _
  refine Goes.via (fun t k => XS.goto X3.here hx rfl (pc0 := 10) (pc' := 14) rfl (hb hby d10_10) (by decide) (by decide) k) ?_
  show Goes p e below (T3.setTop (mkF m 14 #[.val (.ref a1)] [(.int (1 : Int32))])) _
  obtain ⟨fs, hr, hrun, hended, hW, hsame⟩ := X3.leave (v := some (.int (1 : Int32))) (fun h => by rw [Bd.returns] at h; cases h)
  refine ⟨_, _, ?_, hrun, hended, _, _, rfl, ?_, ⟨_, rfl⟩, hW, hsame.mono (by decide) (by decide)⟩
  · exact retN X3 hx (t := .byte) Bd.returns (by simp) (hb hby d10_14) hr
  · show Q10 Z  h0 n0 _ T3.heap _
    rw [e3]
    exact ⟨rfl, N0, rfl⟩
theorem d12_0 : decode jdk_42_method_154_code 0 = .ok (.getstatic 38, 3) := by decide +kernel
theorem d12_3 : decode jdk_42_method_154_code 3 = .ok (.ifCond .eq 14, 3) := by decide +kernel
theorem d12_6 : decode jdk_42_method_154_code 6 = .ok (.aload_n 0, 1) := by decide +kernel
theorem d12_7 : decode jdk_42_method_154_code 7 = .ok (.getfield 15, 3) := by decide +kernel
theorem d12_10 : decode jdk_42_method_154_code 10 = .ok (.ifCond .ne 7, 3) := by decide +kernel
theorem d12_17 : decode jdk_42_method_154_code 17 = .ok (.iconst 0, 1) := by decide +kernel
theorem d12_18 : decode jdk_42_method_154_code 18 = .ok (.ireturn, 1) := by decide +kernel
theorem pn_12 : plainName "java/lang/String" = true := by first | (simp [plainName, overriddenIn]; done) | decide +kernel
theorem ef_12 (m : MethodId) (x0 : Addr) : entryFrame m #[(.ref x0)] 1 = mkF m 0 #[.val (.ref x0)] [] := by first | (simp [entryFrame, mkF, argsToLocals, Value.category]; done) | rfl
def Q12 (Z : State) (h0 : Heap) (n0 : Nat) (v : Option Value) (h : Heap) (L : List Loc) : Prop := v = some (.int (0 : Int32)) ∧ Fr n0 L ∧ h = h0
set_option maxRecDepth 65536 in
set_option maxHeartbeats 40000000 in
theorem rm12 (l : Launch) (Z : State) (a0 : Array Value) (hw : ∀ d ∈ tables_1, d.before a0 Z = true) (ws : List Jvm.Cond) (a1 : Addr) (w0 : Int32) (vF : Value) (h0 : Heap) (n0 : Nat) (Z0 : n0 ≤ h0.size) (Fc : Fld Z h0 a1 "java/lang/String" "coder" "B" (.int (1 : Int32))) (O0 : Old Z n0 h0) (St : own_St Z w0 vF) :
    MetFree l (⟨"java/lang/String", "isLatin1", "()Z"⟩ : MethodName) (head1 (Jvm.Cond.code (⟨"java/lang/String", "isLatin1", "()Z"⟩ : MethodName) jdk_42_method_154_code 1 (some .boolean) :: ws) ({ frames := 0, cells := 0, slots := 0, locals := 0 } : Room)) (fun a U => a = #[(.ref a1)] ∧ Z.Warmed39 U.vm ∧ U.heap = h0) (fun _ _ _ _ _ => True) (fun _ U o U' => ∃ v L, o = .returned v ∧ Q12 Z  h0 n0 v U'.heap L ∧ FrameEnd U o U' L ({ frames := 0, cells := 0, slots := 0, locals := 0 } : Room).cells ({ frames := 0, cells := 0, slots := 0, locals := 0 } : Room).slots) := by
  refine MetFree.of_bodySF (plainFor_of_name pn_12) hisR ?_
  intro p e s m args below meth c s₁ Bd hml0 hP hK
  obtain ⟨rfl, hZ, hh⟩ := hP
  have hx := Bd.exec
  have hby := Bd.bytes
  have hml : c.maxLocals = 1 := hml0
  have hown : s.vm.findClass "java/lang/String" = some m.cls := findClass_of_methodNamed Bd.named
  have hnm := (name_of_methodNamed Bd.named Bd.method).1
  have X0 : Stand p l e ({ frames := 0, cells := 0, slots := 0, locals := 0 } : Room) s m #[(.ref a1)] below meth c s₁ [] 0 0 := Stand.of_body Bd
  have e0 : s₁.heap = h0 := by rw [← hh, Bd.state]; rfl
  have N0 := Fr.nil n0
  refine Goes.via (next := s₁.setTop (mkF m 0 #[.val (.ref a1)] [])) (fun t k => castTop (ef_12 m a1) k) ?_
  obtain ⟨T1, X1, e1, st1⟩ := getS2 X0 hx hZ hown (host := "") (Or.inl (hw _ (List.mem_of_getElem? (i := 23) rfl))) Via.refl e0 (St.1.ext O0.2) (g := (mkF m 0 #[.val (.ref a1)] [])) rfl (hb hby d12_0)
  refine Goes.via st1 ?_
  show Goes p e below (T1.setTop (mkF m 3 #[.val (.ref a1)] [(.int w0)])) _
  have hc3_2 : ¬ (w0 = (0 : Int32)) := St.2.1
  refine Goes.via (fun t k => XS.ifNo X1.here hx rfl (hb hby d12_3) rfl ((if0 _ _).trans (feq hc3_2).1) k) ?_
  show Goes p e below (T1.setTop (mkF m 6 #[.val (.ref a1)] [])) _
  refine Goes.via (fun t k => XS.aloadN X1.here hx rfl (hb hby d12_6) rfl rfl k) ?_
  show Goes p e below (T1.setTop (mkF m 7 #[.val (.ref a1)] [(.ref a1)])) _
  obtain ⟨T3, X3, e3, st3⟩ := getF X1 hx hZ hown (host := "") (Or.inl (hw _ (List.mem_of_getElem? (i := 46) rfl))) Via.refl e1 Fc (g := (mkF m 7 #[.val (.ref a1)] [(.ref a1)])) rfl rfl (hb hby d12_7)
  refine Goes.via st3 ?_
  show Goes p e below (T3.setTop (mkF m 10 #[.val (.ref a1)] [(.int (1 : Int32))])) _
  refine Goes.via (fun t k => XS.ifYes X3.here hx rfl (pc0 := 10) (pc' := 17) rfl (hb hby d12_10) rfl ((if0 _ _).trans (feq (show ¬ ((1 : Int32) = (0 : Int32)) from (by decide))).2) (by decide) (by decide) k) ?_
  show Goes p e below (T3.setTop (mkF m 17 #[.val (.ref a1)] [])) _
  refine Goes.via (fun t k => XS.iconst X3.here hx rfl (hb hby d12_17) k) ?_
  show Goes p e below (T3.setTop (mkF m 18 #[.val (.ref a1)] [(.int (0 : Int32))])) _
  obtain ⟨fs, hr, hrun, hended, hW, hsame⟩ := X3.leave (v := some (.int (0 : Int32))) (fun h => by rw [Bd.returns] at h; cases h)
  refine ⟨_, _, ?_, hrun, hended, _, _, rfl, ?_, ⟨_, rfl⟩, hW, hsame.mono (by decide) (by decide)⟩
  · exact retN X3 hx (t := .boolean) Bd.returns (by simp) (hb hby d12_18) hr
  · show Q12 Z  h0 n0 _ T3.heap _
    rw [e3]
    exact ⟨rfl, N0, rfl⟩
theorem d9_0 : decode jdk_42_method_54_code 0 = .ok (.aload_n 0, 1) := by decide +kernel
theorem d9_1 : decode jdk_42_method_54_code 1 = .ok (.getfield 9, 3) := by decide +kernel
theorem d9_4 : decode jdk_42_method_54_code 4 = .ok (.arraylength, 1) := by decide +kernel
theorem d9_5 : decode jdk_42_method_54_code 5 = .ok (.aload_n 0, 1) := by decide +kernel
theorem d9_6 : decode jdk_42_method_54_code 6 = .ok (.invokevirtual 335, 3) := by decide +kernel
theorem d9_9 : decode jdk_42_method_54_code 9 = .ok (.ishr, 1) := by decide +kernel
theorem d9_10 : decode jdk_42_method_54_code 10 = .ok (.ireturn, 1) := by decide +kernel
theorem pn_9 : plainName "java/lang/String" = true := by first | (simp [plainName, overriddenIn]; done) | decide +kernel
theorem pd_9_0 : parseMethodDescriptor "()B" = some ⟨[], some .byte⟩ := by decide +kernel
theorem ef_9 (m : MethodId) (x0 : Addr) : entryFrame m #[(.ref x0)] 1 = mkF m 0 #[.val (.ref x0)] [] := by first | (simp [entryFrame, mkF, argsToLocals, Value.category]; done) | rfl
def Q9 (Z : State) (h0 : Heap) (n0 : Nat) (v : Option Value) (h : Heap) (L : List Loc) : Prop := v = some (.int (1 : Int32)) ∧ Fr n0 L ∧ h = h0
set_option maxRecDepth 65536 in
set_option maxHeartbeats 40000000 in
theorem rm9 (l : Launch) (Z : State) (a0 : Array Value) (hw : ∀ d ∈ tables_1, d.before a0 Z = true) (ws : List Jvm.Cond) (a1 : Addr) (t1 : Addr) (k1 : ClassId) (w0 : Int32) (vF : Value) (h0 : Heap) (n0 : Nat) (Z0 : n0 ≤ h0.size) (E1 : Exa Z h0 a1 "java/lang/String") (Fv : Fld Z h0 a1 "java/lang/String" "value" "[B" (.ref t1)) (Fc : Fld Z h0 a1 "java/lang/String" "coder" "B" (.int (1 : Int32))) (V1 : Arv Z h0 t1 k1 .byte (2 : Int32) [(.int (-3 : Int32)), (.int (-1 : Int32))] (.int (0 : Int32))) (O0 : Old Z n0 h0) (St : own_St Z w0 vF) :
    MetFree l (⟨"java/lang/String", "length", "()I"⟩ : MethodName) (head1 (Jvm.Cond.code (⟨"java/lang/String", "length", "()I"⟩ : MethodName) jdk_42_method_54_code 1 (some .int) :: ws) ({ frames := 1, cells := 0, slots := 0, locals := 13 } : Room)) (fun a U => a = #[(.ref a1)] ∧ Z.Warmed39 U.vm ∧ U.heap = h0) (fun _ _ _ _ _ => True) (fun _ U o U' => ∃ v L, o = .returned v ∧ Q9 Z  h0 n0 v U'.heap L ∧ FrameEnd U o U' L ({ frames := 1, cells := 0, slots := 0, locals := 13 } : Room).cells ({ frames := 1, cells := 0, slots := 0, locals := 13 } : Room).slots) := by
  refine MetFree.of_bodySF (plainFor_of_name pn_9) hisR ?_
  intro p e s m args below meth c s₁ Bd hml0 hP hK
  obtain ⟨rfl, hZ, hh⟩ := hP
  have hx := Bd.exec
  have hby := Bd.bytes
  have hml : c.maxLocals = 1 := hml0
  have hown : s.vm.findClass "java/lang/String" = some m.cls := findClass_of_methodNamed Bd.named
  have hnm := (name_of_methodNamed Bd.named Bd.method).1
  have X0 : Stand p l e ({ frames := 1, cells := 0, slots := 0, locals := 13 } : Room) s m #[(.ref a1)] below meth c s₁ [] 0 0 := Stand.of_body Bd
  have e0 : s₁.heap = h0 := by rw [← hh, Bd.state]; rfl
  have N0 := Fr.nil n0
  refine Goes.via (next := s₁.setTop (mkF m 0 #[.val (.ref a1)] [])) (fun t k => castTop (ef_9 m a1) k) ?_
  refine Goes.via (fun t k => XS.aloadN X0.here hx rfl (hb hby d9_0) rfl rfl k) ?_
  show Goes p e below (s₁.setTop (mkF m 1 #[.val (.ref a1)] [(.ref a1)])) _
  obtain ⟨T1, X1, e1, st1⟩ := getF X0 hx hZ hown (host := "") (Or.inl (hw _ (List.mem_of_getElem? (i := 18) rfl))) Via.refl e0 Fv (g := (mkF m 1 #[.val (.ref a1)] [(.ref a1)])) rfl rfl (hb hby d9_1)
  refine Goes.via st1 ?_
  show Goes p e below (T1.setTop (mkF m 4 #[.val (.ref a1)] [(.ref t1)])) _
  obtain ⟨cl2, Ar2, -, Sa2, Na2, -, -⟩ := id V1
  refine Goes.via (next := T1.setTop (mkF m 5 #[.val (.ref a1)] [(.int (2 : Int32))])) (fun t k => X1.arraylength hx (by rw [e1]; exact Ar2.1) (State.isArrayOf_alike hZ.alike Ar2.2.1) (g := (mkF m 4 #[.val (.ref a1)] [(.ref t1)])) rfl rfl (hb hby d9_4) _ (by rw [len_of Sa2 Na2]; exact k)) ?_
  show Goes p e below (T1.setTop (mkF m 5 #[.val (.ref a1)] [(.int (2 : Int32))])) _
  refine Goes.via (fun t k => XS.aloadN X1.here hx rfl (hb hby d9_5) rfl rfl k) ?_
  show Goes p e below (T1.setTop (mkF m 6 #[.val (.ref a1)] [(.ref a1), (.int (2 : Int32))])) _
  obtain ⟨cq3, kq3, q3a, q3b, q3c⟩ := isOf hZ e1 E1
  obtain ⟨_, _, ⟨T3, L3, k3, n3⟩, -, X3, ⟨Lc3, hQ3, l3, y3, z3⟩, st3⟩ := X1.virtualBack hx (y := (⟨"java/lang/String", "coder", "()B"⟩ : MethodName)) (z := (⟨"java/lang/String", "coder", "()B"⟩ : MethodName)) hown (mvT hZ (hw _ (List.mem_of_getElem? (i := 52) rfl))) (mvT hZ (hw _ (List.mem_of_getElem? (i := 53) rfl))) (notFace_of_selects (args := #[]) (mvT hZ (hw _ (List.mem_of_getElem? (i := 55) rfl)))) (mvT hZ (hw _ (List.mem_of_getElem? (i := 55) rfl))) (mvT hZ (hw _ (List.mem_of_getElem? (i := 54) rfl))) (by decide) (backOf (W := 1) (rm10 l Z a0 hw [] a1 w0 vF h0 n0 Z0 Fc O0 St) hZ (hw _ (List.mem_of_getElem? (i := 56) rfl)) (hw _ (List.mem_of_getElem? (i := 7) rfl)) (by decide) (by decide)) q3a q3c (g := (mkF m 6 #[.val (.ref a1)] [(.ref a1), (.int (2 : Int32))])) rfl (by rw [hml]; rfl) (Steps.refl _) (argsL := []) (rest := [(.int (2 : Int32))]) (lenOf pd_9_0 rfl) rfl (by show 2 * 0 + _ ≤ _; exact Nat.le_of_eq rfl) (hb hby d9_6) (fun _ _ => ⟨rfl, e1, (by decide : 0 + 0 ≤ _), (by decide : 0 + 0 ≤ _)⟩)
  dsimp only [Pt.U, Pt.locs, Pt.cells, Pt.slots] at X3 l3 y3 z3 st3 hQ3
  subst l3 y3 z3
  obtain ⟨rfl, N3q, er3⟩ := hQ3
  have e3 : T3.heap = h0 := er3
  have N3 := Fr.app N0 N3q
  refine Goes.via (fun t k => st3.trans k) ?_
  show Goes p e below (T3.setTop (mkF m 9 #[.val (.ref a1)] [(.int (1 : Int32)), (.int (2 : Int32))])) _
  refine Goes.via (fun t k => XS.ishr X3.here hx rfl (hb hby d9_9) rfl k) ?_
  show Goes p e below (T3.setTop (mkF m 10 #[.val (.ref a1)] [(.int (1 : Int32))])) _
  obtain ⟨fs, hr, hrun, hended, hW, hsame⟩ := X3.leave (v := some (.int (1 : Int32))) (fun h => by rw [Bd.returns] at h; cases h)
  refine ⟨_, _, ?_, hrun, hended, _, _, rfl, ?_, ⟨_, rfl⟩, hW, hsame.mono (by decide) (by decide)⟩
  · exact retI X3 hx Bd.returns (hb hby d9_10) hr
  · show Q9 Z  h0 n0 _ T3.heap _
    rw [e3]
    exact ⟨rfl, N3, rfl⟩
theorem d15_0 : decode jdk_52_method_6_code 0 = .ok (.aload_n 0, 1) := by decide +kernel
theorem d15_1 : decode jdk_52_method_6_code 1 = .ok (.arraylength, 1) := by decide +kernel
theorem d15_2 : decode jdk_52_method_6_code 2 = .ok (.iconst 1, 1) := by decide +kernel
theorem d15_3 : decode jdk_52_method_6_code 3 = .ok (.ishr, 1) := by decide +kernel
theorem d15_4 : decode jdk_52_method_6_code 4 = .ok (.ireturn, 1) := by decide +kernel
theorem pn_15 : plainName "java/lang/StringUTF16" = true := by first | (simp [plainName, overriddenIn]; done) | decide +kernel
theorem ef_15 (m : MethodId) (x0 : Addr) : entryFrame m #[(.ref x0)] 1 = mkF m 0 #[.val (.ref x0)] [] := by first | (simp [entryFrame, mkF, argsToLocals, Value.category]; done) | rfl
def Q15 (Z : State) (h0 : Heap) (n0 : Nat) (v : Option Value) (h : Heap) (L : List Loc) : Prop := v = some (.int (1 : Int32)) ∧ Fr n0 L ∧ h = h0
set_option maxRecDepth 65536 in
set_option maxHeartbeats 40000000 in
theorem rm15 (l : Launch) (Z : State) (a0 : Array Value) (hw : ∀ d ∈ tables_1, d.before a0 Z = true) (ws : List Jvm.Cond) (t1 : Addr) (k1 : ClassId) (h0 : Heap) (n0 : Nat) (Z0 : n0 ≤ h0.size) (V1 : Arv Z h0 t1 k1 .byte (2 : Int32) [(.int (-3 : Int32)), (.int (-1 : Int32))] (.int (0 : Int32))) :
    MetFree l (⟨"java/lang/StringUTF16", "length", "([B)I"⟩ : MethodName) (head1 (Jvm.Cond.code (⟨"java/lang/StringUTF16", "length", "([B)I"⟩ : MethodName) jdk_52_method_6_code 1 (some .int) :: ws) ({ frames := 0, cells := 0, slots := 0, locals := 0 } : Room)) (fun a U => a = #[(.ref t1)] ∧ Z.Warmed39 U.vm ∧ U.heap = h0) (fun _ _ _ _ _ => True) (fun _ U o U' => ∃ v L, o = .returned v ∧ Q15 Z  h0 n0 v U'.heap L ∧ FrameEnd U o U' L ({ frames := 0, cells := 0, slots := 0, locals := 0 } : Room).cells ({ frames := 0, cells := 0, slots := 0, locals := 0 } : Room).slots) := by
  refine MetFree.of_bodySF (plainFor_of_name pn_15) hisR ?_
  intro p e s m args below meth c s₁ Bd hml0 hP hK
  obtain ⟨rfl, hZ, hh⟩ := hP
  have hx := Bd.exec
  have hby := Bd.bytes
  have hml : c.maxLocals = 1 := hml0
  have hown : s.vm.findClass "java/lang/StringUTF16" = some m.cls := findClass_of_methodNamed Bd.named
  have hnm := (name_of_methodNamed Bd.named Bd.method).1
  have X0 : Stand p l e ({ frames := 0, cells := 0, slots := 0, locals := 0 } : Room) s m #[(.ref t1)] below meth c s₁ [] 0 0 := Stand.of_body Bd
  have e0 : s₁.heap = h0 := by rw [← hh, Bd.state]; rfl
  have N0 := Fr.nil n0
  refine Goes.via (next := s₁.setTop (mkF m 0 #[.val (.ref t1)] [])) (fun t k => castTop (ef_15 m t1) k) ?_
  refine Goes.via (fun t k => XS.aloadN X0.here hx rfl (hb hby d15_0) rfl rfl k) ?_
  show Goes p e below (s₁.setTop (mkF m 1 #[.val (.ref t1)] [(.ref t1)])) _
  obtain ⟨cl1, Ar1, -, Sa1, Na1, -, -⟩ := id V1
  refine Goes.via (next := s₁.setTop (mkF m 2 #[.val (.ref t1)] [(.int (2 : Int32))])) (fun t k => X0.arraylength hx (by rw [e0]; exact Ar1.1) (State.isArrayOf_alike hZ.alike Ar1.2.1) (g := (mkF m 1 #[.val (.ref t1)] [(.ref t1)])) rfl rfl (hb hby d15_1) _ (by rw [len_of Sa1 Na1]; exact k)) ?_
  show Goes p e below (s₁.setTop (mkF m 2 #[.val (.ref t1)] [(.int (2 : Int32))])) _
  refine Goes.via (fun t k => XS.iconst X0.here hx rfl (hb hby d15_2) k) ?_
  show Goes p e below (s₁.setTop (mkF m 3 #[.val (.ref t1)] [(.int (1 : Int32)), (.int (2 : Int32))])) _
  refine Goes.via (fun t k => XS.ishr X0.here hx rfl (hb hby d15_3) rfl k) ?_
  show Goes p e below (s₁.setTop (mkF m 4 #[.val (.ref t1)] [(.int (1 : Int32))])) _
  obtain ⟨fs, hr, hrun, hended, hW, hsame⟩ := X0.leave (v := some (.int (1 : Int32))) (fun h => by rw [Bd.returns] at h; cases h)
  refine ⟨_, _, ?_, hrun, hended, _, _, rfl, ?_, ⟨_, rfl⟩, hW, hsame.mono (by decide) (by decide)⟩
  · exact retI X0 hx Bd.returns (hb hby d15_4) hr
  · show Q15 Z  h0 n0 _ s₁.heap _
    rw [e0]
    exact ⟨rfl, N0, rfl⟩
theorem d17n_0 : decode jdk_41_method_11_code 0 = .ok (.iload_n 0, 1) := by decide +kernel
theorem d17n_1 : decode jdk_41_method_11_code 1 = .ok (.ifCond .lt 8, 3) := by decide +kernel
theorem d17n_4 : decode jdk_41_method_11_code 4 = .ok (.iload_n 0, 1) := by decide +kernel
theorem d17n_5 : decode jdk_41_method_11_code 5 = .ok (.iload_n 1, 1) := by decide +kernel
theorem d17n_6 : decode jdk_41_method_11_code 6 = .ok (.if_icmp .lt 10, 3) := by decide +kernel
theorem d17n_16 : decode jdk_41_method_11_code 16 = .ok (.iload_n 0, 1) := by decide +kernel
theorem d17n_17 : decode jdk_41_method_11_code 17 = .ok (.ireturn, 1) := by decide +kernel
theorem pn_17n : plainName "jdk/internal/util/Preconditions" = true := by first | (simp [plainName, overriddenIn]; done) | decide +kernel
theorem ef_17n (m : MethodId)  : entryFrame m #[(.int (0 : Int32)), (.int (1 : Int32)), .null] 3 = mkF m 0 #[.val (.int (0 : Int32)), .val (.int (1 : Int32)), .val .null] [] := by first | (simp [entryFrame, mkF, argsToLocals, Value.category]; done) | rfl
def Q17n (Z : State) (h0 : Heap) (n0 : Nat) (v : Option Value) (h : Heap) (L : List Loc) : Prop := v = some (.int (0 : Int32)) ∧ Fr n0 L ∧ h = h0
set_option maxRecDepth 65536 in
set_option maxHeartbeats 40000000 in
theorem rm17n (l : Launch) (Z : State) (a0 : Array Value) (hw : ∀ d ∈ tables_1, d.before a0 Z = true) (ws : List Jvm.Cond)  (h0 : Heap) (n0 : Nat) (Z0 : n0 ≤ h0.size) :
    MetFree l (⟨"jdk/internal/util/Preconditions", "checkIndex", "(IILjava/util/function/BiFunction;)I"⟩ : MethodName) (head1 (Jvm.Cond.code (⟨"jdk/internal/util/Preconditions", "checkIndex", "(IILjava/util/function/BiFunction;)I"⟩ : MethodName) jdk_41_method_11_code 3 (some .int) :: ws) ({ frames := 0, cells := 0, slots := 0, locals := 0 } : Room)) (fun a U => a = #[(.int (0 : Int32)), (.int (1 : Int32)), .null] ∧ Z.Warmed39 U.vm ∧ U.heap = h0) (fun _ _ _ _ _ => True) (fun _ U o U' => ∃ v L, o = .returned v ∧ Q17n Z  h0 n0 v U'.heap L ∧ FrameEnd U o U' L ({ frames := 0, cells := 0, slots := 0, locals := 0 } : Room).cells ({ frames := 0, cells := 0, slots := 0, locals := 0 } : Room).slots) := by
  refine MetFree.of_bodySF (plainFor_of_name pn_17n) hisR ?_
  intro p e s m args below meth c s₁ Bd hml0 hP hK
  obtain ⟨rfl, hZ, hh⟩ := hP
  have hx := Bd.exec
  have hby := Bd.bytes
  have hml : c.maxLocals = 3 := hml0
  have hown : s.vm.findClass "jdk/internal/util/Preconditions" = some m.cls := findClass_of_methodNamed Bd.named
  have hnm := (name_of_methodNamed Bd.named Bd.method).1
  have X0 : Stand p l e ({ frames := 0, cells := 0, slots := 0, locals := 0 } : Room) s m #[(.int (0 : Int32)), (.int (1 : Int32)), .null] below meth c s₁ [] 0 0 := Stand.of_body Bd
  have e0 : s₁.heap = h0 := by rw [← hh, Bd.state]; rfl
  have N0 := Fr.nil n0
  refine Goes.via (next := s₁.setTop (mkF m 0 #[.val (.int (0 : Int32)), .val (.int (1 : Int32)), .val .null] [])) (fun t k => castTop (ef_17n m ) k) ?_
  refine Goes.via (fun t k => XS.iloadN X0.here hx rfl (hb hby d17n_0) rfl k) ?_
  show Goes p e below (s₁.setTop (mkF m 1 #[.val (.int (0 : Int32)), .val (.int (1 : Int32)), .val .null] [(.int (0 : Int32))])) _
  refine Goes.via (fun t k => XS.ifNo X0.here hx rfl (hb hby d17n_1) rfl ((if0 _ _).trans (flt (show ¬ ((0 : Int32) < (0 : Int32)) from (by decide))).1) k) ?_
  show Goes p e below (s₁.setTop (mkF m 4 #[.val (.int (0 : Int32)), .val (.int (1 : Int32)), .val .null] [])) _
  refine Goes.via (fun t k => XS.iloadN X0.here hx rfl (hb hby d17n_4) rfl k) ?_
  show Goes p e below (s₁.setTop (mkF m 5 #[.val (.int (0 : Int32)), .val (.int (1 : Int32)), .val .null] [(.int (0 : Int32))])) _
  refine Goes.via (fun t k => XS.iloadN X0.here hx rfl (hb hby d17n_5) rfl k) ?_
  show Goes p e below (s₁.setTop (mkF m 6 #[.val (.int (0 : Int32)), .val (.int (1 : Int32)), .val .null] [(.int (1 : Int32)), (.int (0 : Int32))])) _
  refine Goes.via (fun t k => XS.icmpYes X0.here hx rfl (pc0 := 6) (pc' := 16) rfl (hb hby d17n_6) rfl (tlt (show (0 : Int32) < (1 : Int32) from (by decide))).1 (by decide) (by decide) k) ?_
  show Goes p e below (s₁.setTop (mkF m 16 #[.val (.int (0 : Int32)), .val (.int (1 : Int32)), .val .null] [])) _
  refine Goes.via (fun t k => XS.iloadN X0.here hx rfl (hb hby d17n_16) rfl k) ?_
  show Goes p e below (s₁.setTop (mkF m 17 #[.val (.int (0 : Int32)), .val (.int (1 : Int32)), .val .null] [(.int (0 : Int32))])) _
  obtain ⟨fs, hr, hrun, hended, hW, hsame⟩ := X0.leave (v := some (.int (0 : Int32))) (fun h => by rw [Bd.returns] at h; cases h)
  refine ⟨_, _, ?_, hrun, hended, _, _, rfl, ?_, ⟨_, rfl⟩, hW, hsame.mono (by decide) (by decide)⟩
  · exact retI X0 hx Bd.returns (hb hby d17n_17) hr
  · show Q17n Z  h0 n0 _ s₁.heap _
    rw [e0]
    exact ⟨rfl, N0, rfl⟩
theorem d17r_0 : decode jdk_41_method_11_code 0 = .ok (.iload_n 0, 1) := by decide +kernel
theorem d17r_1 : decode jdk_41_method_11_code 1 = .ok (.ifCond .lt 8, 3) := by decide +kernel
theorem d17r_4 : decode jdk_41_method_11_code 4 = .ok (.iload_n 0, 1) := by decide +kernel
theorem d17r_5 : decode jdk_41_method_11_code 5 = .ok (.iload_n 1, 1) := by decide +kernel
theorem d17r_6 : decode jdk_41_method_11_code 6 = .ok (.if_icmp .lt 10, 3) := by decide +kernel
theorem d17r_16 : decode jdk_41_method_11_code 16 = .ok (.iload_n 0, 1) := by decide +kernel
theorem d17r_17 : decode jdk_41_method_11_code 17 = .ok (.ireturn, 1) := by decide +kernel
theorem pn_17r : plainName "jdk/internal/util/Preconditions" = true := by first | (simp [plainName, overriddenIn]; done) | decide +kernel
theorem ef_17r (m : MethodId) (x2 : Addr) : entryFrame m #[(.int (0 : Int32)), (.int (1 : Int32)), (.ref x2)] 3 = mkF m 0 #[.val (.int (0 : Int32)), .val (.int (1 : Int32)), .val (.ref x2)] [] := by first | (simp [entryFrame, mkF, argsToLocals, Value.category]; done) | rfl
def Q17r (Z : State) (h0 : Heap) (n0 : Nat) (v : Option Value) (h : Heap) (L : List Loc) : Prop := v = some (.int (0 : Int32)) ∧ Fr n0 L ∧ h = h0
set_option maxRecDepth 65536 in
set_option maxHeartbeats 40000000 in
theorem rm17r (l : Launch) (Z : State) (a0 : Array Value) (hw : ∀ d ∈ tables_1, d.before a0 Z = true) (ws : List Jvm.Cond) (a3 : Addr) (h0 : Heap) (n0 : Nat) (Z0 : n0 ≤ h0.size) :
    MetFree l (⟨"jdk/internal/util/Preconditions", "checkIndex", "(IILjava/util/function/BiFunction;)I"⟩ : MethodName) (head1 (Jvm.Cond.code (⟨"jdk/internal/util/Preconditions", "checkIndex", "(IILjava/util/function/BiFunction;)I"⟩ : MethodName) jdk_41_method_11_code 3 (some .int) :: ws) ({ frames := 0, cells := 0, slots := 0, locals := 0 } : Room)) (fun a U => a = #[(.int (0 : Int32)), (.int (1 : Int32)), (.ref a3)] ∧ Z.Warmed39 U.vm ∧ U.heap = h0) (fun _ _ _ _ _ => True) (fun _ U o U' => ∃ v L, o = .returned v ∧ Q17r Z  h0 n0 v U'.heap L ∧ FrameEnd U o U' L ({ frames := 0, cells := 0, slots := 0, locals := 0 } : Room).cells ({ frames := 0, cells := 0, slots := 0, locals := 0 } : Room).slots) := by
  refine MetFree.of_bodySF (plainFor_of_name pn_17r) hisR ?_
  intro p e s m args below meth c s₁ Bd hml0 hP hK
  obtain ⟨rfl, hZ, hh⟩ := hP
  have hx := Bd.exec
  have hby := Bd.bytes
  have hml : c.maxLocals = 3 := hml0
  have hown : s.vm.findClass "jdk/internal/util/Preconditions" = some m.cls := findClass_of_methodNamed Bd.named
  have hnm := (name_of_methodNamed Bd.named Bd.method).1
  have X0 : Stand p l e ({ frames := 0, cells := 0, slots := 0, locals := 0 } : Room) s m #[(.int (0 : Int32)), (.int (1 : Int32)), (.ref a3)] below meth c s₁ [] 0 0 := Stand.of_body Bd
  have e0 : s₁.heap = h0 := by rw [← hh, Bd.state]; rfl
  have N0 := Fr.nil n0
  refine Goes.via (next := s₁.setTop (mkF m 0 #[.val (.int (0 : Int32)), .val (.int (1 : Int32)), .val (.ref a3)] [])) (fun t k => castTop (ef_17r m a3) k) ?_
  refine Goes.via (fun t k => XS.iloadN X0.here hx rfl (hb hby d17r_0) rfl k) ?_
  show Goes p e below (s₁.setTop (mkF m 1 #[.val (.int (0 : Int32)), .val (.int (1 : Int32)), .val (.ref a3)] [(.int (0 : Int32))])) _
  refine Goes.via (fun t k => XS.ifNo X0.here hx rfl (hb hby d17r_1) rfl ((if0 _ _).trans (flt (show ¬ ((0 : Int32) < (0 : Int32)) from (by decide))).1) k) ?_
  show Goes p e below (s₁.setTop (mkF m 4 #[.val (.int (0 : Int32)), .val (.int (1 : Int32)), .val (.ref a3)] [])) _
  refine Goes.via (fun t k => XS.iloadN X0.here hx rfl (hb hby d17r_4) rfl k) ?_
  show Goes p e below (s₁.setTop (mkF m 5 #[.val (.int (0 : Int32)), .val (.int (1 : Int32)), .val (.ref a3)] [(.int (0 : Int32))])) _
  refine Goes.via (fun t k => XS.iloadN X0.here hx rfl (hb hby d17r_5) rfl k) ?_
  show Goes p e below (s₁.setTop (mkF m 6 #[.val (.int (0 : Int32)), .val (.int (1 : Int32)), .val (.ref a3)] [(.int (1 : Int32)), (.int (0 : Int32))])) _
  refine Goes.via (fun t k => XS.icmpYes X0.here hx rfl (pc0 := 6) (pc' := 16) rfl (hb hby d17r_6) rfl (tlt (show (0 : Int32) < (1 : Int32) from (by decide))).1 (by decide) (by decide) k) ?_
  show Goes p e below (s₁.setTop (mkF m 16 #[.val (.int (0 : Int32)), .val (.int (1 : Int32)), .val (.ref a3)] [])) _
  refine Goes.via (fun t k => XS.iloadN X0.here hx rfl (hb hby d17r_16) rfl k) ?_
  show Goes p e below (s₁.setTop (mkF m 17 #[.val (.int (0 : Int32)), .val (.int (1 : Int32)), .val (.ref a3)] [(.int (0 : Int32))])) _
  obtain ⟨fs, hr, hrun, hended, hW, hsame⟩ := X0.leave (v := some (.int (0 : Int32))) (fun h => by rw [Bd.returns] at h; cases h)
  refine ⟨_, _, ?_, hrun, hended, _, _, rfl, ?_, ⟨_, rfl⟩, hW, hsame.mono (by decide) (by decide)⟩
  · exact retI X0 hx Bd.returns (hb hby d17r_17) hr
  · show Q17r Z  h0 n0 _ s₁.heap _
    rw [e0]
    exact ⟨rfl, N0, rfl⟩
theorem d16_0 : decode jdk_42_method_155_code 0 = .ok (.iload_n 0, 1) := by decide +kernel
theorem d16_1 : decode jdk_42_method_155_code 1 = .ok (.iload_n 1, 1) := by decide +kernel
theorem d16_2 : decode jdk_42_method_155_code 2 = .ok (.getstatic 1053, 3) := by decide +kernel
theorem d16_5 : decode jdk_42_method_155_code 5 = .ok (.invokestatic 1059, 3) := by decide +kernel
theorem d16_8 : decode jdk_42_method_155_code 8 = .ok (.pop, 1) := by decide +kernel
theorem d16_9 : decode jdk_42_method_155_code 9 = .ok (.return_, 1) := by decide +kernel
theorem pn_16 : plainName "java/lang/String" = true := by first | (simp [plainName, overriddenIn]; done) | decide +kernel
theorem pd_16_0 : parseMethodDescriptor "(IILjava/util/function/BiFunction;)I" = some ⟨[.int, .int, (.object "java/util/function/BiFunction")], some .int⟩ := by decide +kernel
theorem ef_16 (m : MethodId)  : entryFrame m #[(.int (0 : Int32)), (.int (1 : Int32))] 2 = mkF m 0 #[.val (.int (0 : Int32)), .val (.int (1 : Int32))] [] := by first | (simp [entryFrame, mkF, argsToLocals, Value.category]; done) | rfl
def Q16 (Z : State) (h0 : Heap) (n0 : Nat) (v : Option Value) (h : Heap) (L : List Loc) : Prop := v = none ∧ Fr n0 L ∧ h = h0
set_option maxRecDepth 65536 in
set_option maxHeartbeats 40000000 in
theorem rm16 (l : Launch) (Z : State) (a0 : Array Value) (hw : ∀ d ∈ tables_1, d.before a0 Z = true) (ws : List Jvm.Cond)  (w0 : Int32) (vF : Value) (h0 : Heap) (n0 : Nat) (Z0 : n0 ≤ h0.size) (O0 : Old Z n0 h0) (St : own_St Z w0 vF) :
    MetFree l (⟨"java/lang/String", "checkIndex", "(II)V"⟩ : MethodName) (head1 (Jvm.Cond.code (⟨"java/lang/String", "checkIndex", "(II)V"⟩ : MethodName) jdk_42_method_155_code 2 none :: ws) ({ frames := 1, cells := 0, slots := 0, locals := 14 } : Room)) (fun a U => a = #[(.int (0 : Int32)), (.int (1 : Int32))] ∧ Z.Warmed39 U.vm ∧ U.heap = h0) (fun _ _ _ _ _ => True) (fun _ U o U' => ∃ v L, o = .returned v ∧ Q16 Z  h0 n0 v U'.heap L ∧ FrameEnd U o U' L ({ frames := 1, cells := 0, slots := 0, locals := 14 } : Room).cells ({ frames := 1, cells := 0, slots := 0, locals := 14 } : Room).slots) := by
  refine MetFree.of_bodySF (plainFor_of_name pn_16) hisR ?_
  intro p e s m args below meth c s₁ Bd hml0 hP hK
  obtain ⟨rfl, hZ, hh⟩ := hP
  have hx := Bd.exec
  have hby := Bd.bytes
  have hml : c.maxLocals = 2 := hml0
  have hown : s.vm.findClass "java/lang/String" = some m.cls := findClass_of_methodNamed Bd.named
  have hnm := (name_of_methodNamed Bd.named Bd.method).1
  have X0 : Stand p l e ({ frames := 1, cells := 0, slots := 0, locals := 14 } : Room) s m #[(.int (0 : Int32)), (.int (1 : Int32))] below meth c s₁ [] 0 0 := Stand.of_body Bd
  have e0 : s₁.heap = h0 := by rw [← hh, Bd.state]; rfl
  have N0 := Fr.nil n0
  refine Goes.via (next := s₁.setTop (mkF m 0 #[.val (.int (0 : Int32)), .val (.int (1 : Int32))] [])) (fun t k => castTop (ef_16 m ) k) ?_
  refine Goes.via (fun t k => XS.iloadN X0.here hx rfl (hb hby d16_0) rfl k) ?_
  show Goes p e below (s₁.setTop (mkF m 1 #[.val (.int (0 : Int32)), .val (.int (1 : Int32))] [(.int (0 : Int32))])) _
  refine Goes.via (fun t k => XS.iloadN X0.here hx rfl (hb hby d16_1) rfl k) ?_
  show Goes p e below (s₁.setTop (mkF m 2 #[.val (.int (0 : Int32)), .val (.int (1 : Int32))] [(.int (1 : Int32)), (.int (0 : Int32))])) _
  obtain ⟨T1, X1, e1, st1⟩ := getS2 X0 hx hZ hown (host := "") (Or.inl (hw _ (List.mem_of_getElem? (i := 79) rfl))) Via.refl e0 (St.2.2.2.2.2.1.ext O0.2) (g := (mkF m 2 #[.val (.int (0 : Int32)), .val (.int (1 : Int32))] [(.int (1 : Int32)), (.int (0 : Int32))])) rfl (hb hby d16_2)
  refine Goes.via st1 ?_
  rcases ref_cases St.2.2.2.2.2.2 with hv0 | ⟨r0, hv0⟩
  · rw [hv0]
    show Goes p e below (T1.setTop (mkF m 5 #[.val (.int (0 : Int32)), .val (.int (1 : Int32))] [.null, (.int (1 : Int32)), (.int (0 : Int32))])) _
    obtain ⟨_, _, ⟨T2, L2, k2, n2⟩, -, X2, ⟨Lc2, hQ2, l2, y2, z2⟩, st2⟩ := Jvm.LawKit.callS X1 hx (y := (⟨"jdk/internal/util/Preconditions", "checkIndex", "(IILjava/util/function/BiFunction;)I"⟩ : MethodName)) hown (mvT hZ (hw _ (List.mem_of_getElem? (i := 81) rfl))) (mvT hZ (hw _ (List.mem_of_getElem? (i := 82) rfl))) (mvT hZ (hw _ (List.mem_of_getElem? (i := 80) rfl))) (mvT hZ (hw _ (List.mem_of_getElem? (i := 83) rfl))) (by decide) (backOf (W := 0) (rm17n l Z a0 hw []   h0 n0 Z0 ) hZ (hw _ (List.mem_of_getElem? (i := 83) rfl)) (hw _ (List.mem_of_getElem? (i := 80) rfl)) (by decide) (by decide)) (g := (mkF m 5 #[.val (.int (0 : Int32)), .val (.int (1 : Int32))] [.null, (.int (1 : Int32)), (.int (0 : Int32))])) rfl (by rw [hml]; rfl) (argsL := [(.int (0 : Int32)), (.int (1 : Int32)), .null]) (rest := []) (lenOf pd_16_0 rfl) rfl (by show 2 * 0 + _ ≤ _; exact Nat.le_of_eq rfl) (hb hby d16_5) (fun _ _ => ⟨rfl, e1, (by decide : 0 + 0 ≤ _), (by decide : 0 + 0 ≤ _)⟩)
    dsimp only [Pt.U, Pt.locs, Pt.cells, Pt.slots] at X2 l2 y2 z2 st2 hQ2
    subst l2 y2 z2
    obtain ⟨rfl, N2q, er2⟩ := hQ2
    have e2 : T2.heap = h0 := er2
    have N2 := Fr.app N0 N2q
    refine Goes.via st2 ?_
    show Goes p e below (T2.setTop (mkF m 8 #[.val (.int (0 : Int32)), .val (.int (1 : Int32))] [(.int (0 : Int32))])) _
    refine Goes.via (fun t k => XS.pop X2.here hx rfl (hb hby d16_8) rfl rfl k) ?_
    show Goes p e below (T2.setTop (mkF m 9 #[.val (.int (0 : Int32)), .val (.int (1 : Int32))] [])) _
    obtain ⟨fs, hr, hrun, hended, hW, hsame⟩ := X2.leave (v := none) (fun _ => rfl)
    refine ⟨_, _, ?_, hrun, hended, _, _, rfl, ?_, ⟨_, rfl⟩, hW, hsame.mono (by decide) (by decide)⟩
    · exact X2.returnOut hx Bd.returns (hb hby d16_9) hr
    · show Q16 Z  h0 n0 _ T2.heap _
      rw [e2]
      exact ⟨rfl, N2, rfl⟩
  · rw [hv0]
    show Goes p e below (T1.setTop (mkF m 5 #[.val (.int (0 : Int32)), .val (.int (1 : Int32))] [(.ref r0), (.int (1 : Int32)), (.int (0 : Int32))])) _
    obtain ⟨_, _, ⟨T3, L3, k3, n3⟩, -, X3, ⟨Lc3, hQ3, l3, y3, z3⟩, st3⟩ := Jvm.LawKit.callS X1 hx (y := (⟨"jdk/internal/util/Preconditions", "checkIndex", "(IILjava/util/function/BiFunction;)I"⟩ : MethodName)) hown (mvT hZ (hw _ (List.mem_of_getElem? (i := 81) rfl))) (mvT hZ (hw _ (List.mem_of_getElem? (i := 82) rfl))) (mvT hZ (hw _ (List.mem_of_getElem? (i := 80) rfl))) (mvT hZ (hw _ (List.mem_of_getElem? (i := 83) rfl))) (by decide) (backOf (W := 0) (rm17r l Z a0 hw [] r0  h0 n0 Z0 ) hZ (hw _ (List.mem_of_getElem? (i := 83) rfl)) (hw _ (List.mem_of_getElem? (i := 80) rfl)) (by decide) (by decide)) (g := (mkF m 5 #[.val (.int (0 : Int32)), .val (.int (1 : Int32))] [(.ref r0), (.int (1 : Int32)), (.int (0 : Int32))])) rfl (by rw [hml]; rfl) (argsL := [(.int (0 : Int32)), (.int (1 : Int32)), (.ref r0)]) (rest := []) (lenOf pd_16_0 rfl) rfl (by show 2 * 0 + _ ≤ _; exact Nat.le_of_eq rfl) (hb hby d16_5) (fun _ _ => ⟨rfl, e1, (by decide : 0 + 0 ≤ _), (by decide : 0 + 0 ≤ _)⟩)
    dsimp only [Pt.U, Pt.locs, Pt.cells, Pt.slots] at X3 l3 y3 z3 st3 hQ3
    subst l3 y3 z3
    obtain ⟨rfl, N3q, er3⟩ := hQ3
    have e3 : T3.heap = h0 := er3
    have N3 := Fr.app N0 N3q
    refine Goes.via st3 ?_
    show Goes p e below (T3.setTop (mkF m 8 #[.val (.int (0 : Int32)), .val (.int (1 : Int32))] [(.int (0 : Int32))])) _
    refine Goes.via (fun t k => XS.pop X3.here hx rfl (hb hby d16_8) rfl rfl k) ?_
    show Goes p e below (T3.setTop (mkF m 9 #[.val (.int (0 : Int32)), .val (.int (1 : Int32))] [])) _
    obtain ⟨fs, hr, hrun, hended, hW, hsame⟩ := X3.leave (v := none) (fun _ => rfl)
    refine ⟨_, _, ?_, hrun, hended, _, _, rfl, ?_, ⟨_, rfl⟩, hW, hsame.mono (by decide) (by decide)⟩
    · exact X3.returnOut hx Bd.returns (hb hby d16_9) hr
    · show Q16 Z  h0 n0 _ T3.heap _
      rw [e3]
      exact ⟨rfl, N3, rfl⟩
theorem d14_0 : decode jdk_52_method_91_code 0 = .ok (.iload_n 0, 1) := by decide +kernel
theorem d14_1 : decode jdk_52_method_91_code 1 = .ok (.aload_n 1, 1) := by decide +kernel
theorem d14_2 : decode jdk_52_method_91_code 2 = .ok (.invokestatic 48, 3) := by decide +kernel
theorem d14_5 : decode jdk_52_method_91_code 5 = .ok (.invokestatic 414, 3) := by decide +kernel
theorem d14_8 : decode jdk_52_method_91_code 8 = .ok (.return_, 1) := by decide +kernel
theorem pn_14 : plainName "java/lang/StringUTF16" = true := by first | (simp [plainName, overriddenIn]; done) | decide +kernel
theorem pd_14_0 : parseMethodDescriptor "([B)I" = some ⟨[(.array .byte)], some .int⟩ := by decide +kernel
theorem pd_14_1 : parseMethodDescriptor "(II)V" = some ⟨[.int, .int], none⟩ := by decide +kernel
theorem ef_14 (m : MethodId) (x1 : Addr) : entryFrame m #[(.int (0 : Int32)), (.ref x1)] 2 = mkF m 0 #[.val (.int (0 : Int32)), .val (.ref x1)] [] := by first | (simp [entryFrame, mkF, argsToLocals, Value.category]; done) | rfl
def Q14 (Z : State) (h0 : Heap) (n0 : Nat) (v : Option Value) (h : Heap) (L : List Loc) : Prop := v = none ∧ Fr n0 L ∧ h = h0
set_option maxRecDepth 65536 in
set_option maxHeartbeats 40000000 in
theorem rm14 (l : Launch) (Z : State) (a0 : Array Value) (hw : ∀ d ∈ tables_1, d.before a0 Z = true) (ws : List Jvm.Cond) (t1 : Addr) (k1 : ClassId) (w0 : Int32) (vF : Value) (h0 : Heap) (n0 : Nat) (Z0 : n0 ≤ h0.size) (V1 : Arv Z h0 t1 k1 .byte (2 : Int32) [(.int (-3 : Int32)), (.int (-1 : Int32))] (.int (0 : Int32))) (O0 : Old Z n0 h0) (St : own_St Z w0 vF) :
    MetFree l (⟨"java/lang/StringUTF16", "checkIndex", "(I[B)V"⟩ : MethodName) (head1 (Jvm.Cond.code (⟨"java/lang/StringUTF16", "checkIndex", "(I[B)V"⟩ : MethodName) jdk_52_method_91_code 2 none :: ws) ({ frames := 2, cells := 0, slots := 0, locals := 27 } : Room)) (fun a U => a = #[(.int (0 : Int32)), (.ref t1)] ∧ Z.Warmed39 U.vm ∧ U.heap = h0) (fun _ _ _ _ _ => True) (fun _ U o U' => ∃ v L, o = .returned v ∧ Q14 Z  h0 n0 v U'.heap L ∧ FrameEnd U o U' L ({ frames := 2, cells := 0, slots := 0, locals := 27 } : Room).cells ({ frames := 2, cells := 0, slots := 0, locals := 27 } : Room).slots) := by
  refine MetFree.of_bodySF (plainFor_of_name pn_14) hisR ?_
  intro p e s m args below meth c s₁ Bd hml0 hP hK
  obtain ⟨rfl, hZ, hh⟩ := hP
  have hx := Bd.exec
  have hby := Bd.bytes
  have hml : c.maxLocals = 2 := hml0
  have hown : s.vm.findClass "java/lang/StringUTF16" = some m.cls := findClass_of_methodNamed Bd.named
  have hnm := (name_of_methodNamed Bd.named Bd.method).1
  have X0 : Stand p l e ({ frames := 2, cells := 0, slots := 0, locals := 27 } : Room) s m #[(.int (0 : Int32)), (.ref t1)] below meth c s₁ [] 0 0 := Stand.of_body Bd
  have e0 : s₁.heap = h0 := by rw [← hh, Bd.state]; rfl
  have N0 := Fr.nil n0
  refine Goes.via (next := s₁.setTop (mkF m 0 #[.val (.int (0 : Int32)), .val (.ref t1)] [])) (fun t k => castTop (ef_14 m t1) k) ?_
  refine Goes.via (fun t k => XS.iloadN X0.here hx rfl (hb hby d14_0) rfl k) ?_
  show Goes p e below (s₁.setTop (mkF m 1 #[.val (.int (0 : Int32)), .val (.ref t1)] [(.int (0 : Int32))])) _
  refine Goes.via (fun t k => XS.aloadN X0.here hx rfl (hb hby d14_1) rfl rfl k) ?_
  show Goes p e below (s₁.setTop (mkF m 2 #[.val (.int (0 : Int32)), .val (.ref t1)] [(.ref t1), (.int (0 : Int32))])) _
  obtain ⟨_, _, ⟨T1, L1, k1, n1⟩, -, X1, ⟨Lc1, hQ1, l1, y1, z1⟩, st1⟩ := Jvm.LawKit.callS X0 hx (y := (⟨"java/lang/StringUTF16", "length", "([B)I"⟩ : MethodName)) hown (mvT hZ (hw _ (List.mem_of_getElem? (i := 73) rfl))) (mvT hZ (hw _ (List.mem_of_getElem? (i := 74) rfl))) (mvT hZ (hw _ (List.mem_of_getElem? (i := 31) rfl))) (mvT hZ (hw _ (List.mem_of_getElem? (i := 75) rfl))) (by decide) (backOf (W := 1) (rm15 l Z a0 hw [] t1 k1 h0 n0 Z0 V1) hZ (hw _ (List.mem_of_getElem? (i := 75) rfl)) (hw _ (List.mem_of_getElem? (i := 31) rfl)) (by decide) (by decide)) (g := (mkF m 2 #[.val (.int (0 : Int32)), .val (.ref t1)] [(.ref t1), (.int (0 : Int32))])) rfl (by rw [hml]; rfl) (argsL := [(.ref t1)]) (rest := [(.int (0 : Int32))]) (lenOf pd_14_0 rfl) rfl (by show 2 * 0 + _ ≤ _; exact Nat.le_of_eq rfl) (hb hby d14_2) (fun _ _ => ⟨rfl, e0, (by decide : 0 + 0 ≤ _), (by decide : 0 + 0 ≤ _)⟩)
  dsimp only [Pt.U, Pt.locs, Pt.cells, Pt.slots] at X1 l1 y1 z1 st1 hQ1
  subst l1 y1 z1
  obtain ⟨rfl, N1q, er1⟩ := hQ1
  have e1 : T1.heap = h0 := er1
  have N1 := Fr.app N0 N1q
  refine Goes.via st1 ?_
  show Goes p e below (T1.setTop (mkF m 5 #[.val (.int (0 : Int32)), .val (.ref t1)] [(.int (1 : Int32)), (.int (0 : Int32))])) _
  obtain ⟨Lw2, X2w, N2w⟩ := ownPack X1 N1
  obtain ⟨_, _, ⟨T3, L3, k3, n3⟩, -, X3, ⟨Lc3, hQ3, l3, y3, z3⟩, st3⟩ := Jvm.LawKit.callS X2w hx (y := (⟨"java/lang/String", "checkIndex", "(II)V"⟩ : MethodName)) hown (mvT hZ (hw _ (List.mem_of_getElem? (i := 76) rfl))) (mvT hZ (hw _ (List.mem_of_getElem? (i := 77) rfl))) (mvT hZ (hw _ (List.mem_of_getElem? (i := 7) rfl))) (mvT hZ (hw _ (List.mem_of_getElem? (i := 78) rfl))) (by decide) (backOf (W := 0) (rm16 l Z a0 hw []  w0 vF h0 n0 Z0 O0 St) hZ (hw _ (List.mem_of_getElem? (i := 78) rfl)) (hw _ (List.mem_of_getElem? (i := 7) rfl)) (by decide) (by decide)) (g := (mkF m 5 #[.val (.int (0 : Int32)), .val (.ref t1)] [(.int (1 : Int32)), (.int (0 : Int32))])) rfl (by rw [hml]; rfl) (argsL := [(.int (0 : Int32)), (.int (1 : Int32))]) (rest := []) (lenOf pd_14_1 rfl) rfl (by show 2 * 0 + _ ≤ _; exact Nat.le_of_eq rfl) (hb hby d14_5) (fun _ _ => ⟨rfl, e1, (by decide : 0 + 0 ≤ _), (by decide : 0 + 0 ≤ _)⟩)
  dsimp only [Pt.U, Pt.locs, Pt.cells, Pt.slots] at X3 l3 y3 z3 st3 hQ3
  subst l3 y3 z3
  obtain ⟨rfl, N3q, er3⟩ := hQ3
  have e3 : T3.heap = h0 := er3
  have N3 := Fr.app N2w N3q
  refine Goes.via st3 ?_
  show Goes p e below (T3.setTop (mkF m 8 #[.val (.int (0 : Int32)), .val (.ref t1)] [])) _
  obtain ⟨fs, hr, hrun, hended, hW, hsame⟩ := X3.leave (v := none) (fun _ => rfl)
  refine ⟨_, _, ?_, hrun, hended, _, _, rfl, ?_, ⟨_, rfl⟩, hW, hsame.mono (by decide) (by decide)⟩
  · exact X3.returnOut hx Bd.returns (hb hby d14_8) hr
  · show Q14 Z  h0 n0 _ T3.heap _
    rw [e3]
    exact ⟨rfl, N3, rfl⟩
theorem d18_0 : decode jdk_52_method_5_code 0 = .ok (.getstatic 44, 3) := by decide +kernel
theorem d18_3 : decode jdk_52_method_5_code 3 = .ok (.ifCond .ne 25, 3) := by decide +kernel
theorem d18_28 : decode jdk_52_method_5_code 28 = .ok (.iload_n 1, 1) := by decide +kernel
theorem d18_29 : decode jdk_52_method_5_code 29 = .ok (.iconst 1, 1) := by decide +kernel
theorem d18_30 : decode jdk_52_method_5_code 30 = .ok (.ishl, 1) := by decide +kernel
theorem d18_31 : decode jdk_52_method_5_code 31 = .ok (.istore_n 1, 1) := by decide +kernel
theorem d18_32 : decode jdk_52_method_5_code 32 = .ok (.aload_n 0, 1) := by decide +kernel
theorem d18_33 : decode jdk_52_method_5_code 33 = .ok (.iload_n 1, 1) := by decide +kernel
theorem d18_34 : decode jdk_52_method_5_code 34 = .ok (.iinc 1 1, 3) := by decide +kernel
theorem d18_37 : decode jdk_52_method_5_code 37 = .ok (.baload, 1) := by decide +kernel
theorem d18_38 : decode jdk_52_method_5_code 38 = .ok (.sipush 255, 3) := by decide +kernel
theorem d18_41 : decode jdk_52_method_5_code 41 = .ok (.iand, 1) := by decide +kernel
theorem d18_42 : decode jdk_52_method_5_code 42 = .ok (.getstatic 59, 3) := by decide +kernel
theorem d18_45 : decode jdk_52_method_5_code 45 = .ok (.ishl, 1) := by decide +kernel
theorem d18_46 : decode jdk_52_method_5_code 46 = .ok (.aload_n 0, 1) := by decide +kernel
theorem d18_47 : decode jdk_52_method_5_code 47 = .ok (.iload_n 1, 1) := by decide +kernel
theorem d18_48 : decode jdk_52_method_5_code 48 = .ok (.baload, 1) := by decide +kernel
theorem d18_49 : decode jdk_52_method_5_code 49 = .ok (.sipush 255, 3) := by decide +kernel
theorem d18_52 : decode jdk_52_method_5_code 52 = .ok (.iand, 1) := by decide +kernel
theorem d18_53 : decode jdk_52_method_5_code 53 = .ok (.getstatic 63, 3) := by decide +kernel
theorem d18_56 : decode jdk_52_method_5_code 56 = .ok (.ishl, 1) := by decide +kernel
theorem d18_57 : decode jdk_52_method_5_code 57 = .ok (.ior, 1) := by decide +kernel
theorem d18_58 : decode jdk_52_method_5_code 58 = .ok (.i2c, 1) := by decide +kernel
theorem d18_59 : decode jdk_52_method_5_code 59 = .ok (.ireturn, 1) := by decide +kernel
theorem pn_18 : plainName "java/lang/StringUTF16" = true := by first | (simp [plainName, overriddenIn]; done) | decide +kernel
theorem ef_18 (m : MethodId) (x0 : Addr) : entryFrame m #[(.ref x0), (.int (0 : Int32))] 2 = mkF m 0 #[.val (.ref x0), .val (.int (0 : Int32))] [] := by first | (simp [entryFrame, mkF, argsToLocals, Value.category]; done) | rfl
def Q18 (Z : State) (h0 : Heap) (n0 : Nat) (v : Option Value) (h : Heap) (L : List Loc) : Prop := v = some (.int (65533 : Int32)) ∧ Fr n0 L ∧ h = h0
set_option maxRecDepth 65536 in
set_option maxHeartbeats 40000000 in
theorem rm18 (l : Launch) (Z : State) (a0 : Array Value) (hw : ∀ d ∈ tables_1, d.before a0 Z = true) (ws : List Jvm.Cond) (t1 : Addr) (k1 : ClassId) (w0 : Int32) (vF : Value) (h0 : Heap) (n0 : Nat) (Z0 : n0 ≤ h0.size) (V1 : Arv Z h0 t1 k1 .byte (2 : Int32) [(.int (-3 : Int32)), (.int (-1 : Int32))] (.int (0 : Int32))) (O0 : Old Z n0 h0) (St : own_St Z w0 vF) :
    MetFree l (⟨"java/lang/StringUTF16", "getChar", "([BI)C"⟩ : MethodName) (head1 (Jvm.Cond.code (⟨"java/lang/StringUTF16", "getChar", "([BI)C"⟩ : MethodName) jdk_52_method_5_code 2 (some .char) :: ws) ({ frames := 0, cells := 0, slots := 0, locals := 0 } : Room)) (fun a U => a = #[(.ref t1), (.int (0 : Int32))] ∧ Z.Warmed39 U.vm ∧ U.heap = h0) (fun _ _ _ _ _ => True) (fun _ U o U' => ∃ v L, o = .returned v ∧ Q18 Z  h0 n0 v U'.heap L ∧ FrameEnd U o U' L ({ frames := 0, cells := 0, slots := 0, locals := 0 } : Room).cells ({ frames := 0, cells := 0, slots := 0, locals := 0 } : Room).slots) := by
  refine MetFree.of_bodySF (plainFor_of_name pn_18) hisR ?_
  intro p e s m args below meth c s₁ Bd hml0 hP hK
  obtain ⟨rfl, hZ, hh⟩ := hP
  have hx := Bd.exec
  have hby := Bd.bytes
  have hml : c.maxLocals = 2 := hml0
  have hown : s.vm.findClass "java/lang/StringUTF16" = some m.cls := findClass_of_methodNamed Bd.named
  have hnm := (name_of_methodNamed Bd.named Bd.method).1
  have X0 : Stand p l e ({ frames := 0, cells := 0, slots := 0, locals := 0 } : Room) s m #[(.ref t1), (.int (0 : Int32))] below meth c s₁ [] 0 0 := Stand.of_body Bd
  have e0 : s₁.heap = h0 := by rw [← hh, Bd.state]; rfl
  have N0 := Fr.nil n0
  refine Goes.via (next := s₁.setTop (mkF m 0 #[.val (.ref t1), .val (.int (0 : Int32))] [])) (fun t k => castTop (ef_18 m t1) k) ?_
  obtain ⟨T1, X1, e1, st1⟩ := getS2 X0 hx hZ hown (host := "") (Or.inl (hw _ (List.mem_of_getElem? (i := 36) rfl))) Via.refl e0 (St.2.2.1.ext O0.2) (g := (mkF m 0 #[.val (.ref t1), .val (.int (0 : Int32))] [])) rfl (hb hby d18_0)
  refine Goes.via st1 ?_
  show Goes p e below (T1.setTop (mkF m 3 #[.val (.ref t1), .val (.int (0 : Int32))] [(.int (1 : Int32))])) _
  refine Goes.via (fun t k => XS.ifYes X1.here hx rfl (pc0 := 3) (pc' := 28) rfl (hb hby d18_3) rfl ((if0 _ _).trans (feq (show ¬ ((1 : Int32) = (0 : Int32)) from (by decide))).2) (by decide) (by decide) k) ?_
  show Goes p e below (T1.setTop (mkF m 28 #[.val (.ref t1), .val (.int (0 : Int32))] [])) _
  refine Goes.via (fun t k => XS.iloadN X1.here hx rfl (hb hby d18_28) rfl k) ?_
  show Goes p e below (T1.setTop (mkF m 29 #[.val (.ref t1), .val (.int (0 : Int32))] [(.int (0 : Int32))])) _
  refine Goes.via (fun t k => XS.iconst X1.here hx rfl (hb hby d18_29) k) ?_
  show Goes p e below (T1.setTop (mkF m 30 #[.val (.ref t1), .val (.int (0 : Int32))] [(.int (1 : Int32)), (.int (0 : Int32))])) _
  refine Goes.via (fun t k => XS.ishl X1.here hx rfl (hb hby d18_30) rfl k) ?_
  show Goes p e below (T1.setTop (mkF m 31 #[.val (.ref t1), .val (.int (0 : Int32))] [(.int (0 : Int32))])) _
  refine Goes.via (fun t k => XS.istoreN X1.here hx rfl (hb hby d18_31) rfl (l' := #[.val (.ref t1), .val (.int (0 : Int32))]) rfl k) ?_
  show Goes p e below (T1.setTop (mkF m 32 #[.val (.ref t1), .val (.int (0 : Int32))] [])) _
  refine Goes.via (fun t k => XS.aloadN X1.here hx rfl (hb hby d18_32) rfl rfl k) ?_
  show Goes p e below (T1.setTop (mkF m 33 #[.val (.ref t1), .val (.int (0 : Int32))] [(.ref t1)])) _
  refine Goes.via (fun t k => XS.iloadN X1.here hx rfl (hb hby d18_33) rfl k) ?_
  show Goes p e below (T1.setTop (mkF m 34 #[.val (.ref t1), .val (.int (0 : Int32))] [(.int (0 : Int32)), (.ref t1)])) _
  refine Goes.via (fun t k => XS.iinc X1.here hx rfl (hb hby d18_34) rfl (l' := #[.val (.ref t1), .val (.int (1 : Int32))]) rfl k) ?_
  show Goes p e below (T1.setTop (mkF m 37 #[.val (.ref t1), .val (.int (1 : Int32))] [(.int (0 : Int32)), (.ref t1)])) _
  obtain ⟨cl2, Ar2, qa2, Sa2, Na2, Ha2, Ga2⟩ := id V1
  have hin2 : ¬ ((0 : Int32) < 0 ∨ cl2.slots.size ≤ ((0 : Int32)).toNatClampNeg) := inb_of Sa2 ⟨by decide, by decide⟩
  have hat2 : cl2.slots[((0 : Int32)).toNatClampNeg]? = some (.int (-3 : Int32)) := Ha2.at hin2 rfl
  refine Goes.via (fun t k => X1.baloadBytes hx (j := (0 : Int32)) (v := (.int (-3 : Int32))) (by rw [e1]; exact Ar2.1) (State.isArrayOf_alike hZ.alike Ar2.2.1) Ar2.2.2 hin2 hat2 (g := (mkF m 37 #[.val (.ref t1), .val (.int (1 : Int32))] [(.int (0 : Int32)), (.ref t1)])) rfl rfl (hb hby d18_37) _ k) ?_
  show Goes p e below (T1.setTop (mkF m 38 #[.val (.ref t1), .val (.int (1 : Int32))] [(.int (-3 : Int32))])) _
  refine Goes.via (fun t k => XS.sipush X1.here hx rfl (hb hby d18_38) k) ?_
  show Goes p e below (T1.setTop (mkF m 41 #[.val (.ref t1), .val (.int (1 : Int32))] [(.int (255 : Int32)), (.int (-3 : Int32))])) _
  refine Goes.via (fun t k => XS.iand X1.here hx rfl (hb hby d18_41) rfl k) ?_
  show Goes p e below (T1.setTop (mkF m 42 #[.val (.ref t1), .val (.int (1 : Int32))] [(.int (253 : Int32))])) _
  obtain ⟨T3, X3, e3, st3⟩ := getS2 X1 hx hZ hown (host := "") (Or.inl (hw _ (List.mem_of_getElem? (i := 37) rfl))) Via.refl e1 (St.2.2.2.1.ext O0.2) (g := (mkF m 42 #[.val (.ref t1), .val (.int (1 : Int32))] [(.int (253 : Int32))])) rfl (hb hby d18_42)
  refine Goes.via st3 ?_
  show Goes p e below (T3.setTop (mkF m 45 #[.val (.ref t1), .val (.int (1 : Int32))] [(.int (0 : Int32)), (.int (253 : Int32))])) _
  refine Goes.via (fun t k => XS.ishl X3.here hx rfl (hb hby d18_45) rfl k) ?_
  show Goes p e below (T3.setTop (mkF m 46 #[.val (.ref t1), .val (.int (1 : Int32))] [(.int (253 : Int32))])) _
  refine Goes.via (fun t k => XS.aloadN X3.here hx rfl (hb hby d18_46) rfl rfl k) ?_
  show Goes p e below (T3.setTop (mkF m 47 #[.val (.ref t1), .val (.int (1 : Int32))] [(.ref t1), (.int (253 : Int32))])) _
  refine Goes.via (fun t k => XS.iloadN X3.here hx rfl (hb hby d18_47) rfl k) ?_
  show Goes p e below (T3.setTop (mkF m 48 #[.val (.ref t1), .val (.int (1 : Int32))] [(.int (1 : Int32)), (.ref t1), (.int (253 : Int32))])) _
  obtain ⟨cl4, Ar4, qa4, Sa4, Na4, Ha4, Ga4⟩ := id V1
  have hin4 : ¬ ((1 : Int32) < 0 ∨ cl4.slots.size ≤ ((1 : Int32)).toNatClampNeg) := inb_of Sa4 ⟨by decide, by decide⟩
  have hat4 : cl4.slots[((1 : Int32)).toNatClampNeg]? = some (.int (-1 : Int32)) := Ha4.at hin4 rfl
  refine Goes.via (fun t k => X3.baloadBytes hx (j := (1 : Int32)) (v := (.int (-1 : Int32))) (by rw [e3]; exact Ar4.1) (State.isArrayOf_alike hZ.alike Ar4.2.1) Ar4.2.2 hin4 hat4 (g := (mkF m 48 #[.val (.ref t1), .val (.int (1 : Int32))] [(.int (1 : Int32)), (.ref t1), (.int (253 : Int32))])) rfl rfl (hb hby d18_48) _ k) ?_
  show Goes p e below (T3.setTop (mkF m 49 #[.val (.ref t1), .val (.int (1 : Int32))] [(.int (-1 : Int32)), (.int (253 : Int32))])) _
  refine Goes.via (fun t k => XS.sipush X3.here hx rfl (hb hby d18_49) k) ?_
  show Goes p e below (T3.setTop (mkF m 52 #[.val (.ref t1), .val (.int (1 : Int32))] [(.int (255 : Int32)), (.int (-1 : Int32)), (.int (253 : Int32))])) _
  refine Goes.via (fun t k => XS.iand X3.here hx rfl (hb hby d18_52) rfl k) ?_
  show Goes p e below (T3.setTop (mkF m 53 #[.val (.ref t1), .val (.int (1 : Int32))] [(.int (255 : Int32)), (.int (253 : Int32))])) _
  obtain ⟨T5, X5, e5, st5⟩ := getS2 X3 hx hZ hown (host := "") (Or.inl (hw _ (List.mem_of_getElem? (i := 38) rfl))) Via.refl e3 (St.2.2.2.2.1.ext O0.2) (g := (mkF m 53 #[.val (.ref t1), .val (.int (1 : Int32))] [(.int (255 : Int32)), (.int (253 : Int32))])) rfl (hb hby d18_53)
  refine Goes.via st5 ?_
  show Goes p e below (T5.setTop (mkF m 56 #[.val (.ref t1), .val (.int (1 : Int32))] [(.int (8 : Int32)), (.int (255 : Int32)), (.int (253 : Int32))])) _
  refine Goes.via (fun t k => XS.ishl X5.here hx rfl (hb hby d18_56) rfl k) ?_
  show Goes p e below (T5.setTop (mkF m 57 #[.val (.ref t1), .val (.int (1 : Int32))] [(.int (65280 : Int32)), (.int (253 : Int32))])) _
  refine Goes.via (fun t k => XS.ior X5.here hx rfl (hb hby d18_57) rfl k) ?_
  show Goes p e below (T5.setTop (mkF m 58 #[.val (.ref t1), .val (.int (1 : Int32))] [(.int (65533 : Int32))])) _
  refine Goes.via (fun t k => XS.i2c X5.here hx rfl (hb hby d18_58) rfl k) ?_
  show Goes p e below (T5.setTop (mkF m 59 #[.val (.ref t1), .val (.int (1 : Int32))] [(.int (65533 : Int32))])) _
  obtain ⟨fs, hr, hrun, hended, hW, hsame⟩ := X5.leave (v := some (.int (65533 : Int32))) (fun h => by rw [Bd.returns] at h; cases h)
  refine ⟨_, _, ?_, hrun, hended, _, _, rfl, ?_, ⟨_, rfl⟩, hW, hsame.mono (by decide) (by decide)⟩
  · exact retN X5 hx (t := .char) Bd.returns (by simp) (hb hby d18_59) hr
  · show Q18 Z  h0 n0 _ T5.heap _
    rw [e5]
    exact ⟨rfl, N0, rfl⟩
theorem d13_0 : decode jdk_52_method_83_code 0 = .ok (.iload_n 1, 1) := by decide +kernel
theorem d13_1 : decode jdk_52_method_83_code 1 = .ok (.aload_n 0, 1) := by decide +kernel
theorem d13_2 : decode jdk_52_method_83_code 2 = .ok (.invokestatic 67, 3) := by decide +kernel
theorem d13_5 : decode jdk_52_method_83_code 5 = .ok (.aload_n 0, 1) := by decide +kernel
theorem d13_6 : decode jdk_52_method_83_code 6 = .ok (.iload_n 1, 1) := by decide +kernel
theorem d13_7 : decode jdk_52_method_83_code 7 = .ok (.invokestatic 71, 3) := by decide +kernel
theorem d13_10 : decode jdk_52_method_83_code 10 = .ok (.ireturn, 1) := by decide +kernel
theorem pn_13 : plainName "java/lang/StringUTF16" = true := by first | (simp [plainName, overriddenIn]; done) | decide +kernel
theorem pd_13_0 : parseMethodDescriptor "(I[B)V" = some ⟨[.int, (.array .byte)], none⟩ := by decide +kernel
theorem pd_13_1 : parseMethodDescriptor "([BI)C" = some ⟨[(.array .byte), .int], some .char⟩ := by decide +kernel
theorem ef_13 (m : MethodId) (x0 : Addr) : entryFrame m #[(.ref x0), (.int (0 : Int32))] 2 = mkF m 0 #[.val (.ref x0), .val (.int (0 : Int32))] [] := by first | (simp [entryFrame, mkF, argsToLocals, Value.category]; done) | rfl
def Q13 (Z : State) (h0 : Heap) (n0 : Nat) (v : Option Value) (h : Heap) (L : List Loc) : Prop := v = some (.int (65533 : Int32)) ∧ Fr n0 L ∧ h = h0
set_option maxRecDepth 65536 in
set_option maxHeartbeats 40000000 in
theorem rm13 (l : Launch) (Z : State) (a0 : Array Value) (hw : ∀ d ∈ tables_1, d.before a0 Z = true) (ws : List Jvm.Cond) (t1 : Addr) (k1 : ClassId) (w0 : Int32) (vF : Value) (h0 : Heap) (n0 : Nat) (Z0 : n0 ≤ h0.size) (V1 : Arv Z h0 t1 k1 .byte (2 : Int32) [(.int (-3 : Int32)), (.int (-1 : Int32))] (.int (0 : Int32))) (O0 : Old Z n0 h0) (St : own_St Z w0 vF) :
    MetFree l (⟨"java/lang/StringUTF16", "charAt", "([BI)C"⟩ : MethodName) (head1 (Jvm.Cond.code (⟨"java/lang/StringUTF16", "charAt", "([BI)C"⟩ : MethodName) jdk_52_method_83_code 2 (some .char) :: ws) ({ frames := 3, cells := 0, slots := 0, locals := 40 } : Room)) (fun a U => a = #[(.ref t1), (.int (0 : Int32))] ∧ Z.Warmed39 U.vm ∧ U.heap = h0) (fun _ _ _ _ _ => True) (fun _ U o U' => ∃ v L, o = .returned v ∧ Q13 Z  h0 n0 v U'.heap L ∧ FrameEnd U o U' L ({ frames := 3, cells := 0, slots := 0, locals := 40 } : Room).cells ({ frames := 3, cells := 0, slots := 0, locals := 40 } : Room).slots) := by
  refine MetFree.of_bodySF (plainFor_of_name pn_13) hisR ?_
  intro p e s m args below meth c s₁ Bd hml0 hP hK
  obtain ⟨rfl, hZ, hh⟩ := hP
  have hx := Bd.exec
  have hby := Bd.bytes
  have hml : c.maxLocals = 2 := hml0
  have hown : s.vm.findClass "java/lang/StringUTF16" = some m.cls := findClass_of_methodNamed Bd.named
  have hnm := (name_of_methodNamed Bd.named Bd.method).1
  have X0 : Stand p l e ({ frames := 3, cells := 0, slots := 0, locals := 40 } : Room) s m #[(.ref t1), (.int (0 : Int32))] below meth c s₁ [] 0 0 := Stand.of_body Bd
  have e0 : s₁.heap = h0 := by rw [← hh, Bd.state]; rfl
  have N0 := Fr.nil n0
  refine Goes.via (next := s₁.setTop (mkF m 0 #[.val (.ref t1), .val (.int (0 : Int32))] [])) (fun t k => castTop (ef_13 m t1) k) ?_
  refine Goes.via (fun t k => XS.iloadN X0.here hx rfl (hb hby d13_0) rfl k) ?_
  show Goes p e below (s₁.setTop (mkF m 1 #[.val (.ref t1), .val (.int (0 : Int32))] [(.int (0 : Int32))])) _
  refine Goes.via (fun t k => XS.aloadN X0.here hx rfl (hb hby d13_1) rfl rfl k) ?_
  show Goes p e below (s₁.setTop (mkF m 2 #[.val (.ref t1), .val (.int (0 : Int32))] [(.ref t1), (.int (0 : Int32))])) _
  obtain ⟨_, _, ⟨T1, L1, k1, n1⟩, -, X1, ⟨Lc1, hQ1, l1, y1, z1⟩, st1⟩ := Jvm.LawKit.callS X0 hx (y := (⟨"java/lang/StringUTF16", "checkIndex", "(I[B)V"⟩ : MethodName)) hown (mvT hZ (hw _ (List.mem_of_getElem? (i := 70) rfl))) (mvT hZ (hw _ (List.mem_of_getElem? (i := 71) rfl))) (mvT hZ (hw _ (List.mem_of_getElem? (i := 31) rfl))) (mvT hZ (hw _ (List.mem_of_getElem? (i := 72) rfl))) (by decide) (backOf (W := 0) (rm14 l Z a0 hw [] t1 k1 w0 vF h0 n0 Z0 V1 O0 St) hZ (hw _ (List.mem_of_getElem? (i := 72) rfl)) (hw _ (List.mem_of_getElem? (i := 31) rfl)) (by decide) (by decide)) (g := (mkF m 2 #[.val (.ref t1), .val (.int (0 : Int32))] [(.ref t1), (.int (0 : Int32))])) rfl (by rw [hml]; rfl) (argsL := [(.int (0 : Int32)), (.ref t1)]) (rest := []) (lenOf pd_13_0 rfl) rfl (by show 2 * 0 + _ ≤ _; exact Nat.le_of_eq rfl) (hb hby d13_2) (fun _ _ => ⟨rfl, e0, (by decide : 0 + 0 ≤ _), (by decide : 0 + 0 ≤ _)⟩)
  dsimp only [Pt.U, Pt.locs, Pt.cells, Pt.slots] at X1 l1 y1 z1 st1 hQ1
  subst l1 y1 z1
  obtain ⟨rfl, N1q, er1⟩ := hQ1
  have e1 : T1.heap = h0 := er1
  have N1 := Fr.app N0 N1q
  refine Goes.via st1 ?_
  show Goes p e below (T1.setTop (mkF m 5 #[.val (.ref t1), .val (.int (0 : Int32))] [])) _
  refine Goes.via (fun t k => XS.aloadN X1.here hx rfl (hb hby d13_5) rfl rfl k) ?_
  show Goes p e below (T1.setTop (mkF m 6 #[.val (.ref t1), .val (.int (0 : Int32))] [(.ref t1)])) _
  refine Goes.via (fun t k => XS.iloadN X1.here hx rfl (hb hby d13_6) rfl k) ?_
  show Goes p e below (T1.setTop (mkF m 7 #[.val (.ref t1), .val (.int (0 : Int32))] [(.int (0 : Int32)), (.ref t1)])) _
  obtain ⟨Lw2, X2w, N2w⟩ := ownPack X1 N1
  obtain ⟨_, _, ⟨T3, L3, k3, n3⟩, -, X3, ⟨Lc3, hQ3, l3, y3, z3⟩, st3⟩ := Jvm.LawKit.callS X2w hx (y := (⟨"java/lang/StringUTF16", "getChar", "([BI)C"⟩ : MethodName)) hown (mvT hZ (hw _ (List.mem_of_getElem? (i := 84) rfl))) (mvT hZ (hw _ (List.mem_of_getElem? (i := 85) rfl))) (mvT hZ (hw _ (List.mem_of_getElem? (i := 31) rfl))) (mvT hZ (hw _ (List.mem_of_getElem? (i := 86) rfl))) (by decide) (backOf (W := 0) (rm18 l Z a0 hw [] t1 k1 w0 vF h0 n0 Z0 V1 O0 St) hZ (hw _ (List.mem_of_getElem? (i := 86) rfl)) (hw _ (List.mem_of_getElem? (i := 31) rfl)) (by decide) (by decide)) (g := (mkF m 7 #[.val (.ref t1), .val (.int (0 : Int32))] [(.int (0 : Int32)), (.ref t1)])) rfl (by rw [hml]; rfl) (argsL := [(.ref t1), (.int (0 : Int32))]) (rest := []) (lenOf pd_13_1 rfl) rfl (by show 2 * 0 + _ ≤ _; exact Nat.le_of_eq rfl) (hb hby d13_7) (fun _ _ => ⟨rfl, e1, (by decide : 0 + 0 ≤ _), (by decide : 0 + 0 ≤ _)⟩)
  dsimp only [Pt.U, Pt.locs, Pt.cells, Pt.slots] at X3 l3 y3 z3 st3 hQ3
  subst l3 y3 z3
  obtain ⟨rfl, N3q, er3⟩ := hQ3
  have e3 : T3.heap = h0 := er3
  have N3 := Fr.app N2w N3q
  refine Goes.via st3 ?_
  show Goes p e below (T3.setTop (mkF m 10 #[.val (.ref t1), .val (.int (0 : Int32))] [(.int (65533 : Int32))])) _
  obtain ⟨fs, hr, hrun, hended, hW, hsame⟩ := X3.leave (v := some (.int (65533 : Int32))) (fun h => by rw [Bd.returns] at h; cases h)
  refine ⟨_, _, ?_, hrun, hended, _, _, rfl, ?_, ⟨_, rfl⟩, hW, hsame.mono (by decide) (by decide)⟩
  · exact retN X3 hx (t := .char) Bd.returns (by simp) (hb hby d13_10) hr
  · show Q13 Z  h0 n0 _ T3.heap _
    rw [e3]
    exact ⟨rfl, N3, rfl⟩
theorem d11_0 : decode jdk_42_method_56_code 0 = .ok (.aload_n 0, 1) := by decide +kernel
theorem d11_1 : decode jdk_42_method_56_code 1 = .ok (.invokevirtual 492, 3) := by decide +kernel
theorem d11_4 : decode jdk_42_method_56_code 4 = .ok (.ifCond .eq 12, 3) := by decide +kernel
theorem d11_16 : decode jdk_42_method_56_code 16 = .ok (.aload_n 0, 1) := by decide +kernel
theorem d11_17 : decode jdk_42_method_56_code 17 = .ok (.getfield 9, 3) := by decide +kernel
theorem d11_20 : decode jdk_42_method_56_code 20 = .ok (.iload_n 1, 1) := by decide +kernel
theorem d11_21 : decode jdk_42_method_56_code 21 = .ok (.invokestatic 498, 3) := by decide +kernel
theorem d11_24 : decode jdk_42_method_56_code 24 = .ok (.ireturn, 1) := by decide +kernel
theorem pn_11 : plainName "java/lang/String" = true := by first | (simp [plainName, overriddenIn]; done) | decide +kernel
theorem pd_11_0 : parseMethodDescriptor "()Z" = some ⟨[], some .boolean⟩ := by decide +kernel
theorem pd_11_1 : parseMethodDescriptor "([BI)C" = some ⟨[(.array .byte), .int], some .char⟩ := by decide +kernel
theorem ef_11 (m : MethodId) (x0 : Addr) : entryFrame m #[(.ref x0), (.int (0 : Int32))] 2 = mkF m 0 #[.val (.ref x0), .val (.int (0 : Int32))] [] := by first | (simp [entryFrame, mkF, argsToLocals, Value.category]; done) | rfl
def Q11 (Z : State) (h0 : Heap) (n0 : Nat) (v : Option Value) (h : Heap) (L : List Loc) : Prop := v = some (.int (65533 : Int32)) ∧ Fr n0 L ∧ h = h0
set_option maxRecDepth 65536 in
set_option maxHeartbeats 40000000 in
theorem rm11 (l : Launch) (Z : State) (a0 : Array Value) (hw : ∀ d ∈ tables_1, d.before a0 Z = true) (ws : List Jvm.Cond) (a1 : Addr) (t1 : Addr) (k1 : ClassId) (w0 : Int32) (vF : Value) (h0 : Heap) (n0 : Nat) (Z0 : n0 ≤ h0.size) (E1 : Exa Z h0 a1 "java/lang/String") (Fv : Fld Z h0 a1 "java/lang/String" "value" "[B" (.ref t1)) (Fc : Fld Z h0 a1 "java/lang/String" "coder" "B" (.int (1 : Int32))) (V1 : Arv Z h0 t1 k1 .byte (2 : Int32) [(.int (-3 : Int32)), (.int (-1 : Int32))] (.int (0 : Int32))) (O0 : Old Z n0 h0) (St : own_St Z w0 vF) :
    MetFree l (⟨"java/lang/String", "charAt", "(I)C"⟩ : MethodName) (head1 (Jvm.Cond.code (⟨"java/lang/String", "charAt", "(I)C"⟩ : MethodName) jdk_42_method_56_code 2 (some .char) :: ws) ({ frames := 4, cells := 0, slots := 0, locals := 53 } : Room)) (fun a U => a = #[(.ref a1), (.int (0 : Int32))] ∧ Z.Warmed39 U.vm ∧ U.heap = h0) (fun _ _ _ _ _ => True) (fun _ U o U' => ∃ v L, o = .returned v ∧ Q11 Z  h0 n0 v U'.heap L ∧ FrameEnd U o U' L ({ frames := 4, cells := 0, slots := 0, locals := 53 } : Room).cells ({ frames := 4, cells := 0, slots := 0, locals := 53 } : Room).slots) := by
  refine MetFree.of_bodySF (plainFor_of_name pn_11) hisR ?_
  intro p e s m args below meth c s₁ Bd hml0 hP hK
  obtain ⟨rfl, hZ, hh⟩ := hP
  have hx := Bd.exec
  have hby := Bd.bytes
  have hml : c.maxLocals = 2 := hml0
  have hown : s.vm.findClass "java/lang/String" = some m.cls := findClass_of_methodNamed Bd.named
  have hnm := (name_of_methodNamed Bd.named Bd.method).1
  have X0 : Stand p l e ({ frames := 4, cells := 0, slots := 0, locals := 53 } : Room) s m #[(.ref a1), (.int (0 : Int32))] below meth c s₁ [] 0 0 := Stand.of_body Bd
  have e0 : s₁.heap = h0 := by rw [← hh, Bd.state]; rfl
  have N0 := Fr.nil n0
  refine Goes.via (next := s₁.setTop (mkF m 0 #[.val (.ref a1), .val (.int (0 : Int32))] [])) (fun t k => castTop (ef_11 m a1) k) ?_
  refine Goes.via (fun t k => XS.aloadN X0.here hx rfl (hb hby d11_0) rfl rfl k) ?_
  show Goes p e below (s₁.setTop (mkF m 1 #[.val (.ref a1), .val (.int (0 : Int32))] [(.ref a1)])) _
  obtain ⟨cq1, kq1, q1a, q1b, q1c⟩ := isOf hZ e0 E1
  obtain ⟨_, _, ⟨T1, L1, k1, n1⟩, -, X1, ⟨Lc1, hQ1, l1, y1, z1⟩, st1⟩ := X0.virtualBack hx (y := (⟨"java/lang/String", "isLatin1", "()Z"⟩ : MethodName)) (z := (⟨"java/lang/String", "isLatin1", "()Z"⟩ : MethodName)) hown (mvT hZ (hw _ (List.mem_of_getElem? (i := 62) rfl))) (mvT hZ (hw _ (List.mem_of_getElem? (i := 63) rfl))) (notFace_of_selects (args := #[]) (mvT hZ (hw _ (List.mem_of_getElem? (i := 65) rfl)))) (mvT hZ (hw _ (List.mem_of_getElem? (i := 65) rfl))) (mvT hZ (hw _ (List.mem_of_getElem? (i := 64) rfl))) (by decide) (backOf (W := 0) (rm12 l Z a0 hw [] a1 w0 vF h0 n0 Z0 Fc O0 St) hZ (hw _ (List.mem_of_getElem? (i := 66) rfl)) (hw _ (List.mem_of_getElem? (i := 7) rfl)) (by decide) (by decide)) q1a q1c (g := (mkF m 1 #[.val (.ref a1), .val (.int (0 : Int32))] [(.ref a1)])) rfl (by rw [hml]; rfl) (Steps.refl _) (argsL := []) (rest := []) (lenOf pd_11_0 rfl) rfl (by show 2 * 0 + _ ≤ _; exact Nat.le_of_eq rfl) (hb hby d11_1) (fun _ _ => ⟨rfl, e0, (by decide : 0 + 0 ≤ _), (by decide : 0 + 0 ≤ _)⟩)
  dsimp only [Pt.U, Pt.locs, Pt.cells, Pt.slots] at X1 l1 y1 z1 st1 hQ1
  subst l1 y1 z1
  obtain ⟨rfl, N1q, er1⟩ := hQ1
  have e1 : T1.heap = h0 := er1
  have N1 := Fr.app N0 N1q
  refine Goes.via (fun t k => st1.trans k) ?_
  show Goes p e below (T1.setTop (mkF m 4 #[.val (.ref a1), .val (.int (0 : Int32))] [(.int (0 : Int32))])) _
  refine Goes.via (fun t k => XS.ifYes X1.here hx rfl (pc0 := 4) (pc' := 16) rfl (hb hby d11_4) rfl ((if0 _ _).trans (teq (show (0 : Int32) = (0 : Int32) from rfl)).1) (by decide) (by decide) k) ?_
  show Goes p e below (T1.setTop (mkF m 16 #[.val (.ref a1), .val (.int (0 : Int32))] [])) _
  refine Goes.via (fun t k => XS.aloadN X1.here hx rfl (hb hby d11_16) rfl rfl k) ?_
  show Goes p e below (T1.setTop (mkF m 17 #[.val (.ref a1), .val (.int (0 : Int32))] [(.ref a1)])) _
  obtain ⟨T2, X2, e2, st2⟩ := getF X1 hx hZ hown (host := "") (Or.inl (hw _ (List.mem_of_getElem? (i := 18) rfl))) Via.refl e1 Fv (g := (mkF m 17 #[.val (.ref a1), .val (.int (0 : Int32))] [(.ref a1)])) rfl rfl (hb hby d11_17)
  refine Goes.via st2 ?_
  show Goes p e below (T2.setTop (mkF m 20 #[.val (.ref a1), .val (.int (0 : Int32))] [(.ref t1)])) _
  refine Goes.via (fun t k => XS.iloadN X2.here hx rfl (hb hby d11_20) rfl k) ?_
  show Goes p e below (T2.setTop (mkF m 21 #[.val (.ref a1), .val (.int (0 : Int32))] [(.int (0 : Int32)), (.ref t1)])) _
  obtain ⟨Lw3, X3w, N3w⟩ := ownPack X2 N1
  obtain ⟨_, _, ⟨T4, L4, k4, n4⟩, -, X4, ⟨Lc4, hQ4, l4, y4, z4⟩, st4⟩ := Jvm.LawKit.callS X3w hx (y := (⟨"java/lang/StringUTF16", "charAt", "([BI)C"⟩ : MethodName)) hown (mvT hZ (hw _ (List.mem_of_getElem? (i := 67) rfl))) (mvT hZ (hw _ (List.mem_of_getElem? (i := 68) rfl))) (mvT hZ (hw _ (List.mem_of_getElem? (i := 31) rfl))) (mvT hZ (hw _ (List.mem_of_getElem? (i := 69) rfl))) (by decide) (backOf (W := 0) (rm13 l Z a0 hw [] t1 k1 w0 vF h0 n0 Z0 V1 O0 St) hZ (hw _ (List.mem_of_getElem? (i := 69) rfl)) (hw _ (List.mem_of_getElem? (i := 31) rfl)) (by decide) (by decide)) (g := (mkF m 21 #[.val (.ref a1), .val (.int (0 : Int32))] [(.int (0 : Int32)), (.ref t1)])) rfl (by rw [hml]; rfl) (argsL := [(.ref t1), (.int (0 : Int32))]) (rest := []) (lenOf pd_11_1 rfl) rfl (by show 2 * 0 + _ ≤ _; exact Nat.le_of_eq rfl) (hb hby d11_21) (fun _ _ => ⟨rfl, e2, (by decide : 0 + 0 ≤ _), (by decide : 0 + 0 ≤ _)⟩)
  dsimp only [Pt.U, Pt.locs, Pt.cells, Pt.slots] at X4 l4 y4 z4 st4 hQ4
  subst l4 y4 z4
  obtain ⟨rfl, N4q, er4⟩ := hQ4
  have e4 : T4.heap = h0 := er4
  have N4 := Fr.app N3w N4q
  refine Goes.via st4 ?_
  show Goes p e below (T4.setTop (mkF m 24 #[.val (.ref a1), .val (.int (0 : Int32))] [(.int (65533 : Int32))])) _
  obtain ⟨fs, hr, hrun, hended, hW, hsame⟩ := X4.leave (v := some (.int (65533 : Int32))) (fun h => by rw [Bd.returns] at h; cases h)
  refine ⟨_, _, ?_, hrun, hended, _, _, rfl, ?_, ⟨_, rfl⟩, hW, hsame.mono (by decide) (by decide)⟩
  · exact retN X4 hx (t := .char) Bd.returns (by simp) (hb hby d11_24) hr
  · show Q11 Z  h0 n0 _ T4.heap _
    rw [e4]
    exact ⟨rfl, N4, rfl⟩
theorem own_len (x : Int32) : (x &&& (3 : Int32)) = 0 ∨ (x &&& (3 : Int32)) = 1 ∨ (x &&& (3 : Int32)) = 2 ∨ (x &&& (3 : Int32)) = 3 := by
  have a1 := c_mask x 3 2 (by decide) (by decide)
  have hp : ((2 ^ 2 : Nat) : Int) = 4 := by decide
  rw [hp] at a1
  simp only [← Int32.toInt_inj, a1, show (0 : Int32).toInt = 0 from by decide, show (1 : Int32).toInt = 1 from by decide, show (2 : Int32).toInt = 2 from by decide, show (3 : Int32).toInt = 3 from by decide]
  omega
theorem own_ne {x y : Int32} (h : x < y) : ¬ x = y := by
  intro q
  rw [q, Int32.lt_iff_toInt_lt] at h
  omega
theorem own_start (x y : Int32) (d : Int) (hy : y.toInt = d) (hd : 0 < d) : 0 ≤ ((x &&& (2147483647 : Int32)) % y).toInt ∧ ((x &&& (2147483647 : Int32)) % y).toInt < d := by
  have a1 := c_mask x 2147483647 31 (by decide) (by decide)
  have a2 := (c_irem (x &&& 2147483647) y d hy).1
  have hp : ((2 ^ 31 : Nat) : Int) = 2147483648 := by decide
  rw [hp] at a1
  rw [a2 (by omega)]
  exact ⟨Int.emod_nonneg _ (by omega), Int.emod_lt_of_pos _ hd⟩
theorem own_eq0 (x : Int32) (h : ¬ ((x &&& (2147483647 : Int32)) % (1 : Int32)) < (0 : Int32)) : ((x &&& (2147483647 : Int32)) % (1 : Int32)) = (0 : Int32) := by
  have := own_start x 1 1 (by decide) (by decide)
  apply Int32.toInt_inj.mp
  rw [Int32.lt_iff_toInt_lt, show (0 : Int32).toInt = 0 from by decide] at h
  rw [show (0 : Int32).toInt = 0 from by decide]
  omega
theorem own_eq1 (x : Int32) (h : ¬ ((x &&& (2147483647 : Int32)) % (2 : Int32)) < (1 : Int32)) : ((x &&& (2147483647 : Int32)) % (2 : Int32)) = (1 : Int32) := by
  have := own_start x 2 2 (by decide) (by decide)
  apply Int32.toInt_inj.mp
  rw [Int32.lt_iff_toInt_lt, show (1 : Int32).toInt = 1 from by decide] at h
  rw [show (1 : Int32).toInt = 1 from by decide]
  omega
theorem own_eq2 (x : Int32) (h : ¬ ((x &&& (2147483647 : Int32)) % (3 : Int32)) < (2 : Int32)) : ((x &&& (2147483647 : Int32)) % (3 : Int32)) = (2 : Int32) := by
  have := own_start x 3 3 (by decide) (by decide)
  apply Int32.toInt_inj.mp
  rw [Int32.lt_iff_toInt_lt, show (2 : Int32).toInt = 2 from by decide] at h
  rw [show (2 : Int32).toInt = 2 from by decide]
  omega
theorem own_eq3 (x : Int32) (h : ¬ ((x &&& (2147483647 : Int32)) % (4 : Int32)) < (3 : Int32)) : ((x &&& (2147483647 : Int32)) % (4 : Int32)) = (3 : Int32) := by
  have := own_start x 4 4 (by decide) (by decide)
  apply Int32.toInt_inj.mp
  rw [Int32.lt_iff_toInt_lt, show (3 : Int32).toInt = 3 from by decide] at h
  rw [show (3 : Int32).toInt = 3 from by decide]
  omega
theorem pn_0 : plainName "cascabel/parser/DecodersReplacementPinLaw" = true := by first | (simp [plainName, overriddenIn]; done) | decide +kernel
theorem pd_0_0 : parseMethodDescriptor "([BI)Ljava/lang/String;" = some ⟨[(.array .byte), .int], some (.object "java/lang/String")⟩ := by decide +kernel
theorem pd_0_1 : parseMethodDescriptor "()I" = some ⟨[], some .int⟩ := by decide +kernel
theorem pd_0_2 : parseMethodDescriptor "(I)C" = some ⟨[.int], some .char⟩ := by decide +kernel
theorem pd_0_3 : parseMethodDescriptor "()Z" = some ⟨[], some .boolean⟩ := by decide +kernel
theorem ef_0 (m : MethodId) (x0 : Int32) (x1 : Int32) (x2 : Int32) (x3 : Int32) (x4 : Int32) : entryFrame m #[(.int x0), (.int x1), (.int x2), (.int x3), (.int x4)] maxLocals = mkF m 0 #[.val (.int x0), .val (.int x1), .val (.int x2), .val (.int x3), .val (.int x4), .unset, .unset, .unset, .unset] [] := by first | (simp [entryFrame, mkF, argsToLocals, Value.category, maxLocals]; done) | rfl
def Q0 (Z : State) (h0 : Heap) (n0 : Nat) (v : Option Value) (h : Heap) (vm : Vm) (L : List Loc) : Prop := v = some (.int 1) ∧ Fr n0 L
set_option maxRecDepth 65536 in
set_option maxHeartbeats 40000000 in
theorem rm0 (l : Launch) (Z : State) (a0 : Array Value) (hw : ∀ d ∈ tables_1, d.before a0 Z = true) (ws : List Jvm.Cond) (p1 : Int32) (p2 : Int32) (p3 : Int32) (p4 : Int32) (p5 : Int32) (w0 : Int32) (vF : Value) (h0 : Heap) (n0 : Nat) (Z0 : n0 ≤ h0.size) (O0 : Old Z n0 h0) (St : own_St Z w0 vF) (hcH : Jvm.Lit.constHeld Z "cascabel/parser/Decoders" 23) (hcw : Jvm.Lit.compactW.before a0 Z = true) :
    MetFree l x (head1 (Jvm.Cond.code x code maxLocals ret :: ws) room_1) (fun a U => a = #[(.int p1), (.int p2), (.int p3), (.int p4), (.int p5)] ∧ Z.Warmed39 U.vm ∧ U.heap = h0 ∧ IB Z U.vm []) (fun _ _ _ _ _ => True) (fun _ U o U' => ∃ v L, o = .returned v ∧ Q0 Z  h0 n0 v U'.heap U'.vm L ∧ ReturnedEndW U o U' L room_1.cells room_1.slots) := by
  refine MetFree.of_bodySF (plainFor_of_name pn_0) hisR ?_
  intro p e s m args below meth c s₁ Bd hml0 hP hK
  obtain ⟨rfl, hZ, hh, hI⟩ := hP
  have hx := Bd.exec
  have hby := Bd.bytes
  have hml : c.maxLocals = 9 := hml0
  have hown : s.vm.findClass "cascabel/parser/DecodersReplacementPinLaw" = some m.cls := findClass_of_methodNamed Bd.named
  have hnm := (name_of_methodNamed Bd.named Bd.method).1
  have X0 : Stand p l e room_1 (s.setVm s.vm) m #[(.int p1), (.int p2), (.int p3), (.int p4), (.int p5)] below meth c s₁ [] 0 0 := Stand.of_body Bd
  have e0 : s₁.heap = h0 := by rw [← hh, Bd.state]; rfl
  have N0 := Fr.nil n0
  have hS : s.Since s.vm 0 := (State.WarmedH.refl s).since 0
  have hk : 0 ≤ h0.size := Nat.zero_le _
  refine Goes.via (next := s₁.setTop (mkF m 0 #[.val (.int p1), .val (.int p2), .val (.int p3), .val (.int p4), .val (.int p5), .unset, .unset, .unset, .unset] [])) (fun t k => castTop (ef_0 m p1 p2 p3 p4 p5) k) ?_
  refine Goes.via (fun t k => XS.iloadN X0.here hx rfl (hb hby at_0) rfl k) ?_
  show Goes p e below (s₁.setTop (mkF m 1 #[.val (.int p1), .val (.int p2), .val (.int p3), .val (.int p4), .val (.int p5), .unset, .unset, .unset, .unset] [(.int p1)])) _
  refine Goes.via (fun t k => XS.iconst X0.here hx rfl (hb hby at_1) k) ?_
  show Goes p e below (s₁.setTop (mkF m 2 #[.val (.int p1), .val (.int p2), .val (.int p3), .val (.int p4), .val (.int p5), .unset, .unset, .unset, .unset] [(.int (3 : Int32)), (.int p1)])) _
  refine Goes.via (fun t k => XS.iand X0.here hx rfl (hb hby at_2) rfl k) ?_
  show Goes p e below (s₁.setTop (mkF m 3 #[.val (.int p1), .val (.int p2), .val (.int p3), .val (.int p4), .val (.int p5), .unset, .unset, .unset, .unset] [(.int (p1 &&& (3 : Int32)))])) _
  rcases own_len p1 with hl | hl | hl | hl
  · rw [hl]
    show Goes p e below (s₁.setTop (mkF m 3 #[.val (.int p1), .val (.int p2), .val (.int p3), .val (.int p4), .val (.int p5), .unset, .unset, .unset, .unset] [(.int (0 : Int32))])) _
    refine Goes.via (fun t k => XS.istore X0.here hx rfl (hb hby at_3) rfl (l' := #[.val (.int p1), .val (.int p2), .val (.int p3), .val (.int p4), .val (.int p5), .val (.int (0 : Int32)), .unset, .unset, .unset]) rfl k) ?_
    show Goes p e below (s₁.setTop (mkF m 5 #[.val (.int p1), .val (.int p2), .val (.int p3), .val (.int p4), .val (.int p5), .val (.int (0 : Int32)), .unset, .unset, .unset] [])) _
    refine Goes.via (fun t k => XS.iload X0.here hx rfl (hb hby at_5) rfl k) ?_
    show Goes p e below (s₁.setTop (mkF m 7 #[.val (.int p1), .val (.int p2), .val (.int p3), .val (.int p4), .val (.int p5), .val (.int (0 : Int32)), .unset, .unset, .unset] [(.int (0 : Int32))])) _
    obtain ⟨T1, h1, k1, X1, e1, E1, A1, st1⟩ := newP X0 hx hZ (hw _ (List.mem_of_getElem? (i := 0) rfl)) e0 (g := (mkF m 7 #[.val (.int p1), .val (.int p2), .val (.int p3), .val (.int p4), .val (.int p5), .val (.int (0 : Int32)), .unset, .unset, .unset] [(.int (0 : Int32))])) rfl (hb hby at_7) rfl (by decide) (cap := 0) (by decide) (by decide) (by decide) (by decide)
    obtain ⟨b1, g1⟩ : ∃ z, z = h0.size := ⟨_, rfl⟩
    rw [← g1] at A1 st1
    have ge_b1 : n0 ≤ b1 := Nat.le_trans Z0 (Nat.le_of_eq g1.symm)
    have sz_b1 : h0.size ≤ b1 := Nat.le_trans (Keep.refl h0 []).1 (Nat.le_of_eq g1.symm)
    have K1 : Keep h0 h1 [] := (Keep.refl h0 []).ext E1
    have Z1 : n0 ≤ h1.size := Nat.le_trans Z0 E1.1
    have O1 := O0.ext E1
    have hk := Nat.le_trans hk E1.1
    have V1 : Arv Z h1 b1 k1 .byte (0 : Int32) [] (.int (0 : Int32)) := (Arv.new A1 (by decide)).pad (pad_rep [] (.int (0 : Int32)) 0)
    refine Goes.via st1 ?_
    show Goes p e below (T1.setTop (mkF m 9 #[.val (.int p1), .val (.int p2), .val (.int p3), .val (.int p4), .val (.int p5), .val (.int (0 : Int32)), .unset, .unset, .unset] [(.ref b1)])) _
    refine Goes.via (fun t k => XS.astore X1.here hx rfl (hb hby at_9) rfl rfl (l' := #[.val (.int p1), .val (.int p2), .val (.int p3), .val (.int p4), .val (.int p5), .val (.int (0 : Int32)), .val (.ref b1), .unset, .unset]) rfl k) ?_
    show Goes p e below (T1.setTop (mkF m 11 #[.val (.int p1), .val (.int p2), .val (.int p3), .val (.int p4), .val (.int p5), .val (.int (0 : Int32)), .val (.ref b1), .unset, .unset] [])) _
    refine Goes.via (fun t k => XS.iload X1.here hx rfl (hb hby at_11) rfl k) ?_
    show Goes p e below (T1.setTop (mkF m 13 #[.val (.int p1), .val (.int p2), .val (.int p3), .val (.int p4), .val (.int p5), .val (.int (0 : Int32)), .val (.ref b1), .unset, .unset] [(.int (0 : Int32))])) _
    refine Goes.via (fun t k => XS.ifYes X1.here hx rfl (pc0 := 13) (pc' := 22) rfl (hb hby at_13) rfl ((if0 _ _).trans (flt (show ¬ ((0 : Int32) < (0 : Int32)) from (by decide))).2.2.2) (by decide) (by decide) k) ?_
    show Goes p e below (T1.setTop (mkF m 22 #[.val (.int p1), .val (.int p2), .val (.int p3), .val (.int p4), .val (.int p5), .val (.int (0 : Int32)), .val (.ref b1), .unset, .unset] [])) _
    refine Goes.via (fun t k => XS.iload X1.here hx rfl (hb hby at_22) rfl k) ?_
    show Goes p e below (T1.setTop (mkF m 24 #[.val (.int p1), .val (.int p2), .val (.int p3), .val (.int p4), .val (.int p5), .val (.int (0 : Int32)), .val (.ref b1), .unset, .unset] [(.int (0 : Int32))])) _
    refine Goes.via (fun t k => XS.iconst X1.here hx rfl (hb hby at_24) k) ?_
    show Goes p e below (T1.setTop (mkF m 25 #[.val (.int p1), .val (.int p2), .val (.int p3), .val (.int p4), .val (.int p5), .val (.int (0 : Int32)), .val (.ref b1), .unset, .unset] [(.int (1 : Int32)), (.int (0 : Int32))])) _
    refine Goes.via (fun t k => XS.icmpYes X1.here hx rfl (pc0 := 25) (pc' := 34) rfl (hb hby at_25) rfl (flt (show ¬ ((1 : Int32) < (0 : Int32)) from (by decide))).2.2.2 (by decide) (by decide) k) ?_
    show Goes p e below (T1.setTop (mkF m 34 #[.val (.int p1), .val (.int p2), .val (.int p3), .val (.int p4), .val (.int p5), .val (.int (0 : Int32)), .val (.ref b1), .unset, .unset] [])) _
    refine Goes.via (fun t k => XS.iload X1.here hx rfl (hb hby at_34) rfl k) ?_
    show Goes p e below (T1.setTop (mkF m 36 #[.val (.int p1), .val (.int p2), .val (.int p3), .val (.int p4), .val (.int p5), .val (.int (0 : Int32)), .val (.ref b1), .unset, .unset] [(.int (0 : Int32))])) _
    refine Goes.via (fun t k => XS.iconst X1.here hx rfl (hb hby at_36) k) ?_
    show Goes p e below (T1.setTop (mkF m 37 #[.val (.int p1), .val (.int p2), .val (.int p3), .val (.int p4), .val (.int p5), .val (.int (0 : Int32)), .val (.ref b1), .unset, .unset] [(.int (2 : Int32)), (.int (0 : Int32))])) _
    refine Goes.via (fun t k => XS.icmpYes X1.here hx rfl (pc0 := 37) (pc' := 47) rfl (hb hby at_37) rfl (flt (show ¬ ((2 : Int32) < (0 : Int32)) from (by decide))).2.2.2 (by decide) (by decide) k) ?_
    show Goes p e below (T1.setTop (mkF m 47 #[.val (.int p1), .val (.int p2), .val (.int p3), .val (.int p4), .val (.int p5), .val (.int (0 : Int32)), .val (.ref b1), .unset, .unset] [])) _
    refine Goes.via (fun t k => XS.iloadN X1.here hx rfl (hb hby at_47) rfl k) ?_
    show Goes p e below (T1.setTop (mkF m 48 #[.val (.int p1), .val (.int p2), .val (.int p3), .val (.int p4), .val (.int p5), .val (.int (0 : Int32)), .val (.ref b1), .unset, .unset] [(.int p2)])) _
    refine Goes.via (fun t k => X1.ldcInt hx hown (mvT hZ (hw _ (List.mem_of_getElem? (i := 1) rfl))) (g := (mkF m 48 #[.val (.int p1), .val (.int p2), .val (.int p3), .val (.int p4), .val (.int p5), .val (.int (0 : Int32)), .val (.ref b1), .unset, .unset] [(.int p2)])) rfl (hb hby at_48) _ k) ?_
    show Goes p e below (T1.setTop (mkF m 50 #[.val (.int p1), .val (.int p2), .val (.int p3), .val (.int p4), .val (.int p5), .val (.int (0 : Int32)), .val (.ref b1), .unset, .unset] [(.int (2147483647 : Int32)), (.int p2)])) _
    refine Goes.via (fun t k => XS.iand X1.here hx rfl (hb hby at_50) rfl k) ?_
    show Goes p e below (T1.setTop (mkF m 51 #[.val (.int p1), .val (.int p2), .val (.int p3), .val (.int p4), .val (.int p5), .val (.int (0 : Int32)), .val (.ref b1), .unset, .unset] [(.int (p2 &&& (2147483647 : Int32)))])) _
    refine Goes.via (fun t k => XS.iload X1.here hx rfl (hb hby at_51) rfl k) ?_
    show Goes p e below (T1.setTop (mkF m 53 #[.val (.int p1), .val (.int p2), .val (.int p3), .val (.int p4), .val (.int p5), .val (.int (0 : Int32)), .val (.ref b1), .unset, .unset] [(.int (0 : Int32)), (.int (p2 &&& (2147483647 : Int32)))])) _
    refine Goes.via (fun t k => XS.iconst X1.here hx rfl (hb hby at_53) k) ?_
    show Goes p e below (T1.setTop (mkF m 54 #[.val (.int p1), .val (.int p2), .val (.int p3), .val (.int p4), .val (.int p5), .val (.int (0 : Int32)), .val (.ref b1), .unset, .unset] [(.int (1 : Int32)), (.int (0 : Int32)), (.int (p2 &&& (2147483647 : Int32)))])) _
    refine Goes.via (fun t k => XS.iadd X1.here hx rfl (hb hby at_54) rfl k) ?_
    show Goes p e below (T1.setTop (mkF m 55 #[.val (.int p1), .val (.int p2), .val (.int p3), .val (.int p4), .val (.int p5), .val (.int (0 : Int32)), .val (.ref b1), .unset, .unset] [(.int (1 : Int32)), (.int (p2 &&& (2147483647 : Int32)))])) _
    refine Goes.via (fun t k => iremM X1 hx rfl (hb hby at_55) rfl (by decide) k) ?_
    show Goes p e below (T1.setTop (mkF m 56 #[.val (.int p1), .val (.int p2), .val (.int p3), .val (.int p4), .val (.int p5), .val (.int (0 : Int32)), .val (.ref b1), .unset, .unset] [(.int ((p2 &&& (2147483647 : Int32)) % (1 : Int32)))])) _
    refine Goes.via (fun t k => XS.istore X1.here hx rfl (hb hby at_56) rfl (l' := #[.val (.int p1), .val (.int p2), .val (.int p3), .val (.int p4), .val (.int p5), .val (.int (0 : Int32)), .val (.ref b1), .val (.int ((p2 &&& (2147483647 : Int32)) % (1 : Int32))), .unset]) rfl k) ?_
    show Goes p e below (T1.setTop (mkF m 58 #[.val (.int p1), .val (.int p2), .val (.int p3), .val (.int p4), .val (.int p5), .val (.int (0 : Int32)), .val (.ref b1), .val (.int ((p2 &&& (2147483647 : Int32)) % (1 : Int32))), .unset] [])) _
    refine Goes.via (fun t k => XS.aload X1.here hx rfl (hb hby at_58) rfl rfl k) ?_
    show Goes p e below (T1.setTop (mkF m 60 #[.val (.int p1), .val (.int p2), .val (.int p3), .val (.int p4), .val (.int p5), .val (.int (0 : Int32)), .val (.ref b1), .val (.int ((p2 &&& (2147483647 : Int32)) % (1 : Int32))), .unset] [(.ref b1)])) _
    refine Goes.via (fun t k => XS.iload X1.here hx rfl (hb hby at_60) rfl k) ?_
    show Goes p e below (T1.setTop (mkF m 62 #[.val (.int p1), .val (.int p2), .val (.int p3), .val (.int p4), .val (.int p5), .val (.int (0 : Int32)), .val (.ref b1), .val (.int ((p2 &&& (2147483647 : Int32)) % (1 : Int32))), .unset] [(.int ((p2 &&& (2147483647 : Int32)) % (1 : Int32))), (.ref b1)])) _
    by_cases hs : ((p2 &&& (2147483647 : Int32)) % (1 : Int32)) < (0 : Int32)
    · show Goes p e below (T1.setTop (mkF m 62 #[.val (.int p1), .val (.int p2), .val (.int p3), .val (.int p4), .val (.int p5), .val (.int (0 : Int32)), .val (.ref b1), .val (.int ((p2 &&& (2147483647 : Int32)) % (1 : Int32))), .unset] [(.int ((p2 &&& (2147483647 : Int32)) % (1 : Int32))), (.ref b1)])) _
      obtain ⟨_, _, ⟨T2, L2, k2, n2⟩, -, X2, ⟨Lc2, hQ2, l2, y2, z2⟩, st2⟩ := Jvm.LawKit.callS X1 hx (y := (⟨"cascabel/parser/Decoders", "replacement", "([BI)Ljava/lang/String;"⟩ : MethodName)) hown (mvT hZ (hw _ (List.mem_of_getElem? (i := 2) rfl))) (mvT hZ (hw _ (List.mem_of_getElem? (i := 3) rfl))) (mvT hZ (hw _ (List.mem_of_getElem? (i := 4) rfl))) (mvT hZ (hw _ (List.mem_of_getElem? (i := 5) rfl))) (by decide) (backOf (W := 0) (rm1a l Z a0 hw [] b1 ((p2 &&& (2147483647 : Int32)) % (1 : Int32)) (0 : Int32) k1 [] w0 vF h1 n0 Z1 V1 hs O1 St) hZ (hw _ (List.mem_of_getElem? (i := 5) rfl)) (hw _ (List.mem_of_getElem? (i := 4) rfl)) (by decide) (by decide)) (g := (mkF m 62 #[.val (.int p1), .val (.int p2), .val (.int p3), .val (.int p4), .val (.int p5), .val (.int (0 : Int32)), .val (.ref b1), .val (.int ((p2 &&& (2147483647 : Int32)) % (1 : Int32))), .unset] [(.int ((p2 &&& (2147483647 : Int32)) % (1 : Int32))), (.ref b1)])) rfl (by rw [hml]; rfl) (argsL := [(.ref b1), (.int ((p2 &&& (2147483647 : Int32)) % (1 : Int32)))]) (rest := []) (lenOf pd_0_0 rfl) rfl (by show 2 * 0 + _ ≤ _; exact Nat.le_of_eq rfl) (hb hby at_62) (fun _ _ => ⟨rfl, e1, (by decide : 1 + 2 ≤ _), (by decide : 0 + 6 ≤ _)⟩)
      dsimp only [Pt.U, Pt.locs, Pt.cells, Pt.slots] at X2 l2 y2 z2 st2 hQ2
      subst l2 y2 z2
      obtain ⟨r2, t2, kt2, rfl, N2q, gr2, Kc2, Ex2, Vq2, Cq2, Vc2⟩ := hQ2
      have F2_4 := V1.keep Kc2 List.not_mem_nil
      have K2 : Keep h0 T2.heap [] := K1.trans Kc2 (fun x hx => nomatch hx)
      have Z2 : n0 ≤ T2.heap.size := Nat.le_trans Z1 Kc2.1
      have O2 := O1.keep Kc2 (fun x hx => nomatch hx)
      have hk := Nat.le_trans hk Kc2.1
      have N2 := Fr.app N0 N2q
      refine Goes.via st2 ?_
      show Goes p e below (T2.setTop (mkF m 65 #[.val (.int p1), .val (.int p2), .val (.int p3), .val (.int p4), .val (.int p5), .val (.int (0 : Int32)), .val (.ref b1), .val (.int ((p2 &&& (2147483647 : Int32)) % (1 : Int32))), .unset] [(.ref r2)])) _
      refine Goes.via (fun t k => XS.astore X2.here hx rfl (hb hby at_65) rfl rfl (l' := #[.val (.int p1), .val (.int p2), .val (.int p3), .val (.int p4), .val (.int p5), .val (.int (0 : Int32)), .val (.ref b1), .val (.int ((p2 &&& (2147483647 : Int32)) % (1 : Int32))), .val (.ref r2)]) rfl k) ?_
      show Goes p e below (T2.setTop (mkF m 67 #[.val (.int p1), .val (.int p2), .val (.int p3), .val (.int p4), .val (.int p5), .val (.int (0 : Int32)), .val (.ref b1), .val (.int ((p2 &&& (2147483647 : Int32)) % (1 : Int32))), .val (.ref r2)] [])) _
      refine Goes.via (fun t k => XS.aload X2.here hx rfl (hb hby at_67) rfl rfl k) ?_
      show Goes p e below (T2.setTop (mkF m 69 #[.val (.int p1), .val (.int p2), .val (.int p3), .val (.int p4), .val (.int p5), .val (.int (0 : Int32)), .val (.ref b1), .val (.int ((p2 &&& (2147483647 : Int32)) % (1 : Int32))), .val (.ref r2)] [(.ref r2)])) _
      refine Goes.via (fun t k => XS.ifnonnullYes X2.here hx rfl (pc0 := 69) (pc' := 74) rfl (hb hby at_69) rfl (by decide) (by decide) k) ?_
      show Goes p e below (T2.setTop (mkF m 74 #[.val (.int p1), .val (.int p2), .val (.int p3), .val (.int p4), .val (.int p5), .val (.int (0 : Int32)), .val (.ref b1), .val (.int ((p2 &&& (2147483647 : Int32)) % (1 : Int32))), .val (.ref r2)] [])) _
      refine Goes.via (fun t k => XS.iload X2.here hx rfl (hb hby at_74) rfl k) ?_
      show Goes p e below (T2.setTop (mkF m 76 #[.val (.int p1), .val (.int p2), .val (.int p3), .val (.int p4), .val (.int p5), .val (.int (0 : Int32)), .val (.ref b1), .val (.int ((p2 &&& (2147483647 : Int32)) % (1 : Int32))), .val (.ref r2)] [(.int ((p2 &&& (2147483647 : Int32)) % (1 : Int32)))])) _
      refine Goes.via (fun t k => XS.iload X2.here hx rfl (hb hby at_76) rfl k) ?_
      show Goes p e below (T2.setTop (mkF m 78 #[.val (.int p1), .val (.int p2), .val (.int p3), .val (.int p4), .val (.int p5), .val (.int (0 : Int32)), .val (.ref b1), .val (.int ((p2 &&& (2147483647 : Int32)) % (1 : Int32))), .val (.ref r2)] [(.int (0 : Int32)), (.int ((p2 &&& (2147483647 : Int32)) % (1 : Int32)))])) _
      have hc78_3 : ¬ (((p2 &&& (2147483647 : Int32)) % (1 : Int32)) = (0 : Int32)) := (own_ne hs)
      refine Goes.via (fun t k => XS.icmpYes X2.here hx rfl (pc0 := 78) (pc' := 87) rfl (hb hby at_78) rfl (feq hc78_3).2 (by decide) (by decide) k) ?_
      show Goes p e below (T2.setTop (mkF m 87 #[.val (.int p1), .val (.int p2), .val (.int p3), .val (.int p4), .val (.int p5), .val (.int (0 : Int32)), .val (.ref b1), .val (.int ((p2 &&& (2147483647 : Int32)) % (1 : Int32))), .val (.ref r2)] [])) _
      refine Goes.via (fun t k => XS.aload X2.here hx rfl (hb hby at_87) rfl rfl k) ?_
      show Goes p e below (T2.setTop (mkF m 89 #[.val (.int p1), .val (.int p2), .val (.int p3), .val (.int p4), .val (.int p5), .val (.int (0 : Int32)), .val (.ref b1), .val (.int ((p2 &&& (2147483647 : Int32)) % (1 : Int32))), .val (.ref r2)] [(.ref r2)])) _
      obtain ⟨Lw4, X4w, N4w⟩ := ownPack X2 N2
      obtain ⟨cq5, kq5, q5a, q5b, q5c⟩ := isOf hZ rfl Ex2
      obtain ⟨_, _, ⟨T5, L5, k5, n5⟩, -, X5, ⟨Lc5, hQ5, l5, y5, z5⟩, st5⟩ := X4w.virtualBack hx (y := (⟨"java/lang/String", "length", "()I"⟩ : MethodName)) (z := (⟨"java/lang/String", "length", "()I"⟩ : MethodName)) hown (mvT hZ (hw _ (List.mem_of_getElem? (i := 47) rfl))) (mvT hZ (hw _ (List.mem_of_getElem? (i := 48) rfl))) (notFace_of_selects (args := #[]) (mvT hZ (hw _ (List.mem_of_getElem? (i := 50) rfl)))) (mvT hZ (hw _ (List.mem_of_getElem? (i := 50) rfl))) (mvT hZ (hw _ (List.mem_of_getElem? (i := 49) rfl))) (by decide) (backOf (W := 0) (rm9 l Z a0 hw [] r2 t2 kt2 w0 vF T2.heap n0 Z2 Ex2 Vq2 Cq2 Vc2 O2 St) hZ (hw _ (List.mem_of_getElem? (i := 51) rfl)) (hw _ (List.mem_of_getElem? (i := 7) rfl)) (by decide) (by decide)) q5a q5c (g := (mkF m 89 #[.val (.int p1), .val (.int p2), .val (.int p3), .val (.int p4), .val (.int p5), .val (.int (0 : Int32)), .val (.ref b1), .val (.int ((p2 &&& (2147483647 : Int32)) % (1 : Int32))), .val (.ref r2)] [(.ref r2)])) rfl (by rw [hml]; rfl) (Steps.refl _) (argsL := []) (rest := []) (lenOf pd_0_1 rfl) rfl (by show 2 * 0 + _ ≤ _; exact Nat.le_of_eq rfl) (hb hby at_89) (fun _ _ => ⟨rfl, rfl, (by decide : 3 + 0 ≤ _), (by decide : 6 + 0 ≤ _)⟩)
      dsimp only [Pt.U, Pt.locs, Pt.cells, Pt.slots] at X5 l5 y5 z5 st5 hQ5
      subst l5 y5 z5
      obtain ⟨rfl, N5q, er5⟩ := hQ5
      have e5 : T5.heap = T2.heap := er5
      have N5 := Fr.app N4w N5q
      refine Goes.via (fun t k => st5.trans k) ?_
      show Goes p e below (T5.setTop (mkF m 92 #[.val (.int p1), .val (.int p2), .val (.int p3), .val (.int p4), .val (.int p5), .val (.int (0 : Int32)), .val (.ref b1), .val (.int ((p2 &&& (2147483647 : Int32)) % (1 : Int32))), .val (.ref r2)] [(.int (1 : Int32))])) _
      refine Goes.via (fun t k => XS.iconst X5.here hx rfl (hb hby at_92) k) ?_
      show Goes p e below (T5.setTop (mkF m 93 #[.val (.int p1), .val (.int p2), .val (.int p3), .val (.int p4), .val (.int p5), .val (.int (0 : Int32)), .val (.ref b1), .val (.int ((p2 &&& (2147483647 : Int32)) % (1 : Int32))), .val (.ref r2)] [(.int (1 : Int32)), (.int (1 : Int32))])) _
      refine Goes.via (fun t k => XS.icmpNo X5.here hx rfl (hb hby at_93) rfl (teq (show (1 : Int32) = (1 : Int32) from rfl)).2 k) ?_
      show Goes p e below (T5.setTop (mkF m 96 #[.val (.int p1), .val (.int p2), .val (.int p3), .val (.int p4), .val (.int p5), .val (.int (0 : Int32)), .val (.ref b1), .val (.int ((p2 &&& (2147483647 : Int32)) % (1 : Int32))), .val (.ref r2)] [])) _
      refine Goes.via (fun t k => XS.aload X5.here hx rfl (hb hby at_96) rfl rfl k) ?_
      show Goes p e below (T5.setTop (mkF m 98 #[.val (.int p1), .val (.int p2), .val (.int p3), .val (.int p4), .val (.int p5), .val (.int (0 : Int32)), .val (.ref b1), .val (.int ((p2 &&& (2147483647 : Int32)) % (1 : Int32))), .val (.ref r2)] [(.ref r2)])) _
      refine Goes.via (fun t k => XS.iconst X5.here hx rfl (hb hby at_98) k) ?_
      show Goes p e below (T5.setTop (mkF m 99 #[.val (.int p1), .val (.int p2), .val (.int p3), .val (.int p4), .val (.int p5), .val (.int (0 : Int32)), .val (.ref b1), .val (.int ((p2 &&& (2147483647 : Int32)) % (1 : Int32))), .val (.ref r2)] [(.int (0 : Int32)), (.ref r2)])) _
      obtain ⟨Lw6, X6w, N6w⟩ := ownPack X5 N5
      obtain ⟨cq7, kq7, q7a, q7b, q7c⟩ := isOf hZ e5 Ex2
      obtain ⟨_, _, ⟨T7, L7, k7, n7⟩, -, X7, ⟨Lc7, hQ7, l7, y7, z7⟩, st7⟩ := X6w.virtualBack hx (y := (⟨"java/lang/String", "charAt", "(I)C"⟩ : MethodName)) (z := (⟨"java/lang/String", "charAt", "(I)C"⟩ : MethodName)) hown (mvT hZ (hw _ (List.mem_of_getElem? (i := 57) rfl))) (mvT hZ (hw _ (List.mem_of_getElem? (i := 58) rfl))) (notFace_of_selects (args := #[]) (mvT hZ (hw _ (List.mem_of_getElem? (i := 60) rfl)))) (mvT hZ (hw _ (List.mem_of_getElem? (i := 60) rfl))) (mvT hZ (hw _ (List.mem_of_getElem? (i := 59) rfl))) (by decide) (backOf (W := 0) (rm11 l Z a0 hw [] r2 t2 kt2 w0 vF T2.heap n0 Z2 Ex2 Vq2 Cq2 Vc2 O2 St) hZ (hw _ (List.mem_of_getElem? (i := 61) rfl)) (hw _ (List.mem_of_getElem? (i := 7) rfl)) (by decide) (by decide)) q7a q7c (g := (mkF m 99 #[.val (.int p1), .val (.int p2), .val (.int p3), .val (.int p4), .val (.int p5), .val (.int (0 : Int32)), .val (.ref b1), .val (.int ((p2 &&& (2147483647 : Int32)) % (1 : Int32))), .val (.ref r2)] [(.int (0 : Int32)), (.ref r2)])) rfl (by rw [hml]; rfl) (Steps.refl _) (argsL := [(.int (0 : Int32))]) (rest := []) (lenOf pd_0_2 rfl) rfl (by show 2 * 0 + _ ≤ _; exact Nat.le_of_eq rfl) (hb hby at_99) (fun _ _ => ⟨rfl, e5, (by decide : 3 + 0 ≤ _), (by decide : 6 + 0 ≤ _)⟩)
      dsimp only [Pt.U, Pt.locs, Pt.cells, Pt.slots] at X7 l7 y7 z7 st7 hQ7
      subst l7 y7 z7
      obtain ⟨rfl, N7q, er7⟩ := hQ7
      have e7 : T7.heap = T2.heap := er7
      have N7 := Fr.app N6w N7q
      refine Goes.via (fun t k => st7.trans k) ?_
      show Goes p e below (T7.setTop (mkF m 102 #[.val (.int p1), .val (.int p2), .val (.int p3), .val (.int p4), .val (.int p5), .val (.int (0 : Int32)), .val (.ref b1), .val (.int ((p2 &&& (2147483647 : Int32)) % (1 : Int32))), .val (.ref r2)] [(.int (65533 : Int32))])) _
      refine Goes.via (fun t k => X7.ldcInt hx hown (mvT hZ (hw _ (List.mem_of_getElem? (i := 87) rfl))) (g := (mkF m 102 #[.val (.int p1), .val (.int p2), .val (.int p3), .val (.int p4), .val (.int p5), .val (.int (0 : Int32)), .val (.ref b1), .val (.int ((p2 &&& (2147483647 : Int32)) % (1 : Int32))), .val (.ref r2)] [(.int (65533 : Int32))])) rfl (hb hby at_102) _ k) ?_
      show Goes p e below (T7.setTop (mkF m 104 #[.val (.int p1), .val (.int p2), .val (.int p3), .val (.int p4), .val (.int p5), .val (.int (0 : Int32)), .val (.ref b1), .val (.int ((p2 &&& (2147483647 : Int32)) % (1 : Int32))), .val (.ref r2)] [(.int (65533 : Int32)), (.int (65533 : Int32))])) _
      refine Goes.via (fun t k => XS.icmpNo X7.here hx rfl (hb hby at_104) rfl (teq (show (65533 : Int32) = (65533 : Int32) from rfl)).2 k) ?_
      show Goes p e below (T7.setTop (mkF m 107 #[.val (.int p1), .val (.int p2), .val (.int p3), .val (.int p4), .val (.int p5), .val (.int (0 : Int32)), .val (.ref b1), .val (.int ((p2 &&& (2147483647 : Int32)) % (1 : Int32))), .val (.ref r2)] [])) _
      refine Goes.via (fun t k => XS.iconst X7.here hx rfl (hb hby at_107) k) ?_
      show Goes p e below (T7.setTop (mkF m 108 #[.val (.int p1), .val (.int p2), .val (.int p3), .val (.int p4), .val (.int p5), .val (.int (0 : Int32)), .val (.ref b1), .val (.int ((p2 &&& (2147483647 : Int32)) % (1 : Int32))), .val (.ref r2)] [(.int (1 : Int32))])) _
      refine Goes.via (fun t k => XS.goto X7.here hx rfl (pc0 := 108) (pc' := 112) rfl (hb hby at_108) (by decide) (by decide) k) ?_
      show Goes p e below (T7.setTop (mkF m 112 #[.val (.int p1), .val (.int p2), .val (.int p3), .val (.int p4), .val (.int p5), .val (.int (0 : Int32)), .val (.ref b1), .val (.int ((p2 &&& (2147483647 : Int32)) % (1 : Int32))), .val (.ref r2)] [(.int (1 : Int32))])) _
      obtain ⟨fs, hr, hrun, hended, hRE⟩ := X7.leaveW hS (by rw [e7]; exact hk) (v := some (.int (1 : Int32))) (fun h => by rw [Bd.returns] at h; cases h)
      refine ⟨_, _, ?_, hrun, hended, _, _, rfl, ?_, hRE.1, hRE.2.1, hRE.2.2.1, hRE.2.2.2.mono (by decide) (by decide)⟩
      · exact retN X7 hx (t := .boolean) Bd.returns (by simp) (hb hby at_112) hr
      · show Q0 Z  h0 n0 _ T7.heap _ _
        rw [e7]
        exact ⟨rfl, N7⟩
    · show Goes p e below (T1.setTop (mkF m 62 #[.val (.int p1), .val (.int p2), .val (.int p3), .val (.int p4), .val (.int p5), .val (.int (0 : Int32)), .val (.ref b1), .val (.int ((p2 &&& (2147483647 : Int32)) % (1 : Int32))), .unset] [(.int ((p2 &&& (2147483647 : Int32)) % (1 : Int32))), (.ref b1)])) _
      obtain ⟨_, _, ⟨T8, L8, k8, n8⟩, -, X8, S8, sg8, ⟨Lc8, hQ8, l8, y8, z8⟩, st8⟩ := callSS X1 hx (y := (⟨"cascabel/parser/Decoders", "replacement", "([BI)Ljava/lang/String;"⟩ : MethodName)) hown (mvT hZ (hw _ (List.mem_of_getElem? (i := 2) rfl))) (mvT hZ (hw _ (List.mem_of_getElem? (i := 3) rfl))) (mvT hZ (hw _ (List.mem_of_getElem? (i := 4) rfl))) (mvT hZ (hw _ (List.mem_of_getElem? (i := 5) rfl))) (by decide) (ownBackS (W := 0) (I := fun vm => IB Z vm []) (rm1b l Z a0 hw [] b1 ((p2 &&& (2147483647 : Int32)) % (1 : Int32)) (0 : Int32) k1 [] w0 vF h1 n0 Z1 V1 hs O1 St hcH hcw) hZ (fun vm q => hI.warm q) (hw _ (List.mem_of_getElem? (i := 5) rfl)) (hw _ (List.mem_of_getElem? (i := 4) rfl)) (by decide) (by decide)) (g := (mkF m 62 #[.val (.int p1), .val (.int p2), .val (.int p3), .val (.int p4), .val (.int p5), .val (.int (0 : Int32)), .val (.ref b1), .val (.int ((p2 &&& (2147483647 : Int32)) % (1 : Int32))), .unset] [(.int ((p2 &&& (2147483647 : Int32)) % (1 : Int32))), (.ref b1)])) rfl (by rw [hml]; rfl) (argsL := [(.ref b1), (.int ((p2 &&& (2147483647 : Int32)) % (1 : Int32)))]) (rest := []) (lenOf pd_0_0 rfl) rfl (by show 2 * 0 + _ ≤ _; exact Nat.le_of_eq rfl) (hb hby at_62) (fun _ _ => ⟨rfl, e1, (by decide : 1 + 2 ≤ _), (by decide : 0 + 4 ≤ _)⟩)
      dsimp only [Pt.U, Pt.locs, Pt.cells, Pt.slots] at X8 l8 y8 z8 st8 hQ8 S8 sg8
      subst l8 y8 z8
      obtain ⟨X8f, hS8, hZ8, hown8⟩ := rebS hS hk X8 S8 (by rw [← e1]; exact sg8) hZ hown
      have X8 := X8f
      have hS := hS8
      have hZ := hZ8
      have hown := hown8
      have hk : T8.heap.size ≤ T8.heap.size := Nat.le_refl _
      obtain ⟨r8, t8, kt8, rfl, N8q, Kc8, Ex8, Vq8, Vc8⟩ := hQ8
      have F8_10 := V1.keep Kc8 List.not_mem_nil
      have K8 : Keep h0 T8.heap [] := K1.trans Kc8 (fun x hx => nomatch hx)
      have Z8 : n0 ≤ T8.heap.size := Nat.le_trans Z1 Kc8.1
      have O8 := O1.keep Kc8 (fun x hx => nomatch hx)
      have N8 := Fr.app N0 N8q
      refine Goes.via (fun t k => st8.trans k) ?_
      show Goes p e below (T8.setTop (mkF m 65 #[.val (.int p1), .val (.int p2), .val (.int p3), .val (.int p4), .val (.int p5), .val (.int (0 : Int32)), .val (.ref b1), .val (.int ((p2 &&& (2147483647 : Int32)) % (1 : Int32))), .unset] [(.ref r8)])) _
      refine Goes.via (fun t k => XS.astore X8.here hx rfl (hb hby at_65) rfl rfl (l' := #[.val (.int p1), .val (.int p2), .val (.int p3), .val (.int p4), .val (.int p5), .val (.int (0 : Int32)), .val (.ref b1), .val (.int ((p2 &&& (2147483647 : Int32)) % (1 : Int32))), .val (.ref r8)]) rfl k) ?_
      show Goes p e below (T8.setTop (mkF m 67 #[.val (.int p1), .val (.int p2), .val (.int p3), .val (.int p4), .val (.int p5), .val (.int (0 : Int32)), .val (.ref b1), .val (.int ((p2 &&& (2147483647 : Int32)) % (1 : Int32))), .val (.ref r8)] [])) _
      refine Goes.via (fun t k => XS.aload X8.here hx rfl (hb hby at_67) rfl rfl k) ?_
      show Goes p e below (T8.setTop (mkF m 69 #[.val (.int p1), .val (.int p2), .val (.int p3), .val (.int p4), .val (.int p5), .val (.int (0 : Int32)), .val (.ref b1), .val (.int ((p2 &&& (2147483647 : Int32)) % (1 : Int32))), .val (.ref r8)] [(.ref r8)])) _
      refine Goes.via (fun t k => XS.ifnonnullYes X8.here hx rfl (pc0 := 69) (pc' := 74) rfl (hb hby at_69) rfl (by decide) (by decide) k) ?_
      show Goes p e below (T8.setTop (mkF m 74 #[.val (.int p1), .val (.int p2), .val (.int p3), .val (.int p4), .val (.int p5), .val (.int (0 : Int32)), .val (.ref b1), .val (.int ((p2 &&& (2147483647 : Int32)) % (1 : Int32))), .val (.ref r8)] [])) _
      refine Goes.via (fun t k => XS.iload X8.here hx rfl (hb hby at_74) rfl k) ?_
      show Goes p e below (T8.setTop (mkF m 76 #[.val (.int p1), .val (.int p2), .val (.int p3), .val (.int p4), .val (.int p5), .val (.int (0 : Int32)), .val (.ref b1), .val (.int ((p2 &&& (2147483647 : Int32)) % (1 : Int32))), .val (.ref r8)] [(.int ((p2 &&& (2147483647 : Int32)) % (1 : Int32)))])) _
      refine Goes.via (fun t k => XS.iload X8.here hx rfl (hb hby at_76) rfl k) ?_
      show Goes p e below (T8.setTop (mkF m 78 #[.val (.int p1), .val (.int p2), .val (.int p3), .val (.int p4), .val (.int p5), .val (.int (0 : Int32)), .val (.ref b1), .val (.int ((p2 &&& (2147483647 : Int32)) % (1 : Int32))), .val (.ref r8)] [(.int (0 : Int32)), (.int ((p2 &&& (2147483647 : Int32)) % (1 : Int32)))])) _
      have hc78_9 : ((p2 &&& (2147483647 : Int32)) % (1 : Int32)) = (0 : Int32) := (own_eq0 p2 hs)
      refine Goes.via (fun t k => XS.icmpNo X8.here hx rfl (hb hby at_78) rfl (teq hc78_9).2 k) ?_
      show Goes p e below (T8.setTop (mkF m 81 #[.val (.int p1), .val (.int p2), .val (.int p3), .val (.int p4), .val (.int p5), .val (.int (0 : Int32)), .val (.ref b1), .val (.int ((p2 &&& (2147483647 : Int32)) % (1 : Int32))), .val (.ref r8)] [])) _
      refine Goes.via (fun t k => XS.aload X8.here hx rfl (hb hby at_81) rfl rfl k) ?_
      show Goes p e below (T8.setTop (mkF m 83 #[.val (.int p1), .val (.int p2), .val (.int p3), .val (.int p4), .val (.int p5), .val (.int (0 : Int32)), .val (.ref b1), .val (.int ((p2 &&& (2147483647 : Int32)) % (1 : Int32))), .val (.ref r8)] [(.ref r8)])) _
      obtain ⟨Lw10, X10w, N10w⟩ := ownPack X8 N8
      obtain ⟨cq11, kq11, q11a, q11b, q11c⟩ := isOf hZ rfl Ex8
      obtain ⟨_, _, ⟨T11, L11, k11, n11⟩, -, X11, ⟨Lc11, hQ11, l11, y11, z11⟩, st11⟩ := X10w.virtualBack hx (y := (⟨"java/lang/String", "isEmpty", "()Z"⟩ : MethodName)) (z := (⟨"java/lang/String", "isEmpty", "()Z"⟩ : MethodName)) hown (mvT hZ (hw _ (List.mem_of_getElem? (i := 13) rfl))) (mvT hZ (hw _ (List.mem_of_getElem? (i := 14) rfl))) (notFace_of_selects (args := #[]) (mvT hZ (hw _ (List.mem_of_getElem? (i := 16) rfl)))) (mvT hZ (hw _ (List.mem_of_getElem? (i := 16) rfl))) (mvT hZ (hw _ (List.mem_of_getElem? (i := 15) rfl))) (by decide) (backOf (W := 0) (rm2 l Z a0 hw [] r8 t8 kt8 T8.heap n0 Z8 Vq8 Vc8) hZ (hw _ (List.mem_of_getElem? (i := 17) rfl)) (hw _ (List.mem_of_getElem? (i := 7) rfl)) (by decide) (by decide)) q11a q11c (g := (mkF m 83 #[.val (.int p1), .val (.int p2), .val (.int p3), .val (.int p4), .val (.int p5), .val (.int (0 : Int32)), .val (.ref b1), .val (.int ((p2 &&& (2147483647 : Int32)) % (1 : Int32))), .val (.ref r8)] [(.ref r8)])) rfl (by rw [hml]; rfl) (Steps.refl _) (argsL := []) (rest := []) (lenOf pd_0_3 rfl) rfl (by show 2 * 0 + _ ≤ _; exact Nat.le_of_eq rfl) (hb hby at_83) (fun _ _ => ⟨rfl, rfl, (by decide : 3 + 0 ≤ _), (by decide : 4 + 0 ≤ _)⟩)
      dsimp only [Pt.U, Pt.locs, Pt.cells, Pt.slots] at X11 l11 y11 z11 st11 hQ11
      subst l11 y11 z11
      obtain ⟨rfl, N11q, er11⟩ := hQ11
      have e11 : T11.heap = T8.heap := er11
      have N11 := Fr.app N10w N11q
      refine Goes.via (fun t k => st11.trans k) ?_
      show Goes p e below (T11.setTop (mkF m 86 #[.val (.int p1), .val (.int p2), .val (.int p3), .val (.int p4), .val (.int p5), .val (.int (0 : Int32)), .val (.ref b1), .val (.int ((p2 &&& (2147483647 : Int32)) % (1 : Int32))), .val (.ref r8)] [(.int (1 : Int32))])) _
      obtain ⟨fs, hr, hrun, hended, hRE⟩ := X11.leaveW hS (by rw [e11]; exact hk) (v := some (.int (1 : Int32))) (fun h => by rw [Bd.returns] at h; cases h)
      refine ⟨_, _, ?_, hrun, hended, _, _, rfl, ?_, hRE.1, hRE.2.1, hRE.2.2.1, hRE.2.2.2.mono (by decide) (by decide)⟩
      · exact retN X11 hx (t := .boolean) Bd.returns (by simp) (hb hby at_86) hr
      · show Q0 Z  h0 n0 _ T11.heap _ _
        rw [e11]
        exact ⟨rfl, N11⟩
  · rw [hl]
    show Goes p e below (s₁.setTop (mkF m 3 #[.val (.int p1), .val (.int p2), .val (.int p3), .val (.int p4), .val (.int p5), .unset, .unset, .unset, .unset] [(.int (1 : Int32))])) _
    refine Goes.via (fun t k => XS.istore X0.here hx rfl (hb hby at_3) rfl (l' := #[.val (.int p1), .val (.int p2), .val (.int p3), .val (.int p4), .val (.int p5), .val (.int (1 : Int32)), .unset, .unset, .unset]) rfl k) ?_
    show Goes p e below (s₁.setTop (mkF m 5 #[.val (.int p1), .val (.int p2), .val (.int p3), .val (.int p4), .val (.int p5), .val (.int (1 : Int32)), .unset, .unset, .unset] [])) _
    refine Goes.via (fun t k => XS.iload X0.here hx rfl (hb hby at_5) rfl k) ?_
    show Goes p e below (s₁.setTop (mkF m 7 #[.val (.int p1), .val (.int p2), .val (.int p3), .val (.int p4), .val (.int p5), .val (.int (1 : Int32)), .unset, .unset, .unset] [(.int (1 : Int32))])) _
    obtain ⟨T12, h12, k12, X12, e12, E12, A12, st12⟩ := newP X0 hx hZ (hw _ (List.mem_of_getElem? (i := 0) rfl)) e0 (g := (mkF m 7 #[.val (.int p1), .val (.int p2), .val (.int p3), .val (.int p4), .val (.int p5), .val (.int (1 : Int32)), .unset, .unset, .unset] [(.int (1 : Int32))])) rfl (hb hby at_7) rfl (by decide) (cap := 1) (by decide) (by decide) (by decide) (by decide)
    obtain ⟨b12, g12⟩ : ∃ z, z = h0.size := ⟨_, rfl⟩
    rw [← g12] at A12 st12
    have ge_b12 : n0 ≤ b12 := Nat.le_trans Z0 (Nat.le_of_eq g12.symm)
    have sz_b12 : h0.size ≤ b12 := Nat.le_trans (Keep.refl h0 []).1 (Nat.le_of_eq g12.symm)
    have K12 : Keep h0 h12 [] := (Keep.refl h0 []).ext E12
    have Z12 : n0 ≤ h12.size := Nat.le_trans Z0 E12.1
    have O12 := O0.ext E12
    have hk := Nat.le_trans hk E12.1
    have V12 : Arv Z h12 b12 k12 .byte (1 : Int32) [(.int (0 : Int32))] (.int (0 : Int32)) := (Arv.new A12 (by decide)).pad (pad_rep [] (.int (0 : Int32)) 1)
    refine Goes.via st12 ?_
    show Goes p e below (T12.setTop (mkF m 9 #[.val (.int p1), .val (.int p2), .val (.int p3), .val (.int p4), .val (.int p5), .val (.int (1 : Int32)), .unset, .unset, .unset] [(.ref b12)])) _
    refine Goes.via (fun t k => XS.astore X12.here hx rfl (hb hby at_9) rfl rfl (l' := #[.val (.int p1), .val (.int p2), .val (.int p3), .val (.int p4), .val (.int p5), .val (.int (1 : Int32)), .val (.ref b12), .unset, .unset]) rfl k) ?_
    show Goes p e below (T12.setTop (mkF m 11 #[.val (.int p1), .val (.int p2), .val (.int p3), .val (.int p4), .val (.int p5), .val (.int (1 : Int32)), .val (.ref b12), .unset, .unset] [])) _
    refine Goes.via (fun t k => XS.iload X12.here hx rfl (hb hby at_11) rfl k) ?_
    show Goes p e below (T12.setTop (mkF m 13 #[.val (.int p1), .val (.int p2), .val (.int p3), .val (.int p4), .val (.int p5), .val (.int (1 : Int32)), .val (.ref b12), .unset, .unset] [(.int (1 : Int32))])) _
    refine Goes.via (fun t k => XS.ifNo X12.here hx rfl (hb hby at_13) rfl ((if0 _ _).trans (tlt (show (0 : Int32) < (1 : Int32) from (by decide))).2.2.2) k) ?_
    show Goes p e below (T12.setTop (mkF m 16 #[.val (.int p1), .val (.int p2), .val (.int p3), .val (.int p4), .val (.int p5), .val (.int (1 : Int32)), .val (.ref b12), .unset, .unset] [])) _
    refine Goes.via (fun t k => XS.aload X12.here hx rfl (hb hby at_16) rfl rfl k) ?_
    show Goes p e below (T12.setTop (mkF m 18 #[.val (.int p1), .val (.int p2), .val (.int p3), .val (.int p4), .val (.int p5), .val (.int (1 : Int32)), .val (.ref b12), .unset, .unset] [(.ref b12)])) _
    refine Goes.via (fun t k => XS.iconst X12.here hx rfl (hb hby at_18) k) ?_
    show Goes p e below (T12.setTop (mkF m 19 #[.val (.int p1), .val (.int p2), .val (.int p3), .val (.int p4), .val (.int p5), .val (.int (1 : Int32)), .val (.ref b12), .unset, .unset] [(.int (0 : Int32)), (.ref b12)])) _
    refine Goes.via (fun t k => XS.iloadN X12.here hx rfl (hb hby at_19) rfl k) ?_
    show Goes p e below (T12.setTop (mkF m 20 #[.val (.int p1), .val (.int p2), .val (.int p3), .val (.int p4), .val (.int p5), .val (.int (1 : Int32)), .val (.ref b12), .unset, .unset] [(.int p3), (.int (0 : Int32)), (.ref b12)])) _
    refine Goes.via (fun t k => XS.i2b X12.here hx rfl (hb hby at_20) rfl k) ?_
    show Goes p e below (T12.setTop (mkF m 21 #[.val (.int p1), .val (.int p2), .val (.int p3), .val (.int p4), .val (.int p5), .val (.int (1 : Int32)), .val (.ref b12), .unset, .unset] [(.int (p3.toInt8.toInt32)), (.int (0 : Int32)), (.ref b12)])) _
    obtain ⟨cl13, Ar13, qa13, Sa13, Na13, Ha13, Ga13⟩ := V12
    have hin13 : ¬ ((0 : Int32) < 0 ∨ cl13.slots.size ≤ ((0 : Int32)).toNatClampNeg) := inb_of Sa13 ⟨by decide, by decide⟩
    obtain ⟨T13, h13, X13, e13, W13, st13⟩ := stB X12 hx hZ e12 Ar13 (j := (0 : Int32)) hin13 (g := (mkF m 21 #[.val (.int p1), .val (.int p2), .val (.int p3), .val (.int p4), .val (.int p5), .val (.int (1 : Int32)), .val (.ref b12), .unset, .unset] [(.int (p3.toInt8.toInt32)), (.int (0 : Int32)), (.ref b12)])) rfl rfl (hb hby at_21)
    have V13 : Arv Z h13 b12 k12 .byte (1 : Int32) [(.int (nar .byte (p3.toInt8.toInt32)))] (.int (0 : Int32)) := Arv.set Ar13 qa13 Sa13 Na13 Ha13 Ga13 (fits_nar_byte _) W13 0 rfl (Nat.le_of_ble_eq_true rfl)
    have K13 : Keep h0 h13 [] := K12.wr W13 (Or.inr sz_b12)
    have Z13 : n0 ≤ h13.size := Nat.le_trans Z12 (Keep.of_wr W13).1
    have N13 := Fr.snoc X13 N0 ge_b12
    have O13 := O12.wr W13 ge_b12
    have hk := Nat.le_trans hk (Keep.of_wr W13).1
    refine Goes.via st13 ?_
    show Goes p e below (T13.setTop (mkF m 22 #[.val (.int p1), .val (.int p2), .val (.int p3), .val (.int p4), .val (.int p5), .val (.int (1 : Int32)), .val (.ref b12), .unset, .unset] [])) _
    refine Goes.via (fun t k => XS.iload X13.here hx rfl (hb hby at_22) rfl k) ?_
    show Goes p e below (T13.setTop (mkF m 24 #[.val (.int p1), .val (.int p2), .val (.int p3), .val (.int p4), .val (.int p5), .val (.int (1 : Int32)), .val (.ref b12), .unset, .unset] [(.int (1 : Int32))])) _
    refine Goes.via (fun t k => XS.iconst X13.here hx rfl (hb hby at_24) k) ?_
    show Goes p e below (T13.setTop (mkF m 25 #[.val (.int p1), .val (.int p2), .val (.int p3), .val (.int p4), .val (.int p5), .val (.int (1 : Int32)), .val (.ref b12), .unset, .unset] [(.int (1 : Int32)), (.int (1 : Int32))])) _
    refine Goes.via (fun t k => XS.icmpYes X13.here hx rfl (pc0 := 25) (pc' := 34) rfl (hb hby at_25) rfl (flt (show ¬ ((1 : Int32) < (1 : Int32)) from (by decide))).2.2.2 (by decide) (by decide) k) ?_
    show Goes p e below (T13.setTop (mkF m 34 #[.val (.int p1), .val (.int p2), .val (.int p3), .val (.int p4), .val (.int p5), .val (.int (1 : Int32)), .val (.ref b12), .unset, .unset] [])) _
    refine Goes.via (fun t k => XS.iload X13.here hx rfl (hb hby at_34) rfl k) ?_
    show Goes p e below (T13.setTop (mkF m 36 #[.val (.int p1), .val (.int p2), .val (.int p3), .val (.int p4), .val (.int p5), .val (.int (1 : Int32)), .val (.ref b12), .unset, .unset] [(.int (1 : Int32))])) _
    refine Goes.via (fun t k => XS.iconst X13.here hx rfl (hb hby at_36) k) ?_
    show Goes p e below (T13.setTop (mkF m 37 #[.val (.int p1), .val (.int p2), .val (.int p3), .val (.int p4), .val (.int p5), .val (.int (1 : Int32)), .val (.ref b12), .unset, .unset] [(.int (2 : Int32)), (.int (1 : Int32))])) _
    refine Goes.via (fun t k => XS.icmpYes X13.here hx rfl (pc0 := 37) (pc' := 47) rfl (hb hby at_37) rfl (flt (show ¬ ((2 : Int32) < (1 : Int32)) from (by decide))).2.2.2 (by decide) (by decide) k) ?_
    show Goes p e below (T13.setTop (mkF m 47 #[.val (.int p1), .val (.int p2), .val (.int p3), .val (.int p4), .val (.int p5), .val (.int (1 : Int32)), .val (.ref b12), .unset, .unset] [])) _
    refine Goes.via (fun t k => XS.iloadN X13.here hx rfl (hb hby at_47) rfl k) ?_
    show Goes p e below (T13.setTop (mkF m 48 #[.val (.int p1), .val (.int p2), .val (.int p3), .val (.int p4), .val (.int p5), .val (.int (1 : Int32)), .val (.ref b12), .unset, .unset] [(.int p2)])) _
    refine Goes.via (fun t k => X13.ldcInt hx hown (mvT hZ (hw _ (List.mem_of_getElem? (i := 1) rfl))) (g := (mkF m 48 #[.val (.int p1), .val (.int p2), .val (.int p3), .val (.int p4), .val (.int p5), .val (.int (1 : Int32)), .val (.ref b12), .unset, .unset] [(.int p2)])) rfl (hb hby at_48) _ k) ?_
    show Goes p e below (T13.setTop (mkF m 50 #[.val (.int p1), .val (.int p2), .val (.int p3), .val (.int p4), .val (.int p5), .val (.int (1 : Int32)), .val (.ref b12), .unset, .unset] [(.int (2147483647 : Int32)), (.int p2)])) _
    refine Goes.via (fun t k => XS.iand X13.here hx rfl (hb hby at_50) rfl k) ?_
    show Goes p e below (T13.setTop (mkF m 51 #[.val (.int p1), .val (.int p2), .val (.int p3), .val (.int p4), .val (.int p5), .val (.int (1 : Int32)), .val (.ref b12), .unset, .unset] [(.int (p2 &&& (2147483647 : Int32)))])) _
    refine Goes.via (fun t k => XS.iload X13.here hx rfl (hb hby at_51) rfl k) ?_
    show Goes p e below (T13.setTop (mkF m 53 #[.val (.int p1), .val (.int p2), .val (.int p3), .val (.int p4), .val (.int p5), .val (.int (1 : Int32)), .val (.ref b12), .unset, .unset] [(.int (1 : Int32)), (.int (p2 &&& (2147483647 : Int32)))])) _
    refine Goes.via (fun t k => XS.iconst X13.here hx rfl (hb hby at_53) k) ?_
    show Goes p e below (T13.setTop (mkF m 54 #[.val (.int p1), .val (.int p2), .val (.int p3), .val (.int p4), .val (.int p5), .val (.int (1 : Int32)), .val (.ref b12), .unset, .unset] [(.int (1 : Int32)), (.int (1 : Int32)), (.int (p2 &&& (2147483647 : Int32)))])) _
    refine Goes.via (fun t k => XS.iadd X13.here hx rfl (hb hby at_54) rfl k) ?_
    show Goes p e below (T13.setTop (mkF m 55 #[.val (.int p1), .val (.int p2), .val (.int p3), .val (.int p4), .val (.int p5), .val (.int (1 : Int32)), .val (.ref b12), .unset, .unset] [(.int (2 : Int32)), (.int (p2 &&& (2147483647 : Int32)))])) _
    refine Goes.via (fun t k => iremM X13 hx rfl (hb hby at_55) rfl (by decide) k) ?_
    show Goes p e below (T13.setTop (mkF m 56 #[.val (.int p1), .val (.int p2), .val (.int p3), .val (.int p4), .val (.int p5), .val (.int (1 : Int32)), .val (.ref b12), .unset, .unset] [(.int ((p2 &&& (2147483647 : Int32)) % (2 : Int32)))])) _
    refine Goes.via (fun t k => XS.istore X13.here hx rfl (hb hby at_56) rfl (l' := #[.val (.int p1), .val (.int p2), .val (.int p3), .val (.int p4), .val (.int p5), .val (.int (1 : Int32)), .val (.ref b12), .val (.int ((p2 &&& (2147483647 : Int32)) % (2 : Int32))), .unset]) rfl k) ?_
    show Goes p e below (T13.setTop (mkF m 58 #[.val (.int p1), .val (.int p2), .val (.int p3), .val (.int p4), .val (.int p5), .val (.int (1 : Int32)), .val (.ref b12), .val (.int ((p2 &&& (2147483647 : Int32)) % (2 : Int32))), .unset] [])) _
    refine Goes.via (fun t k => XS.aload X13.here hx rfl (hb hby at_58) rfl rfl k) ?_
    show Goes p e below (T13.setTop (mkF m 60 #[.val (.int p1), .val (.int p2), .val (.int p3), .val (.int p4), .val (.int p5), .val (.int (1 : Int32)), .val (.ref b12), .val (.int ((p2 &&& (2147483647 : Int32)) % (2 : Int32))), .unset] [(.ref b12)])) _
    refine Goes.via (fun t k => XS.iload X13.here hx rfl (hb hby at_60) rfl k) ?_
    show Goes p e below (T13.setTop (mkF m 62 #[.val (.int p1), .val (.int p2), .val (.int p3), .val (.int p4), .val (.int p5), .val (.int (1 : Int32)), .val (.ref b12), .val (.int ((p2 &&& (2147483647 : Int32)) % (2 : Int32))), .unset] [(.int ((p2 &&& (2147483647 : Int32)) % (2 : Int32))), (.ref b12)])) _
    by_cases hs : ((p2 &&& (2147483647 : Int32)) % (2 : Int32)) < (1 : Int32)
    · show Goes p e below (T13.setTop (mkF m 62 #[.val (.int p1), .val (.int p2), .val (.int p3), .val (.int p4), .val (.int p5), .val (.int (1 : Int32)), .val (.ref b12), .val (.int ((p2 &&& (2147483647 : Int32)) % (2 : Int32))), .unset] [(.int ((p2 &&& (2147483647 : Int32)) % (2 : Int32))), (.ref b12)])) _
      obtain ⟨Lw14, X14w, N14w⟩ := ownPack X13 N13
      obtain ⟨_, _, ⟨T15, L15, k15, n15⟩, -, X15, ⟨Lc15, hQ15, l15, y15, z15⟩, st15⟩ := Jvm.LawKit.callS X14w hx (y := (⟨"cascabel/parser/Decoders", "replacement", "([BI)Ljava/lang/String;"⟩ : MethodName)) hown (mvT hZ (hw _ (List.mem_of_getElem? (i := 2) rfl))) (mvT hZ (hw _ (List.mem_of_getElem? (i := 3) rfl))) (mvT hZ (hw _ (List.mem_of_getElem? (i := 4) rfl))) (mvT hZ (hw _ (List.mem_of_getElem? (i := 5) rfl))) (by decide) (backOf (W := 0) (rm1a l Z a0 hw [] b12 ((p2 &&& (2147483647 : Int32)) % (2 : Int32)) (1 : Int32) k12 [(.int (nar .byte (p3.toInt8.toInt32)))] w0 vF h13 n0 Z13 V13 hs O13 St) hZ (hw _ (List.mem_of_getElem? (i := 5) rfl)) (hw _ (List.mem_of_getElem? (i := 4) rfl)) (by decide) (by decide)) (g := (mkF m 62 #[.val (.int p1), .val (.int p2), .val (.int p3), .val (.int p4), .val (.int p5), .val (.int (1 : Int32)), .val (.ref b12), .val (.int ((p2 &&& (2147483647 : Int32)) % (2 : Int32))), .unset] [(.int ((p2 &&& (2147483647 : Int32)) % (2 : Int32))), (.ref b12)])) rfl (by rw [hml]; rfl) (argsL := [(.ref b12), (.int ((p2 &&& (2147483647 : Int32)) % (2 : Int32)))]) (rest := []) (lenOf pd_0_0 rfl) rfl (by show 2 * 0 + _ ≤ _; exact Nat.le_of_eq rfl) (hb hby at_62) (fun _ _ => ⟨rfl, e13, (by decide : 1 + 2 ≤ _), (by decide : 1 + 6 ≤ _)⟩)
      dsimp only [Pt.U, Pt.locs, Pt.cells, Pt.slots] at X15 l15 y15 z15 st15 hQ15
      subst l15 y15 z15
      obtain ⟨r15, t15, kt15, rfl, N15q, gr15, Kc15, Ex15, Vq15, Cq15, Vc15⟩ := hQ15
      have F15_5 := V13.keep Kc15 List.not_mem_nil
      have K15 : Keep h0 T15.heap [] := K13.trans Kc15 (fun x hx => nomatch hx)
      have Z15 : n0 ≤ T15.heap.size := Nat.le_trans Z13 Kc15.1
      have O15 := O13.keep Kc15 (fun x hx => nomatch hx)
      have hk := Nat.le_trans hk Kc15.1
      have N15 := Fr.app N14w N15q
      refine Goes.via st15 ?_
      show Goes p e below (T15.setTop (mkF m 65 #[.val (.int p1), .val (.int p2), .val (.int p3), .val (.int p4), .val (.int p5), .val (.int (1 : Int32)), .val (.ref b12), .val (.int ((p2 &&& (2147483647 : Int32)) % (2 : Int32))), .unset] [(.ref r15)])) _
      refine Goes.via (fun t k => XS.astore X15.here hx rfl (hb hby at_65) rfl rfl (l' := #[.val (.int p1), .val (.int p2), .val (.int p3), .val (.int p4), .val (.int p5), .val (.int (1 : Int32)), .val (.ref b12), .val (.int ((p2 &&& (2147483647 : Int32)) % (2 : Int32))), .val (.ref r15)]) rfl k) ?_
      show Goes p e below (T15.setTop (mkF m 67 #[.val (.int p1), .val (.int p2), .val (.int p3), .val (.int p4), .val (.int p5), .val (.int (1 : Int32)), .val (.ref b12), .val (.int ((p2 &&& (2147483647 : Int32)) % (2 : Int32))), .val (.ref r15)] [])) _
      refine Goes.via (fun t k => XS.aload X15.here hx rfl (hb hby at_67) rfl rfl k) ?_
      show Goes p e below (T15.setTop (mkF m 69 #[.val (.int p1), .val (.int p2), .val (.int p3), .val (.int p4), .val (.int p5), .val (.int (1 : Int32)), .val (.ref b12), .val (.int ((p2 &&& (2147483647 : Int32)) % (2 : Int32))), .val (.ref r15)] [(.ref r15)])) _
      refine Goes.via (fun t k => XS.ifnonnullYes X15.here hx rfl (pc0 := 69) (pc' := 74) rfl (hb hby at_69) rfl (by decide) (by decide) k) ?_
      show Goes p e below (T15.setTop (mkF m 74 #[.val (.int p1), .val (.int p2), .val (.int p3), .val (.int p4), .val (.int p5), .val (.int (1 : Int32)), .val (.ref b12), .val (.int ((p2 &&& (2147483647 : Int32)) % (2 : Int32))), .val (.ref r15)] [])) _
      refine Goes.via (fun t k => XS.iload X15.here hx rfl (hb hby at_74) rfl k) ?_
      show Goes p e below (T15.setTop (mkF m 76 #[.val (.int p1), .val (.int p2), .val (.int p3), .val (.int p4), .val (.int p5), .val (.int (1 : Int32)), .val (.ref b12), .val (.int ((p2 &&& (2147483647 : Int32)) % (2 : Int32))), .val (.ref r15)] [(.int ((p2 &&& (2147483647 : Int32)) % (2 : Int32)))])) _
      refine Goes.via (fun t k => XS.iload X15.here hx rfl (hb hby at_76) rfl k) ?_
      show Goes p e below (T15.setTop (mkF m 78 #[.val (.int p1), .val (.int p2), .val (.int p3), .val (.int p4), .val (.int p5), .val (.int (1 : Int32)), .val (.ref b12), .val (.int ((p2 &&& (2147483647 : Int32)) % (2 : Int32))), .val (.ref r15)] [(.int (1 : Int32)), (.int ((p2 &&& (2147483647 : Int32)) % (2 : Int32)))])) _
      have hc78_16 : ¬ (((p2 &&& (2147483647 : Int32)) % (2 : Int32)) = (1 : Int32)) := (own_ne hs)
      refine Goes.via (fun t k => XS.icmpYes X15.here hx rfl (pc0 := 78) (pc' := 87) rfl (hb hby at_78) rfl (feq hc78_16).2 (by decide) (by decide) k) ?_
      show Goes p e below (T15.setTop (mkF m 87 #[.val (.int p1), .val (.int p2), .val (.int p3), .val (.int p4), .val (.int p5), .val (.int (1 : Int32)), .val (.ref b12), .val (.int ((p2 &&& (2147483647 : Int32)) % (2 : Int32))), .val (.ref r15)] [])) _
      refine Goes.via (fun t k => XS.aload X15.here hx rfl (hb hby at_87) rfl rfl k) ?_
      show Goes p e below (T15.setTop (mkF m 89 #[.val (.int p1), .val (.int p2), .val (.int p3), .val (.int p4), .val (.int p5), .val (.int (1 : Int32)), .val (.ref b12), .val (.int ((p2 &&& (2147483647 : Int32)) % (2 : Int32))), .val (.ref r15)] [(.ref r15)])) _
      obtain ⟨Lw17, X17w, N17w⟩ := ownPack X15 N15
      obtain ⟨cq18, kq18, q18a, q18b, q18c⟩ := isOf hZ rfl Ex15
      obtain ⟨_, _, ⟨T18, L18, k18, n18⟩, -, X18, ⟨Lc18, hQ18, l18, y18, z18⟩, st18⟩ := X17w.virtualBack hx (y := (⟨"java/lang/String", "length", "()I"⟩ : MethodName)) (z := (⟨"java/lang/String", "length", "()I"⟩ : MethodName)) hown (mvT hZ (hw _ (List.mem_of_getElem? (i := 47) rfl))) (mvT hZ (hw _ (List.mem_of_getElem? (i := 48) rfl))) (notFace_of_selects (args := #[]) (mvT hZ (hw _ (List.mem_of_getElem? (i := 50) rfl)))) (mvT hZ (hw _ (List.mem_of_getElem? (i := 50) rfl))) (mvT hZ (hw _ (List.mem_of_getElem? (i := 49) rfl))) (by decide) (backOf (W := 0) (rm9 l Z a0 hw [] r15 t15 kt15 w0 vF T15.heap n0 Z15 Ex15 Vq15 Cq15 Vc15 O15 St) hZ (hw _ (List.mem_of_getElem? (i := 51) rfl)) (hw _ (List.mem_of_getElem? (i := 7) rfl)) (by decide) (by decide)) q18a q18c (g := (mkF m 89 #[.val (.int p1), .val (.int p2), .val (.int p3), .val (.int p4), .val (.int p5), .val (.int (1 : Int32)), .val (.ref b12), .val (.int ((p2 &&& (2147483647 : Int32)) % (2 : Int32))), .val (.ref r15)] [(.ref r15)])) rfl (by rw [hml]; rfl) (Steps.refl _) (argsL := []) (rest := []) (lenOf pd_0_1 rfl) rfl (by show 2 * 0 + _ ≤ _; exact Nat.le_of_eq rfl) (hb hby at_89) (fun _ _ => ⟨rfl, rfl, (by decide : 3 + 0 ≤ _), (by decide : 7 + 0 ≤ _)⟩)
      dsimp only [Pt.U, Pt.locs, Pt.cells, Pt.slots] at X18 l18 y18 z18 st18 hQ18
      subst l18 y18 z18
      obtain ⟨rfl, N18q, er18⟩ := hQ18
      have e18 : T18.heap = T15.heap := er18
      have N18 := Fr.app N17w N18q
      refine Goes.via (fun t k => st18.trans k) ?_
      show Goes p e below (T18.setTop (mkF m 92 #[.val (.int p1), .val (.int p2), .val (.int p3), .val (.int p4), .val (.int p5), .val (.int (1 : Int32)), .val (.ref b12), .val (.int ((p2 &&& (2147483647 : Int32)) % (2 : Int32))), .val (.ref r15)] [(.int (1 : Int32))])) _
      refine Goes.via (fun t k => XS.iconst X18.here hx rfl (hb hby at_92) k) ?_
      show Goes p e below (T18.setTop (mkF m 93 #[.val (.int p1), .val (.int p2), .val (.int p3), .val (.int p4), .val (.int p5), .val (.int (1 : Int32)), .val (.ref b12), .val (.int ((p2 &&& (2147483647 : Int32)) % (2 : Int32))), .val (.ref r15)] [(.int (1 : Int32)), (.int (1 : Int32))])) _
      refine Goes.via (fun t k => XS.icmpNo X18.here hx rfl (hb hby at_93) rfl (teq (show (1 : Int32) = (1 : Int32) from rfl)).2 k) ?_
      show Goes p e below (T18.setTop (mkF m 96 #[.val (.int p1), .val (.int p2), .val (.int p3), .val (.int p4), .val (.int p5), .val (.int (1 : Int32)), .val (.ref b12), .val (.int ((p2 &&& (2147483647 : Int32)) % (2 : Int32))), .val (.ref r15)] [])) _
      refine Goes.via (fun t k => XS.aload X18.here hx rfl (hb hby at_96) rfl rfl k) ?_
      show Goes p e below (T18.setTop (mkF m 98 #[.val (.int p1), .val (.int p2), .val (.int p3), .val (.int p4), .val (.int p5), .val (.int (1 : Int32)), .val (.ref b12), .val (.int ((p2 &&& (2147483647 : Int32)) % (2 : Int32))), .val (.ref r15)] [(.ref r15)])) _
      refine Goes.via (fun t k => XS.iconst X18.here hx rfl (hb hby at_98) k) ?_
      show Goes p e below (T18.setTop (mkF m 99 #[.val (.int p1), .val (.int p2), .val (.int p3), .val (.int p4), .val (.int p5), .val (.int (1 : Int32)), .val (.ref b12), .val (.int ((p2 &&& (2147483647 : Int32)) % (2 : Int32))), .val (.ref r15)] [(.int (0 : Int32)), (.ref r15)])) _
      try clear er18; try clear N18q; try clear st18; try clear z18; try clear y18; try clear l18; try clear hQ18; try clear Lc18; try clear n18; try clear k18; try clear L18; try clear q18c
      try clear q18b; try clear q18a; try clear kq18; try clear cq18; try clear N17w; try clear X17w; try clear Lw17; try clear N15; try clear Kc15; try clear N15q; try clear st15; try clear z15
      try clear y15; try clear l15; try clear hQ15; try clear Lc15; try clear X15; try clear n15; try clear k15; try clear L15; try clear N14w; try clear X14w; try clear Lw14; try clear O13
      try clear N13; try clear Z13; try clear K13; try clear V13; try clear st13; try clear W13; try clear e13; try clear X13; try clear h13; try clear T13; try clear hin13; try clear Ga13
      try clear Ha13; try clear Na13; try clear Sa13; try clear qa13; try clear Ar13; try clear cl13; try clear V12; try clear O12; try clear Z12; try clear K12; try clear size; try clear h0
      try clear g12; try clear st12; try clear A12; try clear E12; try clear e12; try clear X12; try clear h12; try clear T12
      obtain ⟨Lw19, X19w, N19w⟩ := ownPack X18 N18
      obtain ⟨cq20, kq20, q20a, q20b, q20c⟩ := isOf hZ e18 Ex15
      obtain ⟨_, _, ⟨T20, L20, k20, n20⟩, -, X20, ⟨Lc20, hQ20, l20, y20, z20⟩, st20⟩ := X19w.virtualBack hx (y := (⟨"java/lang/String", "charAt", "(I)C"⟩ : MethodName)) (z := (⟨"java/lang/String", "charAt", "(I)C"⟩ : MethodName)) hown (mvT hZ (hw _ (List.mem_of_getElem? (i := 57) rfl))) (mvT hZ (hw _ (List.mem_of_getElem? (i := 58) rfl))) (notFace_of_selects (args := #[]) (mvT hZ (hw _ (List.mem_of_getElem? (i := 60) rfl)))) (mvT hZ (hw _ (List.mem_of_getElem? (i := 60) rfl))) (mvT hZ (hw _ (List.mem_of_getElem? (i := 59) rfl))) (by decide) (backOf (W := 0) (rm11 l Z a0 hw [] r15 t15 kt15 w0 vF T15.heap n0 Z15 Ex15 Vq15 Cq15 Vc15 O15 St) hZ (hw _ (List.mem_of_getElem? (i := 61) rfl)) (hw _ (List.mem_of_getElem? (i := 7) rfl)) (by decide) (by decide)) q20a q20c (g := (mkF m 99 #[.val (.int p1), .val (.int p2), .val (.int p3), .val (.int p4), .val (.int p5), .val (.int (1 : Int32)), .val (.ref b12), .val (.int ((p2 &&& (2147483647 : Int32)) % (2 : Int32))), .val (.ref r15)] [(.int (0 : Int32)), (.ref r15)])) rfl (by rw [hml]; rfl) (Steps.refl _) (argsL := [(.int (0 : Int32))]) (rest := []) (lenOf pd_0_2 rfl) rfl (by show 2 * 0 + _ ≤ _; exact Nat.le_of_eq rfl) (hb hby at_99) (fun _ _ => ⟨rfl, e18, (by decide : 3 + 0 ≤ _), (by decide : 7 + 0 ≤ _)⟩)
      dsimp only [Pt.U, Pt.locs, Pt.cells, Pt.slots] at X20 l20 y20 z20 st20 hQ20
      subst l20 y20 z20
      obtain ⟨rfl, N20q, er20⟩ := hQ20
      have e20 : T20.heap = T15.heap := er20
      have N20 := Fr.app N19w N20q
      refine Goes.via (fun t k => st20.trans k) ?_
      show Goes p e below (T20.setTop (mkF m 102 #[.val (.int p1), .val (.int p2), .val (.int p3), .val (.int p4), .val (.int p5), .val (.int (1 : Int32)), .val (.ref b12), .val (.int ((p2 &&& (2147483647 : Int32)) % (2 : Int32))), .val (.ref r15)] [(.int (65533 : Int32))])) _
      refine Goes.via (fun t k => X20.ldcInt hx hown (mvT hZ (hw _ (List.mem_of_getElem? (i := 87) rfl))) (g := (mkF m 102 #[.val (.int p1), .val (.int p2), .val (.int p3), .val (.int p4), .val (.int p5), .val (.int (1 : Int32)), .val (.ref b12), .val (.int ((p2 &&& (2147483647 : Int32)) % (2 : Int32))), .val (.ref r15)] [(.int (65533 : Int32))])) rfl (hb hby at_102) _ k) ?_
      show Goes p e below (T20.setTop (mkF m 104 #[.val (.int p1), .val (.int p2), .val (.int p3), .val (.int p4), .val (.int p5), .val (.int (1 : Int32)), .val (.ref b12), .val (.int ((p2 &&& (2147483647 : Int32)) % (2 : Int32))), .val (.ref r15)] [(.int (65533 : Int32)), (.int (65533 : Int32))])) _
      refine Goes.via (fun t k => XS.icmpNo X20.here hx rfl (hb hby at_104) rfl (teq (show (65533 : Int32) = (65533 : Int32) from rfl)).2 k) ?_
      show Goes p e below (T20.setTop (mkF m 107 #[.val (.int p1), .val (.int p2), .val (.int p3), .val (.int p4), .val (.int p5), .val (.int (1 : Int32)), .val (.ref b12), .val (.int ((p2 &&& (2147483647 : Int32)) % (2 : Int32))), .val (.ref r15)] [])) _
      refine Goes.via (fun t k => XS.iconst X20.here hx rfl (hb hby at_107) k) ?_
      show Goes p e below (T20.setTop (mkF m 108 #[.val (.int p1), .val (.int p2), .val (.int p3), .val (.int p4), .val (.int p5), .val (.int (1 : Int32)), .val (.ref b12), .val (.int ((p2 &&& (2147483647 : Int32)) % (2 : Int32))), .val (.ref r15)] [(.int (1 : Int32))])) _
      refine Goes.via (fun t k => XS.goto X20.here hx rfl (pc0 := 108) (pc' := 112) rfl (hb hby at_108) (by decide) (by decide) k) ?_
      show Goes p e below (T20.setTop (mkF m 112 #[.val (.int p1), .val (.int p2), .val (.int p3), .val (.int p4), .val (.int p5), .val (.int (1 : Int32)), .val (.ref b12), .val (.int ((p2 &&& (2147483647 : Int32)) % (2 : Int32))), .val (.ref r15)] [(.int (1 : Int32))])) _
      obtain ⟨fs, hr, hrun, hended, hRE⟩ := X20.leaveW hS (by rw [e20]; exact hk) (v := some (.int (1 : Int32))) (fun h => by rw [Bd.returns] at h; cases h)
      refine ⟨_, _, ?_, hrun, hended, _, _, rfl, ?_, hRE.1, hRE.2.1, hRE.2.2.1, hRE.2.2.2.mono (by decide) (by decide)⟩
      · exact retN X20 hx (t := .boolean) Bd.returns (by simp) (hb hby at_112) hr
      · show Q0 Z  h0 n0 _ T20.heap _ _
        rw [e20]
        exact ⟨rfl, N20⟩
    · show Goes p e below (T13.setTop (mkF m 62 #[.val (.int p1), .val (.int p2), .val (.int p3), .val (.int p4), .val (.int p5), .val (.int (1 : Int32)), .val (.ref b12), .val (.int ((p2 &&& (2147483647 : Int32)) % (2 : Int32))), .unset] [(.int ((p2 &&& (2147483647 : Int32)) % (2 : Int32))), (.ref b12)])) _
      obtain ⟨Lw21, X21w, N21w⟩ := ownPack X13 N13
      obtain ⟨_, _, ⟨T22, L22, k22, n22⟩, -, X22, S22, sg22, ⟨Lc22, hQ22, l22, y22, z22⟩, st22⟩ := callSS X21w hx (y := (⟨"cascabel/parser/Decoders", "replacement", "([BI)Ljava/lang/String;"⟩ : MethodName)) hown (mvT hZ (hw _ (List.mem_of_getElem? (i := 2) rfl))) (mvT hZ (hw _ (List.mem_of_getElem? (i := 3) rfl))) (mvT hZ (hw _ (List.mem_of_getElem? (i := 4) rfl))) (mvT hZ (hw _ (List.mem_of_getElem? (i := 5) rfl))) (by decide) (ownBackS (W := 0) (I := fun vm => IB Z vm []) (rm1b l Z a0 hw [] b12 ((p2 &&& (2147483647 : Int32)) % (2 : Int32)) (1 : Int32) k12 [(.int (nar .byte (p3.toInt8.toInt32)))] w0 vF h13 n0 Z13 V13 hs O13 St hcH hcw) hZ (fun vm q => hI.warm q) (hw _ (List.mem_of_getElem? (i := 5) rfl)) (hw _ (List.mem_of_getElem? (i := 4) rfl)) (by decide) (by decide)) (g := (mkF m 62 #[.val (.int p1), .val (.int p2), .val (.int p3), .val (.int p4), .val (.int p5), .val (.int (1 : Int32)), .val (.ref b12), .val (.int ((p2 &&& (2147483647 : Int32)) % (2 : Int32))), .unset] [(.int ((p2 &&& (2147483647 : Int32)) % (2 : Int32))), (.ref b12)])) rfl (by rw [hml]; rfl) (argsL := [(.ref b12), (.int ((p2 &&& (2147483647 : Int32)) % (2 : Int32)))]) (rest := []) (lenOf pd_0_0 rfl) rfl (by show 2 * 0 + _ ≤ _; exact Nat.le_of_eq rfl) (hb hby at_62) (fun _ _ => ⟨rfl, e13, (by decide : 1 + 2 ≤ _), (by decide : 1 + 4 ≤ _)⟩)
      dsimp only [Pt.U, Pt.locs, Pt.cells, Pt.slots] at X22 l22 y22 z22 st22 hQ22 S22 sg22
      subst l22 y22 z22
      obtain ⟨X22f, hS22, hZ22, hown22⟩ := rebS hS hk X22 S22 (by rw [← e13]; exact sg22) hZ hown
      have X22 := X22f
      have hS := hS22
      have hZ := hZ22
      have hown := hown22
      have hk : T22.heap.size ≤ T22.heap.size := Nat.le_refl _
      obtain ⟨r22, t22, kt22, rfl, N22q, Kc22, Ex22, Vq22, Vc22⟩ := hQ22
      have F22_11 := V13.keep Kc22 List.not_mem_nil
      have K22 : Keep h0 T22.heap [] := K13.trans Kc22 (fun x hx => nomatch hx)
      have Z22 : n0 ≤ T22.heap.size := Nat.le_trans Z13 Kc22.1
      have O22 := O13.keep Kc22 (fun x hx => nomatch hx)
      have N22 := Fr.app N21w N22q
      refine Goes.via (fun t k => st22.trans k) ?_
      show Goes p e below (T22.setTop (mkF m 65 #[.val (.int p1), .val (.int p2), .val (.int p3), .val (.int p4), .val (.int p5), .val (.int (1 : Int32)), .val (.ref b12), .val (.int ((p2 &&& (2147483647 : Int32)) % (2 : Int32))), .unset] [(.ref r22)])) _
      refine Goes.via (fun t k => XS.astore X22.here hx rfl (hb hby at_65) rfl rfl (l' := #[.val (.int p1), .val (.int p2), .val (.int p3), .val (.int p4), .val (.int p5), .val (.int (1 : Int32)), .val (.ref b12), .val (.int ((p2 &&& (2147483647 : Int32)) % (2 : Int32))), .val (.ref r22)]) rfl k) ?_
      show Goes p e below (T22.setTop (mkF m 67 #[.val (.int p1), .val (.int p2), .val (.int p3), .val (.int p4), .val (.int p5), .val (.int (1 : Int32)), .val (.ref b12), .val (.int ((p2 &&& (2147483647 : Int32)) % (2 : Int32))), .val (.ref r22)] [])) _
      refine Goes.via (fun t k => XS.aload X22.here hx rfl (hb hby at_67) rfl rfl k) ?_
      show Goes p e below (T22.setTop (mkF m 69 #[.val (.int p1), .val (.int p2), .val (.int p3), .val (.int p4), .val (.int p5), .val (.int (1 : Int32)), .val (.ref b12), .val (.int ((p2 &&& (2147483647 : Int32)) % (2 : Int32))), .val (.ref r22)] [(.ref r22)])) _
      refine Goes.via (fun t k => XS.ifnonnullYes X22.here hx rfl (pc0 := 69) (pc' := 74) rfl (hb hby at_69) rfl (by decide) (by decide) k) ?_
      show Goes p e below (T22.setTop (mkF m 74 #[.val (.int p1), .val (.int p2), .val (.int p3), .val (.int p4), .val (.int p5), .val (.int (1 : Int32)), .val (.ref b12), .val (.int ((p2 &&& (2147483647 : Int32)) % (2 : Int32))), .val (.ref r22)] [])) _
      refine Goes.via (fun t k => XS.iload X22.here hx rfl (hb hby at_74) rfl k) ?_
      show Goes p e below (T22.setTop (mkF m 76 #[.val (.int p1), .val (.int p2), .val (.int p3), .val (.int p4), .val (.int p5), .val (.int (1 : Int32)), .val (.ref b12), .val (.int ((p2 &&& (2147483647 : Int32)) % (2 : Int32))), .val (.ref r22)] [(.int ((p2 &&& (2147483647 : Int32)) % (2 : Int32)))])) _
      refine Goes.via (fun t k => XS.iload X22.here hx rfl (hb hby at_76) rfl k) ?_
      show Goes p e below (T22.setTop (mkF m 78 #[.val (.int p1), .val (.int p2), .val (.int p3), .val (.int p4), .val (.int p5), .val (.int (1 : Int32)), .val (.ref b12), .val (.int ((p2 &&& (2147483647 : Int32)) % (2 : Int32))), .val (.ref r22)] [(.int (1 : Int32)), (.int ((p2 &&& (2147483647 : Int32)) % (2 : Int32)))])) _
      have hc78_23 : ((p2 &&& (2147483647 : Int32)) % (2 : Int32)) = (1 : Int32) := (own_eq1 p2 hs)
      refine Goes.via (fun t k => XS.icmpNo X22.here hx rfl (hb hby at_78) rfl (teq hc78_23).2 k) ?_
      show Goes p e below (T22.setTop (mkF m 81 #[.val (.int p1), .val (.int p2), .val (.int p3), .val (.int p4), .val (.int p5), .val (.int (1 : Int32)), .val (.ref b12), .val (.int ((p2 &&& (2147483647 : Int32)) % (2 : Int32))), .val (.ref r22)] [])) _
      refine Goes.via (fun t k => XS.aload X22.here hx rfl (hb hby at_81) rfl rfl k) ?_
      show Goes p e below (T22.setTop (mkF m 83 #[.val (.int p1), .val (.int p2), .val (.int p3), .val (.int p4), .val (.int p5), .val (.int (1 : Int32)), .val (.ref b12), .val (.int ((p2 &&& (2147483647 : Int32)) % (2 : Int32))), .val (.ref r22)] [(.ref r22)])) _
      obtain ⟨Lw24, X24w, N24w⟩ := ownPack X22 N22
      obtain ⟨cq25, kq25, q25a, q25b, q25c⟩ := isOf hZ rfl Ex22
      obtain ⟨_, _, ⟨T25, L25, k25, n25⟩, -, X25, ⟨Lc25, hQ25, l25, y25, z25⟩, st25⟩ := X24w.virtualBack hx (y := (⟨"java/lang/String", "isEmpty", "()Z"⟩ : MethodName)) (z := (⟨"java/lang/String", "isEmpty", "()Z"⟩ : MethodName)) hown (mvT hZ (hw _ (List.mem_of_getElem? (i := 13) rfl))) (mvT hZ (hw _ (List.mem_of_getElem? (i := 14) rfl))) (notFace_of_selects (args := #[]) (mvT hZ (hw _ (List.mem_of_getElem? (i := 16) rfl)))) (mvT hZ (hw _ (List.mem_of_getElem? (i := 16) rfl))) (mvT hZ (hw _ (List.mem_of_getElem? (i := 15) rfl))) (by decide) (backOf (W := 0) (rm2 l Z a0 hw [] r22 t22 kt22 T22.heap n0 Z22 Vq22 Vc22) hZ (hw _ (List.mem_of_getElem? (i := 17) rfl)) (hw _ (List.mem_of_getElem? (i := 7) rfl)) (by decide) (by decide)) q25a q25c (g := (mkF m 83 #[.val (.int p1), .val (.int p2), .val (.int p3), .val (.int p4), .val (.int p5), .val (.int (1 : Int32)), .val (.ref b12), .val (.int ((p2 &&& (2147483647 : Int32)) % (2 : Int32))), .val (.ref r22)] [(.ref r22)])) rfl (by rw [hml]; rfl) (Steps.refl _) (argsL := []) (rest := []) (lenOf pd_0_3 rfl) rfl (by show 2 * 0 + _ ≤ _; exact Nat.le_of_eq rfl) (hb hby at_83) (fun _ _ => ⟨rfl, rfl, (by decide : 3 + 0 ≤ _), (by decide : 5 + 0 ≤ _)⟩)
      dsimp only [Pt.U, Pt.locs, Pt.cells, Pt.slots] at X25 l25 y25 z25 st25 hQ25
      subst l25 y25 z25
      obtain ⟨rfl, N25q, er25⟩ := hQ25
      have e25 : T25.heap = T22.heap := er25
      have N25 := Fr.app N24w N25q
      refine Goes.via (fun t k => st25.trans k) ?_
      show Goes p e below (T25.setTop (mkF m 86 #[.val (.int p1), .val (.int p2), .val (.int p3), .val (.int p4), .val (.int p5), .val (.int (1 : Int32)), .val (.ref b12), .val (.int ((p2 &&& (2147483647 : Int32)) % (2 : Int32))), .val (.ref r22)] [(.int (1 : Int32))])) _
      obtain ⟨fs, hr, hrun, hended, hRE⟩ := X25.leaveW hS (by rw [e25]; exact hk) (v := some (.int (1 : Int32))) (fun h => by rw [Bd.returns] at h; cases h)
      refine ⟨_, _, ?_, hrun, hended, _, _, rfl, ?_, hRE.1, hRE.2.1, hRE.2.2.1, hRE.2.2.2.mono (by decide) (by decide)⟩
      · exact retN X25 hx (t := .boolean) Bd.returns (by simp) (hb hby at_86) hr
      · show Q0 Z  h0 n0 _ T25.heap _ _
        rw [e25]
        exact ⟨rfl, N25⟩
  · rw [hl]
    show Goes p e below (s₁.setTop (mkF m 3 #[.val (.int p1), .val (.int p2), .val (.int p3), .val (.int p4), .val (.int p5), .unset, .unset, .unset, .unset] [(.int (2 : Int32))])) _
    refine Goes.via (fun t k => XS.istore X0.here hx rfl (hb hby at_3) rfl (l' := #[.val (.int p1), .val (.int p2), .val (.int p3), .val (.int p4), .val (.int p5), .val (.int (2 : Int32)), .unset, .unset, .unset]) rfl k) ?_
    show Goes p e below (s₁.setTop (mkF m 5 #[.val (.int p1), .val (.int p2), .val (.int p3), .val (.int p4), .val (.int p5), .val (.int (2 : Int32)), .unset, .unset, .unset] [])) _
    refine Goes.via (fun t k => XS.iload X0.here hx rfl (hb hby at_5) rfl k) ?_
    show Goes p e below (s₁.setTop (mkF m 7 #[.val (.int p1), .val (.int p2), .val (.int p3), .val (.int p4), .val (.int p5), .val (.int (2 : Int32)), .unset, .unset, .unset] [(.int (2 : Int32))])) _
    obtain ⟨T26, h26, k26, X26, e26, E26, A26, st26⟩ := newP X0 hx hZ (hw _ (List.mem_of_getElem? (i := 0) rfl)) e0 (g := (mkF m 7 #[.val (.int p1), .val (.int p2), .val (.int p3), .val (.int p4), .val (.int p5), .val (.int (2 : Int32)), .unset, .unset, .unset] [(.int (2 : Int32))])) rfl (hb hby at_7) rfl (by decide) (cap := 2) (by decide) (by decide) (by decide) (by decide)
    obtain ⟨b26, g26⟩ : ∃ z, z = h0.size := ⟨_, rfl⟩
    rw [← g26] at A26 st26
    have ge_b26 : n0 ≤ b26 := Nat.le_trans Z0 (Nat.le_of_eq g26.symm)
    have sz_b26 : h0.size ≤ b26 := Nat.le_trans (Keep.refl h0 []).1 (Nat.le_of_eq g26.symm)
    have K26 : Keep h0 h26 [] := (Keep.refl h0 []).ext E26
    have Z26 : n0 ≤ h26.size := Nat.le_trans Z0 E26.1
    have O26 := O0.ext E26
    have hk := Nat.le_trans hk E26.1
    have V26 : Arv Z h26 b26 k26 .byte (2 : Int32) [(.int (0 : Int32)), (.int (0 : Int32))] (.int (0 : Int32)) := (Arv.new A26 (by decide)).pad (pad_rep [] (.int (0 : Int32)) 2)
    refine Goes.via st26 ?_
    show Goes p e below (T26.setTop (mkF m 9 #[.val (.int p1), .val (.int p2), .val (.int p3), .val (.int p4), .val (.int p5), .val (.int (2 : Int32)), .unset, .unset, .unset] [(.ref b26)])) _
    refine Goes.via (fun t k => XS.astore X26.here hx rfl (hb hby at_9) rfl rfl (l' := #[.val (.int p1), .val (.int p2), .val (.int p3), .val (.int p4), .val (.int p5), .val (.int (2 : Int32)), .val (.ref b26), .unset, .unset]) rfl k) ?_
    show Goes p e below (T26.setTop (mkF m 11 #[.val (.int p1), .val (.int p2), .val (.int p3), .val (.int p4), .val (.int p5), .val (.int (2 : Int32)), .val (.ref b26), .unset, .unset] [])) _
    refine Goes.via (fun t k => XS.iload X26.here hx rfl (hb hby at_11) rfl k) ?_
    show Goes p e below (T26.setTop (mkF m 13 #[.val (.int p1), .val (.int p2), .val (.int p3), .val (.int p4), .val (.int p5), .val (.int (2 : Int32)), .val (.ref b26), .unset, .unset] [(.int (2 : Int32))])) _
    refine Goes.via (fun t k => XS.ifNo X26.here hx rfl (hb hby at_13) rfl ((if0 _ _).trans (tlt (show (0 : Int32) < (2 : Int32) from (by decide))).2.2.2) k) ?_
    show Goes p e below (T26.setTop (mkF m 16 #[.val (.int p1), .val (.int p2), .val (.int p3), .val (.int p4), .val (.int p5), .val (.int (2 : Int32)), .val (.ref b26), .unset, .unset] [])) _
    refine Goes.via (fun t k => XS.aload X26.here hx rfl (hb hby at_16) rfl rfl k) ?_
    show Goes p e below (T26.setTop (mkF m 18 #[.val (.int p1), .val (.int p2), .val (.int p3), .val (.int p4), .val (.int p5), .val (.int (2 : Int32)), .val (.ref b26), .unset, .unset] [(.ref b26)])) _
    refine Goes.via (fun t k => XS.iconst X26.here hx rfl (hb hby at_18) k) ?_
    show Goes p e below (T26.setTop (mkF m 19 #[.val (.int p1), .val (.int p2), .val (.int p3), .val (.int p4), .val (.int p5), .val (.int (2 : Int32)), .val (.ref b26), .unset, .unset] [(.int (0 : Int32)), (.ref b26)])) _
    refine Goes.via (fun t k => XS.iloadN X26.here hx rfl (hb hby at_19) rfl k) ?_
    show Goes p e below (T26.setTop (mkF m 20 #[.val (.int p1), .val (.int p2), .val (.int p3), .val (.int p4), .val (.int p5), .val (.int (2 : Int32)), .val (.ref b26), .unset, .unset] [(.int p3), (.int (0 : Int32)), (.ref b26)])) _
    refine Goes.via (fun t k => XS.i2b X26.here hx rfl (hb hby at_20) rfl k) ?_
    show Goes p e below (T26.setTop (mkF m 21 #[.val (.int p1), .val (.int p2), .val (.int p3), .val (.int p4), .val (.int p5), .val (.int (2 : Int32)), .val (.ref b26), .unset, .unset] [(.int (p3.toInt8.toInt32)), (.int (0 : Int32)), (.ref b26)])) _
    obtain ⟨cl27, Ar27, qa27, Sa27, Na27, Ha27, Ga27⟩ := V26
    have hin27 : ¬ ((0 : Int32) < 0 ∨ cl27.slots.size ≤ ((0 : Int32)).toNatClampNeg) := inb_of Sa27 ⟨by decide, by decide⟩
    obtain ⟨T27, h27, X27, e27, W27, st27⟩ := stB X26 hx hZ e26 Ar27 (j := (0 : Int32)) hin27 (g := (mkF m 21 #[.val (.int p1), .val (.int p2), .val (.int p3), .val (.int p4), .val (.int p5), .val (.int (2 : Int32)), .val (.ref b26), .unset, .unset] [(.int (p3.toInt8.toInt32)), (.int (0 : Int32)), (.ref b26)])) rfl rfl (hb hby at_21)
    have V27 : Arv Z h27 b26 k26 .byte (2 : Int32) [(.int (nar .byte (p3.toInt8.toInt32))), (.int (0 : Int32))] (.int (0 : Int32)) := Arv.set Ar27 qa27 Sa27 Na27 Ha27 Ga27 (fits_nar_byte _) W27 0 rfl (Nat.le_of_ble_eq_true rfl)
    have K27 : Keep h0 h27 [] := K26.wr W27 (Or.inr sz_b26)
    have Z27 : n0 ≤ h27.size := Nat.le_trans Z26 (Keep.of_wr W27).1
    have N27 := Fr.snoc X27 N0 ge_b26
    have O27 := O26.wr W27 ge_b26
    have hk := Nat.le_trans hk (Keep.of_wr W27).1
    refine Goes.via st27 ?_
    show Goes p e below (T27.setTop (mkF m 22 #[.val (.int p1), .val (.int p2), .val (.int p3), .val (.int p4), .val (.int p5), .val (.int (2 : Int32)), .val (.ref b26), .unset, .unset] [])) _
    refine Goes.via (fun t k => XS.iload X27.here hx rfl (hb hby at_22) rfl k) ?_
    show Goes p e below (T27.setTop (mkF m 24 #[.val (.int p1), .val (.int p2), .val (.int p3), .val (.int p4), .val (.int p5), .val (.int (2 : Int32)), .val (.ref b26), .unset, .unset] [(.int (2 : Int32))])) _
    refine Goes.via (fun t k => XS.iconst X27.here hx rfl (hb hby at_24) k) ?_
    show Goes p e below (T27.setTop (mkF m 25 #[.val (.int p1), .val (.int p2), .val (.int p3), .val (.int p4), .val (.int p5), .val (.int (2 : Int32)), .val (.ref b26), .unset, .unset] [(.int (1 : Int32)), (.int (2 : Int32))])) _
    refine Goes.via (fun t k => XS.icmpNo X27.here hx rfl (hb hby at_25) rfl (tlt (show (1 : Int32) < (2 : Int32) from (by decide))).2.2.2 k) ?_
    show Goes p e below (T27.setTop (mkF m 28 #[.val (.int p1), .val (.int p2), .val (.int p3), .val (.int p4), .val (.int p5), .val (.int (2 : Int32)), .val (.ref b26), .unset, .unset] [])) _
    refine Goes.via (fun t k => XS.aload X27.here hx rfl (hb hby at_28) rfl rfl k) ?_
    show Goes p e below (T27.setTop (mkF m 30 #[.val (.int p1), .val (.int p2), .val (.int p3), .val (.int p4), .val (.int p5), .val (.int (2 : Int32)), .val (.ref b26), .unset, .unset] [(.ref b26)])) _
    refine Goes.via (fun t k => XS.iconst X27.here hx rfl (hb hby at_30) k) ?_
    show Goes p e below (T27.setTop (mkF m 31 #[.val (.int p1), .val (.int p2), .val (.int p3), .val (.int p4), .val (.int p5), .val (.int (2 : Int32)), .val (.ref b26), .unset, .unset] [(.int (1 : Int32)), (.ref b26)])) _
    refine Goes.via (fun t k => XS.iloadN X27.here hx rfl (hb hby at_31) rfl k) ?_
    show Goes p e below (T27.setTop (mkF m 32 #[.val (.int p1), .val (.int p2), .val (.int p3), .val (.int p4), .val (.int p5), .val (.int (2 : Int32)), .val (.ref b26), .unset, .unset] [(.int p4), (.int (1 : Int32)), (.ref b26)])) _
    refine Goes.via (fun t k => XS.i2b X27.here hx rfl (hb hby at_32) rfl k) ?_
    show Goes p e below (T27.setTop (mkF m 33 #[.val (.int p1), .val (.int p2), .val (.int p3), .val (.int p4), .val (.int p5), .val (.int (2 : Int32)), .val (.ref b26), .unset, .unset] [(.int (p4.toInt8.toInt32)), (.int (1 : Int32)), (.ref b26)])) _
    obtain ⟨cl28, Ar28, qa28, Sa28, Na28, Ha28, Ga28⟩ := V27
    have hin28 : ¬ ((1 : Int32) < 0 ∨ cl28.slots.size ≤ ((1 : Int32)).toNatClampNeg) := inb_of Sa28 ⟨by decide, by decide⟩
    obtain ⟨T28, h28, X28, e28, W28, st28⟩ := stB X27 hx hZ e27 Ar28 (j := (1 : Int32)) hin28 (g := (mkF m 33 #[.val (.int p1), .val (.int p2), .val (.int p3), .val (.int p4), .val (.int p5), .val (.int (2 : Int32)), .val (.ref b26), .unset, .unset] [(.int (p4.toInt8.toInt32)), (.int (1 : Int32)), (.ref b26)])) rfl rfl (hb hby at_33)
    have V28 : Arv Z h28 b26 k26 .byte (2 : Int32) [(.int (nar .byte (p3.toInt8.toInt32))), (.int (nar .byte (p4.toInt8.toInt32)))] (.int (0 : Int32)) := Arv.set Ar28 qa28 Sa28 Na28 Ha28 Ga28 (fits_nar_byte _) W28 1 rfl (Nat.le_of_ble_eq_true rfl)
    have K28 : Keep h0 h28 [] := K27.wr W28 (Or.inr sz_b26)
    have Z28 : n0 ≤ h28.size := Nat.le_trans Z27 (Keep.of_wr W28).1
    have N28 := Fr.snoc X28 N27 ge_b26
    have O28 := O27.wr W28 ge_b26
    have hk := Nat.le_trans hk (Keep.of_wr W28).1
    refine Goes.via st28 ?_
    show Goes p e below (T28.setTop (mkF m 34 #[.val (.int p1), .val (.int p2), .val (.int p3), .val (.int p4), .val (.int p5), .val (.int (2 : Int32)), .val (.ref b26), .unset, .unset] [])) _
    refine Goes.via (fun t k => XS.iload X28.here hx rfl (hb hby at_34) rfl k) ?_
    show Goes p e below (T28.setTop (mkF m 36 #[.val (.int p1), .val (.int p2), .val (.int p3), .val (.int p4), .val (.int p5), .val (.int (2 : Int32)), .val (.ref b26), .unset, .unset] [(.int (2 : Int32))])) _
    refine Goes.via (fun t k => XS.iconst X28.here hx rfl (hb hby at_36) k) ?_
    show Goes p e below (T28.setTop (mkF m 37 #[.val (.int p1), .val (.int p2), .val (.int p3), .val (.int p4), .val (.int p5), .val (.int (2 : Int32)), .val (.ref b26), .unset, .unset] [(.int (2 : Int32)), (.int (2 : Int32))])) _
    refine Goes.via (fun t k => XS.icmpYes X28.here hx rfl (pc0 := 37) (pc' := 47) rfl (hb hby at_37) rfl (flt (show ¬ ((2 : Int32) < (2 : Int32)) from (by decide))).2.2.2 (by decide) (by decide) k) ?_
    show Goes p e below (T28.setTop (mkF m 47 #[.val (.int p1), .val (.int p2), .val (.int p3), .val (.int p4), .val (.int p5), .val (.int (2 : Int32)), .val (.ref b26), .unset, .unset] [])) _
    refine Goes.via (fun t k => XS.iloadN X28.here hx rfl (hb hby at_47) rfl k) ?_
    show Goes p e below (T28.setTop (mkF m 48 #[.val (.int p1), .val (.int p2), .val (.int p3), .val (.int p4), .val (.int p5), .val (.int (2 : Int32)), .val (.ref b26), .unset, .unset] [(.int p2)])) _
    refine Goes.via (fun t k => X28.ldcInt hx hown (mvT hZ (hw _ (List.mem_of_getElem? (i := 1) rfl))) (g := (mkF m 48 #[.val (.int p1), .val (.int p2), .val (.int p3), .val (.int p4), .val (.int p5), .val (.int (2 : Int32)), .val (.ref b26), .unset, .unset] [(.int p2)])) rfl (hb hby at_48) _ k) ?_
    show Goes p e below (T28.setTop (mkF m 50 #[.val (.int p1), .val (.int p2), .val (.int p3), .val (.int p4), .val (.int p5), .val (.int (2 : Int32)), .val (.ref b26), .unset, .unset] [(.int (2147483647 : Int32)), (.int p2)])) _
    refine Goes.via (fun t k => XS.iand X28.here hx rfl (hb hby at_50) rfl k) ?_
    show Goes p e below (T28.setTop (mkF m 51 #[.val (.int p1), .val (.int p2), .val (.int p3), .val (.int p4), .val (.int p5), .val (.int (2 : Int32)), .val (.ref b26), .unset, .unset] [(.int (p2 &&& (2147483647 : Int32)))])) _
    refine Goes.via (fun t k => XS.iload X28.here hx rfl (hb hby at_51) rfl k) ?_
    show Goes p e below (T28.setTop (mkF m 53 #[.val (.int p1), .val (.int p2), .val (.int p3), .val (.int p4), .val (.int p5), .val (.int (2 : Int32)), .val (.ref b26), .unset, .unset] [(.int (2 : Int32)), (.int (p2 &&& (2147483647 : Int32)))])) _
    refine Goes.via (fun t k => XS.iconst X28.here hx rfl (hb hby at_53) k) ?_
    show Goes p e below (T28.setTop (mkF m 54 #[.val (.int p1), .val (.int p2), .val (.int p3), .val (.int p4), .val (.int p5), .val (.int (2 : Int32)), .val (.ref b26), .unset, .unset] [(.int (1 : Int32)), (.int (2 : Int32)), (.int (p2 &&& (2147483647 : Int32)))])) _
    refine Goes.via (fun t k => XS.iadd X28.here hx rfl (hb hby at_54) rfl k) ?_
    show Goes p e below (T28.setTop (mkF m 55 #[.val (.int p1), .val (.int p2), .val (.int p3), .val (.int p4), .val (.int p5), .val (.int (2 : Int32)), .val (.ref b26), .unset, .unset] [(.int (3 : Int32)), (.int (p2 &&& (2147483647 : Int32)))])) _
    refine Goes.via (fun t k => iremM X28 hx rfl (hb hby at_55) rfl (by decide) k) ?_
    show Goes p e below (T28.setTop (mkF m 56 #[.val (.int p1), .val (.int p2), .val (.int p3), .val (.int p4), .val (.int p5), .val (.int (2 : Int32)), .val (.ref b26), .unset, .unset] [(.int ((p2 &&& (2147483647 : Int32)) % (3 : Int32)))])) _
    refine Goes.via (fun t k => XS.istore X28.here hx rfl (hb hby at_56) rfl (l' := #[.val (.int p1), .val (.int p2), .val (.int p3), .val (.int p4), .val (.int p5), .val (.int (2 : Int32)), .val (.ref b26), .val (.int ((p2 &&& (2147483647 : Int32)) % (3 : Int32))), .unset]) rfl k) ?_
    show Goes p e below (T28.setTop (mkF m 58 #[.val (.int p1), .val (.int p2), .val (.int p3), .val (.int p4), .val (.int p5), .val (.int (2 : Int32)), .val (.ref b26), .val (.int ((p2 &&& (2147483647 : Int32)) % (3 : Int32))), .unset] [])) _
    refine Goes.via (fun t k => XS.aload X28.here hx rfl (hb hby at_58) rfl rfl k) ?_
    show Goes p e below (T28.setTop (mkF m 60 #[.val (.int p1), .val (.int p2), .val (.int p3), .val (.int p4), .val (.int p5), .val (.int (2 : Int32)), .val (.ref b26), .val (.int ((p2 &&& (2147483647 : Int32)) % (3 : Int32))), .unset] [(.ref b26)])) _
    refine Goes.via (fun t k => XS.iload X28.here hx rfl (hb hby at_60) rfl k) ?_
    show Goes p e below (T28.setTop (mkF m 62 #[.val (.int p1), .val (.int p2), .val (.int p3), .val (.int p4), .val (.int p5), .val (.int (2 : Int32)), .val (.ref b26), .val (.int ((p2 &&& (2147483647 : Int32)) % (3 : Int32))), .unset] [(.int ((p2 &&& (2147483647 : Int32)) % (3 : Int32))), (.ref b26)])) _
    by_cases hs : ((p2 &&& (2147483647 : Int32)) % (3 : Int32)) < (2 : Int32)
    · show Goes p e below (T28.setTop (mkF m 62 #[.val (.int p1), .val (.int p2), .val (.int p3), .val (.int p4), .val (.int p5), .val (.int (2 : Int32)), .val (.ref b26), .val (.int ((p2 &&& (2147483647 : Int32)) % (3 : Int32))), .unset] [(.int ((p2 &&& (2147483647 : Int32)) % (3 : Int32))), (.ref b26)])) _
      obtain ⟨Lw29, X29w, N29w⟩ := ownPack X28 N28
      obtain ⟨_, _, ⟨T30, L30, k30, n30⟩, -, X30, ⟨Lc30, hQ30, l30, y30, z30⟩, st30⟩ := Jvm.LawKit.callS X29w hx (y := (⟨"cascabel/parser/Decoders", "replacement", "([BI)Ljava/lang/String;"⟩ : MethodName)) hown (mvT hZ (hw _ (List.mem_of_getElem? (i := 2) rfl))) (mvT hZ (hw _ (List.mem_of_getElem? (i := 3) rfl))) (mvT hZ (hw _ (List.mem_of_getElem? (i := 4) rfl))) (mvT hZ (hw _ (List.mem_of_getElem? (i := 5) rfl))) (by decide) (backOf (W := 0) (rm1a l Z a0 hw [] b26 ((p2 &&& (2147483647 : Int32)) % (3 : Int32)) (2 : Int32) k26 [(.int (nar .byte (p3.toInt8.toInt32))), (.int (nar .byte (p4.toInt8.toInt32)))] w0 vF h28 n0 Z28 V28 hs O28 St) hZ (hw _ (List.mem_of_getElem? (i := 5) rfl)) (hw _ (List.mem_of_getElem? (i := 4) rfl)) (by decide) (by decide)) (g := (mkF m 62 #[.val (.int p1), .val (.int p2), .val (.int p3), .val (.int p4), .val (.int p5), .val (.int (2 : Int32)), .val (.ref b26), .val (.int ((p2 &&& (2147483647 : Int32)) % (3 : Int32))), .unset] [(.int ((p2 &&& (2147483647 : Int32)) % (3 : Int32))), (.ref b26)])) rfl (by rw [hml]; rfl) (argsL := [(.ref b26), (.int ((p2 &&& (2147483647 : Int32)) % (3 : Int32)))]) (rest := []) (lenOf pd_0_0 rfl) rfl (by show 2 * 0 + _ ≤ _; exact Nat.le_of_eq rfl) (hb hby at_62) (fun _ _ => ⟨rfl, e28, (by decide : 1 + 2 ≤ _), (by decide : 2 + 6 ≤ _)⟩)
      dsimp only [Pt.U, Pt.locs, Pt.cells, Pt.slots] at X30 l30 y30 z30 st30 hQ30
      subst l30 y30 z30
      obtain ⟨r30, t30, kt30, rfl, N30q, gr30, Kc30, Ex30, Vq30, Cq30, Vc30⟩ := hQ30
      have F30_5 := V28.keep Kc30 List.not_mem_nil
      have K30 : Keep h0 T30.heap [] := K28.trans Kc30 (fun x hx => nomatch hx)
      have Z30 : n0 ≤ T30.heap.size := Nat.le_trans Z28 Kc30.1
      have O30 := O28.keep Kc30 (fun x hx => nomatch hx)
      have hk := Nat.le_trans hk Kc30.1
      have N30 := Fr.app N29w N30q
      refine Goes.via st30 ?_
      show Goes p e below (T30.setTop (mkF m 65 #[.val (.int p1), .val (.int p2), .val (.int p3), .val (.int p4), .val (.int p5), .val (.int (2 : Int32)), .val (.ref b26), .val (.int ((p2 &&& (2147483647 : Int32)) % (3 : Int32))), .unset] [(.ref r30)])) _
      refine Goes.via (fun t k => XS.astore X30.here hx rfl (hb hby at_65) rfl rfl (l' := #[.val (.int p1), .val (.int p2), .val (.int p3), .val (.int p4), .val (.int p5), .val (.int (2 : Int32)), .val (.ref b26), .val (.int ((p2 &&& (2147483647 : Int32)) % (3 : Int32))), .val (.ref r30)]) rfl k) ?_
      show Goes p e below (T30.setTop (mkF m 67 #[.val (.int p1), .val (.int p2), .val (.int p3), .val (.int p4), .val (.int p5), .val (.int (2 : Int32)), .val (.ref b26), .val (.int ((p2 &&& (2147483647 : Int32)) % (3 : Int32))), .val (.ref r30)] [])) _
      refine Goes.via (fun t k => XS.aload X30.here hx rfl (hb hby at_67) rfl rfl k) ?_
      show Goes p e below (T30.setTop (mkF m 69 #[.val (.int p1), .val (.int p2), .val (.int p3), .val (.int p4), .val (.int p5), .val (.int (2 : Int32)), .val (.ref b26), .val (.int ((p2 &&& (2147483647 : Int32)) % (3 : Int32))), .val (.ref r30)] [(.ref r30)])) _
      refine Goes.via (fun t k => XS.ifnonnullYes X30.here hx rfl (pc0 := 69) (pc' := 74) rfl (hb hby at_69) rfl (by decide) (by decide) k) ?_
      show Goes p e below (T30.setTop (mkF m 74 #[.val (.int p1), .val (.int p2), .val (.int p3), .val (.int p4), .val (.int p5), .val (.int (2 : Int32)), .val (.ref b26), .val (.int ((p2 &&& (2147483647 : Int32)) % (3 : Int32))), .val (.ref r30)] [])) _
      refine Goes.via (fun t k => XS.iload X30.here hx rfl (hb hby at_74) rfl k) ?_
      show Goes p e below (T30.setTop (mkF m 76 #[.val (.int p1), .val (.int p2), .val (.int p3), .val (.int p4), .val (.int p5), .val (.int (2 : Int32)), .val (.ref b26), .val (.int ((p2 &&& (2147483647 : Int32)) % (3 : Int32))), .val (.ref r30)] [(.int ((p2 &&& (2147483647 : Int32)) % (3 : Int32)))])) _
      refine Goes.via (fun t k => XS.iload X30.here hx rfl (hb hby at_76) rfl k) ?_
      show Goes p e below (T30.setTop (mkF m 78 #[.val (.int p1), .val (.int p2), .val (.int p3), .val (.int p4), .val (.int p5), .val (.int (2 : Int32)), .val (.ref b26), .val (.int ((p2 &&& (2147483647 : Int32)) % (3 : Int32))), .val (.ref r30)] [(.int (2 : Int32)), (.int ((p2 &&& (2147483647 : Int32)) % (3 : Int32)))])) _
      have hc78_31 : ¬ (((p2 &&& (2147483647 : Int32)) % (3 : Int32)) = (2 : Int32)) := (own_ne hs)
      refine Goes.via (fun t k => XS.icmpYes X30.here hx rfl (pc0 := 78) (pc' := 87) rfl (hb hby at_78) rfl (feq hc78_31).2 (by decide) (by decide) k) ?_
      show Goes p e below (T30.setTop (mkF m 87 #[.val (.int p1), .val (.int p2), .val (.int p3), .val (.int p4), .val (.int p5), .val (.int (2 : Int32)), .val (.ref b26), .val (.int ((p2 &&& (2147483647 : Int32)) % (3 : Int32))), .val (.ref r30)] [])) _
      refine Goes.via (fun t k => XS.aload X30.here hx rfl (hb hby at_87) rfl rfl k) ?_
      show Goes p e below (T30.setTop (mkF m 89 #[.val (.int p1), .val (.int p2), .val (.int p3), .val (.int p4), .val (.int p5), .val (.int (2 : Int32)), .val (.ref b26), .val (.int ((p2 &&& (2147483647 : Int32)) % (3 : Int32))), .val (.ref r30)] [(.ref r30)])) _
      try clear Kc30; try clear N30q; try clear st30; try clear z30; try clear y30; try clear l30; try clear hQ30; try clear Lc30; try clear n30; try clear k30; try clear L30; try clear N29w
      try clear X29w; try clear Lw29; try clear O28; try clear N28; try clear Z28; try clear K28; try clear V28; try clear st28; try clear W28; try clear e28; try clear X28; try clear h28
      try clear T28; try clear hin28; try clear Ga28; try clear Ha28; try clear Na28; try clear Sa28; try clear qa28; try clear Ar28; try clear cl28; try clear O27; try clear N27; try clear Z27
      try clear K27; try clear V27; try clear st27; try clear W27; try clear e27; try clear X27; try clear h27; try clear T27; try clear hin27; try clear Ga27; try clear Ha27; try clear Na27
      try clear Sa27; try clear qa27; try clear Ar27; try clear cl27; try clear V26; try clear O26; try clear Z26; try clear K26; try clear size; try clear h0; try clear g26; try clear st26
      try clear A26; try clear E26; try clear e26; try clear X26; try clear h26; try clear T26
      obtain ⟨Lw32, X32w, N32w⟩ := ownPack X30 N30
      obtain ⟨cq33, kq33, q33a, q33b, q33c⟩ := isOf hZ rfl Ex30
      obtain ⟨_, _, ⟨T33, L33, k33, n33⟩, -, X33, ⟨Lc33, hQ33, l33, y33, z33⟩, st33⟩ := X32w.virtualBack hx (y := (⟨"java/lang/String", "length", "()I"⟩ : MethodName)) (z := (⟨"java/lang/String", "length", "()I"⟩ : MethodName)) hown (mvT hZ (hw _ (List.mem_of_getElem? (i := 47) rfl))) (mvT hZ (hw _ (List.mem_of_getElem? (i := 48) rfl))) (notFace_of_selects (args := #[]) (mvT hZ (hw _ (List.mem_of_getElem? (i := 50) rfl)))) (mvT hZ (hw _ (List.mem_of_getElem? (i := 50) rfl))) (mvT hZ (hw _ (List.mem_of_getElem? (i := 49) rfl))) (by decide) (backOf (W := 0) (rm9 l Z a0 hw [] r30 t30 kt30 w0 vF T30.heap n0 Z30 Ex30 Vq30 Cq30 Vc30 O30 St) hZ (hw _ (List.mem_of_getElem? (i := 51) rfl)) (hw _ (List.mem_of_getElem? (i := 7) rfl)) (by decide) (by decide)) q33a q33c (g := (mkF m 89 #[.val (.int p1), .val (.int p2), .val (.int p3), .val (.int p4), .val (.int p5), .val (.int (2 : Int32)), .val (.ref b26), .val (.int ((p2 &&& (2147483647 : Int32)) % (3 : Int32))), .val (.ref r30)] [(.ref r30)])) rfl (by rw [hml]; rfl) (Steps.refl _) (argsL := []) (rest := []) (lenOf pd_0_1 rfl) rfl (by show 2 * 0 + _ ≤ _; exact Nat.le_of_eq rfl) (hb hby at_89) (fun _ _ => ⟨rfl, rfl, (by decide : 3 + 0 ≤ _), (by decide : 8 + 0 ≤ _)⟩)
      dsimp only [Pt.U, Pt.locs, Pt.cells, Pt.slots] at X33 l33 y33 z33 st33 hQ33
      subst l33 y33 z33
      obtain ⟨rfl, N33q, er33⟩ := hQ33
      have e33 : T33.heap = T30.heap := er33
      have N33 := Fr.app N32w N33q
      refine Goes.via (fun t k => st33.trans k) ?_
      show Goes p e below (T33.setTop (mkF m 92 #[.val (.int p1), .val (.int p2), .val (.int p3), .val (.int p4), .val (.int p5), .val (.int (2 : Int32)), .val (.ref b26), .val (.int ((p2 &&& (2147483647 : Int32)) % (3 : Int32))), .val (.ref r30)] [(.int (1 : Int32))])) _
      refine Goes.via (fun t k => XS.iconst X33.here hx rfl (hb hby at_92) k) ?_
      show Goes p e below (T33.setTop (mkF m 93 #[.val (.int p1), .val (.int p2), .val (.int p3), .val (.int p4), .val (.int p5), .val (.int (2 : Int32)), .val (.ref b26), .val (.int ((p2 &&& (2147483647 : Int32)) % (3 : Int32))), .val (.ref r30)] [(.int (1 : Int32)), (.int (1 : Int32))])) _
      refine Goes.via (fun t k => XS.icmpNo X33.here hx rfl (hb hby at_93) rfl (teq (show (1 : Int32) = (1 : Int32) from rfl)).2 k) ?_
      show Goes p e below (T33.setTop (mkF m 96 #[.val (.int p1), .val (.int p2), .val (.int p3), .val (.int p4), .val (.int p5), .val (.int (2 : Int32)), .val (.ref b26), .val (.int ((p2 &&& (2147483647 : Int32)) % (3 : Int32))), .val (.ref r30)] [])) _
      refine Goes.via (fun t k => XS.aload X33.here hx rfl (hb hby at_96) rfl rfl k) ?_
      show Goes p e below (T33.setTop (mkF m 98 #[.val (.int p1), .val (.int p2), .val (.int p3), .val (.int p4), .val (.int p5), .val (.int (2 : Int32)), .val (.ref b26), .val (.int ((p2 &&& (2147483647 : Int32)) % (3 : Int32))), .val (.ref r30)] [(.ref r30)])) _
      refine Goes.via (fun t k => XS.iconst X33.here hx rfl (hb hby at_98) k) ?_
      show Goes p e below (T33.setTop (mkF m 99 #[.val (.int p1), .val (.int p2), .val (.int p3), .val (.int p4), .val (.int p5), .val (.int (2 : Int32)), .val (.ref b26), .val (.int ((p2 &&& (2147483647 : Int32)) % (3 : Int32))), .val (.ref r30)] [(.int (0 : Int32)), (.ref r30)])) _
      obtain ⟨Lw34, X34w, N34w⟩ := ownPack X33 N33
      obtain ⟨cq35, kq35, q35a, q35b, q35c⟩ := isOf hZ e33 Ex30
      obtain ⟨_, _, ⟨T35, L35, k35, n35⟩, -, X35, ⟨Lc35, hQ35, l35, y35, z35⟩, st35⟩ := X34w.virtualBack hx (y := (⟨"java/lang/String", "charAt", "(I)C"⟩ : MethodName)) (z := (⟨"java/lang/String", "charAt", "(I)C"⟩ : MethodName)) hown (mvT hZ (hw _ (List.mem_of_getElem? (i := 57) rfl))) (mvT hZ (hw _ (List.mem_of_getElem? (i := 58) rfl))) (notFace_of_selects (args := #[]) (mvT hZ (hw _ (List.mem_of_getElem? (i := 60) rfl)))) (mvT hZ (hw _ (List.mem_of_getElem? (i := 60) rfl))) (mvT hZ (hw _ (List.mem_of_getElem? (i := 59) rfl))) (by decide) (backOf (W := 0) (rm11 l Z a0 hw [] r30 t30 kt30 w0 vF T30.heap n0 Z30 Ex30 Vq30 Cq30 Vc30 O30 St) hZ (hw _ (List.mem_of_getElem? (i := 61) rfl)) (hw _ (List.mem_of_getElem? (i := 7) rfl)) (by decide) (by decide)) q35a q35c (g := (mkF m 99 #[.val (.int p1), .val (.int p2), .val (.int p3), .val (.int p4), .val (.int p5), .val (.int (2 : Int32)), .val (.ref b26), .val (.int ((p2 &&& (2147483647 : Int32)) % (3 : Int32))), .val (.ref r30)] [(.int (0 : Int32)), (.ref r30)])) rfl (by rw [hml]; rfl) (Steps.refl _) (argsL := [(.int (0 : Int32))]) (rest := []) (lenOf pd_0_2 rfl) rfl (by show 2 * 0 + _ ≤ _; exact Nat.le_of_eq rfl) (hb hby at_99) (fun _ _ => ⟨rfl, e33, (by decide : 3 + 0 ≤ _), (by decide : 8 + 0 ≤ _)⟩)
      dsimp only [Pt.U, Pt.locs, Pt.cells, Pt.slots] at X35 l35 y35 z35 st35 hQ35
      subst l35 y35 z35
      obtain ⟨rfl, N35q, er35⟩ := hQ35
      have e35 : T35.heap = T30.heap := er35
      have N35 := Fr.app N34w N35q
      refine Goes.via (fun t k => st35.trans k) ?_
      show Goes p e below (T35.setTop (mkF m 102 #[.val (.int p1), .val (.int p2), .val (.int p3), .val (.int p4), .val (.int p5), .val (.int (2 : Int32)), .val (.ref b26), .val (.int ((p2 &&& (2147483647 : Int32)) % (3 : Int32))), .val (.ref r30)] [(.int (65533 : Int32))])) _
      refine Goes.via (fun t k => X35.ldcInt hx hown (mvT hZ (hw _ (List.mem_of_getElem? (i := 87) rfl))) (g := (mkF m 102 #[.val (.int p1), .val (.int p2), .val (.int p3), .val (.int p4), .val (.int p5), .val (.int (2 : Int32)), .val (.ref b26), .val (.int ((p2 &&& (2147483647 : Int32)) % (3 : Int32))), .val (.ref r30)] [(.int (65533 : Int32))])) rfl (hb hby at_102) _ k) ?_
      show Goes p e below (T35.setTop (mkF m 104 #[.val (.int p1), .val (.int p2), .val (.int p3), .val (.int p4), .val (.int p5), .val (.int (2 : Int32)), .val (.ref b26), .val (.int ((p2 &&& (2147483647 : Int32)) % (3 : Int32))), .val (.ref r30)] [(.int (65533 : Int32)), (.int (65533 : Int32))])) _
      refine Goes.via (fun t k => XS.icmpNo X35.here hx rfl (hb hby at_104) rfl (teq (show (65533 : Int32) = (65533 : Int32) from rfl)).2 k) ?_
      show Goes p e below (T35.setTop (mkF m 107 #[.val (.int p1), .val (.int p2), .val (.int p3), .val (.int p4), .val (.int p5), .val (.int (2 : Int32)), .val (.ref b26), .val (.int ((p2 &&& (2147483647 : Int32)) % (3 : Int32))), .val (.ref r30)] [])) _
      refine Goes.via (fun t k => XS.iconst X35.here hx rfl (hb hby at_107) k) ?_
      show Goes p e below (T35.setTop (mkF m 108 #[.val (.int p1), .val (.int p2), .val (.int p3), .val (.int p4), .val (.int p5), .val (.int (2 : Int32)), .val (.ref b26), .val (.int ((p2 &&& (2147483647 : Int32)) % (3 : Int32))), .val (.ref r30)] [(.int (1 : Int32))])) _
      refine Goes.via (fun t k => XS.goto X35.here hx rfl (pc0 := 108) (pc' := 112) rfl (hb hby at_108) (by decide) (by decide) k) ?_
      show Goes p e below (T35.setTop (mkF m 112 #[.val (.int p1), .val (.int p2), .val (.int p3), .val (.int p4), .val (.int p5), .val (.int (2 : Int32)), .val (.ref b26), .val (.int ((p2 &&& (2147483647 : Int32)) % (3 : Int32))), .val (.ref r30)] [(.int (1 : Int32))])) _
      obtain ⟨fs, hr, hrun, hended, hRE⟩ := X35.leaveW hS (by rw [e35]; exact hk) (v := some (.int (1 : Int32))) (fun h => by rw [Bd.returns] at h; cases h)
      refine ⟨_, _, ?_, hrun, hended, _, _, rfl, ?_, hRE.1, hRE.2.1, hRE.2.2.1, hRE.2.2.2.mono (by decide) (by decide)⟩
      · exact retN X35 hx (t := .boolean) Bd.returns (by simp) (hb hby at_112) hr
      · show Q0 Z  h0 n0 _ T35.heap _ _
        rw [e35]
        exact ⟨rfl, N35⟩
    · show Goes p e below (T28.setTop (mkF m 62 #[.val (.int p1), .val (.int p2), .val (.int p3), .val (.int p4), .val (.int p5), .val (.int (2 : Int32)), .val (.ref b26), .val (.int ((p2 &&& (2147483647 : Int32)) % (3 : Int32))), .unset] [(.int ((p2 &&& (2147483647 : Int32)) % (3 : Int32))), (.ref b26)])) _
      obtain ⟨Lw36, X36w, N36w⟩ := ownPack X28 N28
      obtain ⟨_, _, ⟨T37, L37, k37, n37⟩, -, X37, S37, sg37, ⟨Lc37, hQ37, l37, y37, z37⟩, st37⟩ := callSS X36w hx (y := (⟨"cascabel/parser/Decoders", "replacement", "([BI)Ljava/lang/String;"⟩ : MethodName)) hown (mvT hZ (hw _ (List.mem_of_getElem? (i := 2) rfl))) (mvT hZ (hw _ (List.mem_of_getElem? (i := 3) rfl))) (mvT hZ (hw _ (List.mem_of_getElem? (i := 4) rfl))) (mvT hZ (hw _ (List.mem_of_getElem? (i := 5) rfl))) (by decide) (ownBackS (W := 0) (I := fun vm => IB Z vm []) (rm1b l Z a0 hw [] b26 ((p2 &&& (2147483647 : Int32)) % (3 : Int32)) (2 : Int32) k26 [(.int (nar .byte (p3.toInt8.toInt32))), (.int (nar .byte (p4.toInt8.toInt32)))] w0 vF h28 n0 Z28 V28 hs O28 St hcH hcw) hZ (fun vm q => hI.warm q) (hw _ (List.mem_of_getElem? (i := 5) rfl)) (hw _ (List.mem_of_getElem? (i := 4) rfl)) (by decide) (by decide)) (g := (mkF m 62 #[.val (.int p1), .val (.int p2), .val (.int p3), .val (.int p4), .val (.int p5), .val (.int (2 : Int32)), .val (.ref b26), .val (.int ((p2 &&& (2147483647 : Int32)) % (3 : Int32))), .unset] [(.int ((p2 &&& (2147483647 : Int32)) % (3 : Int32))), (.ref b26)])) rfl (by rw [hml]; rfl) (argsL := [(.ref b26), (.int ((p2 &&& (2147483647 : Int32)) % (3 : Int32)))]) (rest := []) (lenOf pd_0_0 rfl) rfl (by show 2 * 0 + _ ≤ _; exact Nat.le_of_eq rfl) (hb hby at_62) (fun _ _ => ⟨rfl, e28, (by decide : 1 + 2 ≤ _), (by decide : 2 + 4 ≤ _)⟩)
      dsimp only [Pt.U, Pt.locs, Pt.cells, Pt.slots] at X37 l37 y37 z37 st37 hQ37 S37 sg37
      subst l37 y37 z37
      obtain ⟨X37f, hS37, hZ37, hown37⟩ := rebS hS hk X37 S37 (by rw [← e28]; exact sg37) hZ hown
      have X37 := X37f
      have hS := hS37
      have hZ := hZ37
      have hown := hown37
      have hk : T37.heap.size ≤ T37.heap.size := Nat.le_refl _
      obtain ⟨r37, t37, kt37, rfl, N37q, Kc37, Ex37, Vq37, Vc37⟩ := hQ37
      have F37_11 := V28.keep Kc37 List.not_mem_nil
      have K37 : Keep h0 T37.heap [] := K28.trans Kc37 (fun x hx => nomatch hx)
      have Z37 : n0 ≤ T37.heap.size := Nat.le_trans Z28 Kc37.1
      have O37 := O28.keep Kc37 (fun x hx => nomatch hx)
      have N37 := Fr.app N36w N37q
      refine Goes.via (fun t k => st37.trans k) ?_
      show Goes p e below (T37.setTop (mkF m 65 #[.val (.int p1), .val (.int p2), .val (.int p3), .val (.int p4), .val (.int p5), .val (.int (2 : Int32)), .val (.ref b26), .val (.int ((p2 &&& (2147483647 : Int32)) % (3 : Int32))), .unset] [(.ref r37)])) _
      refine Goes.via (fun t k => XS.astore X37.here hx rfl (hb hby at_65) rfl rfl (l' := #[.val (.int p1), .val (.int p2), .val (.int p3), .val (.int p4), .val (.int p5), .val (.int (2 : Int32)), .val (.ref b26), .val (.int ((p2 &&& (2147483647 : Int32)) % (3 : Int32))), .val (.ref r37)]) rfl k) ?_
      show Goes p e below (T37.setTop (mkF m 67 #[.val (.int p1), .val (.int p2), .val (.int p3), .val (.int p4), .val (.int p5), .val (.int (2 : Int32)), .val (.ref b26), .val (.int ((p2 &&& (2147483647 : Int32)) % (3 : Int32))), .val (.ref r37)] [])) _
      refine Goes.via (fun t k => XS.aload X37.here hx rfl (hb hby at_67) rfl rfl k) ?_
      show Goes p e below (T37.setTop (mkF m 69 #[.val (.int p1), .val (.int p2), .val (.int p3), .val (.int p4), .val (.int p5), .val (.int (2 : Int32)), .val (.ref b26), .val (.int ((p2 &&& (2147483647 : Int32)) % (3 : Int32))), .val (.ref r37)] [(.ref r37)])) _
      refine Goes.via (fun t k => XS.ifnonnullYes X37.here hx rfl (pc0 := 69) (pc' := 74) rfl (hb hby at_69) rfl (by decide) (by decide) k) ?_
      show Goes p e below (T37.setTop (mkF m 74 #[.val (.int p1), .val (.int p2), .val (.int p3), .val (.int p4), .val (.int p5), .val (.int (2 : Int32)), .val (.ref b26), .val (.int ((p2 &&& (2147483647 : Int32)) % (3 : Int32))), .val (.ref r37)] [])) _
      refine Goes.via (fun t k => XS.iload X37.here hx rfl (hb hby at_74) rfl k) ?_
      show Goes p e below (T37.setTop (mkF m 76 #[.val (.int p1), .val (.int p2), .val (.int p3), .val (.int p4), .val (.int p5), .val (.int (2 : Int32)), .val (.ref b26), .val (.int ((p2 &&& (2147483647 : Int32)) % (3 : Int32))), .val (.ref r37)] [(.int ((p2 &&& (2147483647 : Int32)) % (3 : Int32)))])) _
      refine Goes.via (fun t k => XS.iload X37.here hx rfl (hb hby at_76) rfl k) ?_
      show Goes p e below (T37.setTop (mkF m 78 #[.val (.int p1), .val (.int p2), .val (.int p3), .val (.int p4), .val (.int p5), .val (.int (2 : Int32)), .val (.ref b26), .val (.int ((p2 &&& (2147483647 : Int32)) % (3 : Int32))), .val (.ref r37)] [(.int (2 : Int32)), (.int ((p2 &&& (2147483647 : Int32)) % (3 : Int32)))])) _
      have hc78_38 : ((p2 &&& (2147483647 : Int32)) % (3 : Int32)) = (2 : Int32) := (own_eq2 p2 hs)
      refine Goes.via (fun t k => XS.icmpNo X37.here hx rfl (hb hby at_78) rfl (teq hc78_38).2 k) ?_
      show Goes p e below (T37.setTop (mkF m 81 #[.val (.int p1), .val (.int p2), .val (.int p3), .val (.int p4), .val (.int p5), .val (.int (2 : Int32)), .val (.ref b26), .val (.int ((p2 &&& (2147483647 : Int32)) % (3 : Int32))), .val (.ref r37)] [])) _
      refine Goes.via (fun t k => XS.aload X37.here hx rfl (hb hby at_81) rfl rfl k) ?_
      show Goes p e below (T37.setTop (mkF m 83 #[.val (.int p1), .val (.int p2), .val (.int p3), .val (.int p4), .val (.int p5), .val (.int (2 : Int32)), .val (.ref b26), .val (.int ((p2 &&& (2147483647 : Int32)) % (3 : Int32))), .val (.ref r37)] [(.ref r37)])) _
      try clear Kc37; try clear N37q; try clear hown37; try clear hZ37; try clear hS37; try clear X37f; try clear st37; try clear z37; try clear y37; try clear l37; try clear hQ37; try clear Lc37
      try clear sg37; try clear S37; try clear n37; try clear k37; try clear L37; try clear N36w; try clear X36w; try clear Lw36; try clear O28; try clear N28; try clear Z28; try clear K28
      try clear V28; try clear st28; try clear W28; try clear e28; try clear X28; try clear h28; try clear T28; try clear hin28; try clear Ga28; try clear Ha28; try clear Na28; try clear Sa28
      try clear qa28; try clear Ar28; try clear cl28; try clear O27; try clear N27; try clear Z27; try clear K27; try clear V27; try clear st27; try clear W27; try clear e27; try clear X27
      try clear h27; try clear T27; try clear hin27; try clear Ga27; try clear Ha27; try clear Na27; try clear Sa27; try clear qa27; try clear Ar27; try clear cl27; try clear V26; try clear O26
      try clear Z26; try clear K26; try clear size; try clear h0; try clear g26; try clear st26; try clear A26; try clear E26; try clear e26; try clear X26; try clear h26; try clear T26
      obtain ⟨Lw39, X39w, N39w⟩ := ownPack X37 N37
      obtain ⟨cq40, kq40, q40a, q40b, q40c⟩ := isOf hZ rfl Ex37
      obtain ⟨_, _, ⟨T40, L40, k40, n40⟩, -, X40, ⟨Lc40, hQ40, l40, y40, z40⟩, st40⟩ := X39w.virtualBack hx (y := (⟨"java/lang/String", "isEmpty", "()Z"⟩ : MethodName)) (z := (⟨"java/lang/String", "isEmpty", "()Z"⟩ : MethodName)) hown (mvT hZ (hw _ (List.mem_of_getElem? (i := 13) rfl))) (mvT hZ (hw _ (List.mem_of_getElem? (i := 14) rfl))) (notFace_of_selects (args := #[]) (mvT hZ (hw _ (List.mem_of_getElem? (i := 16) rfl)))) (mvT hZ (hw _ (List.mem_of_getElem? (i := 16) rfl))) (mvT hZ (hw _ (List.mem_of_getElem? (i := 15) rfl))) (by decide) (backOf (W := 0) (rm2 l Z a0 hw [] r37 t37 kt37 T37.heap n0 Z37 Vq37 Vc37) hZ (hw _ (List.mem_of_getElem? (i := 17) rfl)) (hw _ (List.mem_of_getElem? (i := 7) rfl)) (by decide) (by decide)) q40a q40c (g := (mkF m 83 #[.val (.int p1), .val (.int p2), .val (.int p3), .val (.int p4), .val (.int p5), .val (.int (2 : Int32)), .val (.ref b26), .val (.int ((p2 &&& (2147483647 : Int32)) % (3 : Int32))), .val (.ref r37)] [(.ref r37)])) rfl (by rw [hml]; rfl) (Steps.refl _) (argsL := []) (rest := []) (lenOf pd_0_3 rfl) rfl (by show 2 * 0 + _ ≤ _; exact Nat.le_of_eq rfl) (hb hby at_83) (fun _ _ => ⟨rfl, rfl, (by decide : 3 + 0 ≤ _), (by decide : 6 + 0 ≤ _)⟩)
      dsimp only [Pt.U, Pt.locs, Pt.cells, Pt.slots] at X40 l40 y40 z40 st40 hQ40
      subst l40 y40 z40
      obtain ⟨rfl, N40q, er40⟩ := hQ40
      have e40 : T40.heap = T37.heap := er40
      have N40 := Fr.app N39w N40q
      refine Goes.via (fun t k => st40.trans k) ?_
      show Goes p e below (T40.setTop (mkF m 86 #[.val (.int p1), .val (.int p2), .val (.int p3), .val (.int p4), .val (.int p5), .val (.int (2 : Int32)), .val (.ref b26), .val (.int ((p2 &&& (2147483647 : Int32)) % (3 : Int32))), .val (.ref r37)] [(.int (1 : Int32))])) _
      obtain ⟨fs, hr, hrun, hended, hRE⟩ := X40.leaveW hS (by rw [e40]; exact hk) (v := some (.int (1 : Int32))) (fun h => by rw [Bd.returns] at h; cases h)
      refine ⟨_, _, ?_, hrun, hended, _, _, rfl, ?_, hRE.1, hRE.2.1, hRE.2.2.1, hRE.2.2.2.mono (by decide) (by decide)⟩
      · exact retN X40 hx (t := .boolean) Bd.returns (by simp) (hb hby at_86) hr
      · show Q0 Z  h0 n0 _ T40.heap _ _
        rw [e40]
        exact ⟨rfl, N40⟩
  · rw [hl]
    show Goes p e below (s₁.setTop (mkF m 3 #[.val (.int p1), .val (.int p2), .val (.int p3), .val (.int p4), .val (.int p5), .unset, .unset, .unset, .unset] [(.int (3 : Int32))])) _
    refine Goes.via (fun t k => XS.istore X0.here hx rfl (hb hby at_3) rfl (l' := #[.val (.int p1), .val (.int p2), .val (.int p3), .val (.int p4), .val (.int p5), .val (.int (3 : Int32)), .unset, .unset, .unset]) rfl k) ?_
    show Goes p e below (s₁.setTop (mkF m 5 #[.val (.int p1), .val (.int p2), .val (.int p3), .val (.int p4), .val (.int p5), .val (.int (3 : Int32)), .unset, .unset, .unset] [])) _
    refine Goes.via (fun t k => XS.iload X0.here hx rfl (hb hby at_5) rfl k) ?_
    show Goes p e below (s₁.setTop (mkF m 7 #[.val (.int p1), .val (.int p2), .val (.int p3), .val (.int p4), .val (.int p5), .val (.int (3 : Int32)), .unset, .unset, .unset] [(.int (3 : Int32))])) _
    obtain ⟨T41, h41, k41, X41, e41, E41, A41, st41⟩ := newP X0 hx hZ (hw _ (List.mem_of_getElem? (i := 0) rfl)) e0 (g := (mkF m 7 #[.val (.int p1), .val (.int p2), .val (.int p3), .val (.int p4), .val (.int p5), .val (.int (3 : Int32)), .unset, .unset, .unset] [(.int (3 : Int32))])) rfl (hb hby at_7) rfl (by decide) (cap := 3) (by decide) (by decide) (by decide) (by decide)
    obtain ⟨b41, g41⟩ : ∃ z, z = h0.size := ⟨_, rfl⟩
    rw [← g41] at A41 st41
    have ge_b41 : n0 ≤ b41 := Nat.le_trans Z0 (Nat.le_of_eq g41.symm)
    have sz_b41 : h0.size ≤ b41 := Nat.le_trans (Keep.refl h0 []).1 (Nat.le_of_eq g41.symm)
    have K41 : Keep h0 h41 [] := (Keep.refl h0 []).ext E41
    have Z41 : n0 ≤ h41.size := Nat.le_trans Z0 E41.1
    have O41 := O0.ext E41
    have hk := Nat.le_trans hk E41.1
    have V41 : Arv Z h41 b41 k41 .byte (3 : Int32) [(.int (0 : Int32)), (.int (0 : Int32)), (.int (0 : Int32))] (.int (0 : Int32)) := (Arv.new A41 (by decide)).pad (pad_rep [] (.int (0 : Int32)) 3)
    refine Goes.via st41 ?_
    show Goes p e below (T41.setTop (mkF m 9 #[.val (.int p1), .val (.int p2), .val (.int p3), .val (.int p4), .val (.int p5), .val (.int (3 : Int32)), .unset, .unset, .unset] [(.ref b41)])) _
    refine Goes.via (fun t k => XS.astore X41.here hx rfl (hb hby at_9) rfl rfl (l' := #[.val (.int p1), .val (.int p2), .val (.int p3), .val (.int p4), .val (.int p5), .val (.int (3 : Int32)), .val (.ref b41), .unset, .unset]) rfl k) ?_
    show Goes p e below (T41.setTop (mkF m 11 #[.val (.int p1), .val (.int p2), .val (.int p3), .val (.int p4), .val (.int p5), .val (.int (3 : Int32)), .val (.ref b41), .unset, .unset] [])) _
    refine Goes.via (fun t k => XS.iload X41.here hx rfl (hb hby at_11) rfl k) ?_
    show Goes p e below (T41.setTop (mkF m 13 #[.val (.int p1), .val (.int p2), .val (.int p3), .val (.int p4), .val (.int p5), .val (.int (3 : Int32)), .val (.ref b41), .unset, .unset] [(.int (3 : Int32))])) _
    refine Goes.via (fun t k => XS.ifNo X41.here hx rfl (hb hby at_13) rfl ((if0 _ _).trans (tlt (show (0 : Int32) < (3 : Int32) from (by decide))).2.2.2) k) ?_
    show Goes p e below (T41.setTop (mkF m 16 #[.val (.int p1), .val (.int p2), .val (.int p3), .val (.int p4), .val (.int p5), .val (.int (3 : Int32)), .val (.ref b41), .unset, .unset] [])) _
    refine Goes.via (fun t k => XS.aload X41.here hx rfl (hb hby at_16) rfl rfl k) ?_
    show Goes p e below (T41.setTop (mkF m 18 #[.val (.int p1), .val (.int p2), .val (.int p3), .val (.int p4), .val (.int p5), .val (.int (3 : Int32)), .val (.ref b41), .unset, .unset] [(.ref b41)])) _
    refine Goes.via (fun t k => XS.iconst X41.here hx rfl (hb hby at_18) k) ?_
    show Goes p e below (T41.setTop (mkF m 19 #[.val (.int p1), .val (.int p2), .val (.int p3), .val (.int p4), .val (.int p5), .val (.int (3 : Int32)), .val (.ref b41), .unset, .unset] [(.int (0 : Int32)), (.ref b41)])) _
    refine Goes.via (fun t k => XS.iloadN X41.here hx rfl (hb hby at_19) rfl k) ?_
    show Goes p e below (T41.setTop (mkF m 20 #[.val (.int p1), .val (.int p2), .val (.int p3), .val (.int p4), .val (.int p5), .val (.int (3 : Int32)), .val (.ref b41), .unset, .unset] [(.int p3), (.int (0 : Int32)), (.ref b41)])) _
    refine Goes.via (fun t k => XS.i2b X41.here hx rfl (hb hby at_20) rfl k) ?_
    show Goes p e below (T41.setTop (mkF m 21 #[.val (.int p1), .val (.int p2), .val (.int p3), .val (.int p4), .val (.int p5), .val (.int (3 : Int32)), .val (.ref b41), .unset, .unset] [(.int (p3.toInt8.toInt32)), (.int (0 : Int32)), (.ref b41)])) _
    obtain ⟨cl42, Ar42, qa42, Sa42, Na42, Ha42, Ga42⟩ := V41
    have hin42 : ¬ ((0 : Int32) < 0 ∨ cl42.slots.size ≤ ((0 : Int32)).toNatClampNeg) := inb_of Sa42 ⟨by decide, by decide⟩
    obtain ⟨T42, h42, X42, e42, W42, st42⟩ := stB X41 hx hZ e41 Ar42 (j := (0 : Int32)) hin42 (g := (mkF m 21 #[.val (.int p1), .val (.int p2), .val (.int p3), .val (.int p4), .val (.int p5), .val (.int (3 : Int32)), .val (.ref b41), .unset, .unset] [(.int (p3.toInt8.toInt32)), (.int (0 : Int32)), (.ref b41)])) rfl rfl (hb hby at_21)
    have V42 : Arv Z h42 b41 k41 .byte (3 : Int32) [(.int (nar .byte (p3.toInt8.toInt32))), (.int (0 : Int32)), (.int (0 : Int32))] (.int (0 : Int32)) := Arv.set Ar42 qa42 Sa42 Na42 Ha42 Ga42 (fits_nar_byte _) W42 0 rfl (Nat.le_of_ble_eq_true rfl)
    have K42 : Keep h0 h42 [] := K41.wr W42 (Or.inr sz_b41)
    have Z42 : n0 ≤ h42.size := Nat.le_trans Z41 (Keep.of_wr W42).1
    have N42 := Fr.snoc X42 N0 ge_b41
    have O42 := O41.wr W42 ge_b41
    have hk := Nat.le_trans hk (Keep.of_wr W42).1
    refine Goes.via st42 ?_
    show Goes p e below (T42.setTop (mkF m 22 #[.val (.int p1), .val (.int p2), .val (.int p3), .val (.int p4), .val (.int p5), .val (.int (3 : Int32)), .val (.ref b41), .unset, .unset] [])) _
    refine Goes.via (fun t k => XS.iload X42.here hx rfl (hb hby at_22) rfl k) ?_
    show Goes p e below (T42.setTop (mkF m 24 #[.val (.int p1), .val (.int p2), .val (.int p3), .val (.int p4), .val (.int p5), .val (.int (3 : Int32)), .val (.ref b41), .unset, .unset] [(.int (3 : Int32))])) _
    refine Goes.via (fun t k => XS.iconst X42.here hx rfl (hb hby at_24) k) ?_
    show Goes p e below (T42.setTop (mkF m 25 #[.val (.int p1), .val (.int p2), .val (.int p3), .val (.int p4), .val (.int p5), .val (.int (3 : Int32)), .val (.ref b41), .unset, .unset] [(.int (1 : Int32)), (.int (3 : Int32))])) _
    refine Goes.via (fun t k => XS.icmpNo X42.here hx rfl (hb hby at_25) rfl (tlt (show (1 : Int32) < (3 : Int32) from (by decide))).2.2.2 k) ?_
    show Goes p e below (T42.setTop (mkF m 28 #[.val (.int p1), .val (.int p2), .val (.int p3), .val (.int p4), .val (.int p5), .val (.int (3 : Int32)), .val (.ref b41), .unset, .unset] [])) _
    refine Goes.via (fun t k => XS.aload X42.here hx rfl (hb hby at_28) rfl rfl k) ?_
    show Goes p e below (T42.setTop (mkF m 30 #[.val (.int p1), .val (.int p2), .val (.int p3), .val (.int p4), .val (.int p5), .val (.int (3 : Int32)), .val (.ref b41), .unset, .unset] [(.ref b41)])) _
    refine Goes.via (fun t k => XS.iconst X42.here hx rfl (hb hby at_30) k) ?_
    show Goes p e below (T42.setTop (mkF m 31 #[.val (.int p1), .val (.int p2), .val (.int p3), .val (.int p4), .val (.int p5), .val (.int (3 : Int32)), .val (.ref b41), .unset, .unset] [(.int (1 : Int32)), (.ref b41)])) _
    refine Goes.via (fun t k => XS.iloadN X42.here hx rfl (hb hby at_31) rfl k) ?_
    show Goes p e below (T42.setTop (mkF m 32 #[.val (.int p1), .val (.int p2), .val (.int p3), .val (.int p4), .val (.int p5), .val (.int (3 : Int32)), .val (.ref b41), .unset, .unset] [(.int p4), (.int (1 : Int32)), (.ref b41)])) _
    refine Goes.via (fun t k => XS.i2b X42.here hx rfl (hb hby at_32) rfl k) ?_
    show Goes p e below (T42.setTop (mkF m 33 #[.val (.int p1), .val (.int p2), .val (.int p3), .val (.int p4), .val (.int p5), .val (.int (3 : Int32)), .val (.ref b41), .unset, .unset] [(.int (p4.toInt8.toInt32)), (.int (1 : Int32)), (.ref b41)])) _
    obtain ⟨cl43, Ar43, qa43, Sa43, Na43, Ha43, Ga43⟩ := V42
    have hin43 : ¬ ((1 : Int32) < 0 ∨ cl43.slots.size ≤ ((1 : Int32)).toNatClampNeg) := inb_of Sa43 ⟨by decide, by decide⟩
    obtain ⟨T43, h43, X43, e43, W43, st43⟩ := stB X42 hx hZ e42 Ar43 (j := (1 : Int32)) hin43 (g := (mkF m 33 #[.val (.int p1), .val (.int p2), .val (.int p3), .val (.int p4), .val (.int p5), .val (.int (3 : Int32)), .val (.ref b41), .unset, .unset] [(.int (p4.toInt8.toInt32)), (.int (1 : Int32)), (.ref b41)])) rfl rfl (hb hby at_33)
    have V43 : Arv Z h43 b41 k41 .byte (3 : Int32) [(.int (nar .byte (p3.toInt8.toInt32))), (.int (nar .byte (p4.toInt8.toInt32))), (.int (0 : Int32))] (.int (0 : Int32)) := Arv.set Ar43 qa43 Sa43 Na43 Ha43 Ga43 (fits_nar_byte _) W43 1 rfl (Nat.le_of_ble_eq_true rfl)
    have K43 : Keep h0 h43 [] := K42.wr W43 (Or.inr sz_b41)
    have Z43 : n0 ≤ h43.size := Nat.le_trans Z42 (Keep.of_wr W43).1
    have N43 := Fr.snoc X43 N42 ge_b41
    have O43 := O42.wr W43 ge_b41
    have hk := Nat.le_trans hk (Keep.of_wr W43).1
    refine Goes.via st43 ?_
    show Goes p e below (T43.setTop (mkF m 34 #[.val (.int p1), .val (.int p2), .val (.int p3), .val (.int p4), .val (.int p5), .val (.int (3 : Int32)), .val (.ref b41), .unset, .unset] [])) _
    refine Goes.via (fun t k => XS.iload X43.here hx rfl (hb hby at_34) rfl k) ?_
    show Goes p e below (T43.setTop (mkF m 36 #[.val (.int p1), .val (.int p2), .val (.int p3), .val (.int p4), .val (.int p5), .val (.int (3 : Int32)), .val (.ref b41), .unset, .unset] [(.int (3 : Int32))])) _
    refine Goes.via (fun t k => XS.iconst X43.here hx rfl (hb hby at_36) k) ?_
    show Goes p e below (T43.setTop (mkF m 37 #[.val (.int p1), .val (.int p2), .val (.int p3), .val (.int p4), .val (.int p5), .val (.int (3 : Int32)), .val (.ref b41), .unset, .unset] [(.int (2 : Int32)), (.int (3 : Int32))])) _
    refine Goes.via (fun t k => XS.icmpNo X43.here hx rfl (hb hby at_37) rfl (tlt (show (2 : Int32) < (3 : Int32) from (by decide))).2.2.2 k) ?_
    show Goes p e below (T43.setTop (mkF m 40 #[.val (.int p1), .val (.int p2), .val (.int p3), .val (.int p4), .val (.int p5), .val (.int (3 : Int32)), .val (.ref b41), .unset, .unset] [])) _
    refine Goes.via (fun t k => XS.aload X43.here hx rfl (hb hby at_40) rfl rfl k) ?_
    show Goes p e below (T43.setTop (mkF m 42 #[.val (.int p1), .val (.int p2), .val (.int p3), .val (.int p4), .val (.int p5), .val (.int (3 : Int32)), .val (.ref b41), .unset, .unset] [(.ref b41)])) _
    refine Goes.via (fun t k => XS.iconst X43.here hx rfl (hb hby at_42) k) ?_
    show Goes p e below (T43.setTop (mkF m 43 #[.val (.int p1), .val (.int p2), .val (.int p3), .val (.int p4), .val (.int p5), .val (.int (3 : Int32)), .val (.ref b41), .unset, .unset] [(.int (2 : Int32)), (.ref b41)])) _
    refine Goes.via (fun t k => XS.iload X43.here hx rfl (hb hby at_43) rfl k) ?_
    show Goes p e below (T43.setTop (mkF m 45 #[.val (.int p1), .val (.int p2), .val (.int p3), .val (.int p4), .val (.int p5), .val (.int (3 : Int32)), .val (.ref b41), .unset, .unset] [(.int p5), (.int (2 : Int32)), (.ref b41)])) _
    refine Goes.via (fun t k => XS.i2b X43.here hx rfl (hb hby at_45) rfl k) ?_
    show Goes p e below (T43.setTop (mkF m 46 #[.val (.int p1), .val (.int p2), .val (.int p3), .val (.int p4), .val (.int p5), .val (.int (3 : Int32)), .val (.ref b41), .unset, .unset] [(.int (p5.toInt8.toInt32)), (.int (2 : Int32)), (.ref b41)])) _
    obtain ⟨cl44, Ar44, qa44, Sa44, Na44, Ha44, Ga44⟩ := V43
    have hin44 : ¬ ((2 : Int32) < 0 ∨ cl44.slots.size ≤ ((2 : Int32)).toNatClampNeg) := inb_of Sa44 ⟨by decide, by decide⟩
    obtain ⟨T44, h44, X44, e44, W44, st44⟩ := stB X43 hx hZ e43 Ar44 (j := (2 : Int32)) hin44 (g := (mkF m 46 #[.val (.int p1), .val (.int p2), .val (.int p3), .val (.int p4), .val (.int p5), .val (.int (3 : Int32)), .val (.ref b41), .unset, .unset] [(.int (p5.toInt8.toInt32)), (.int (2 : Int32)), (.ref b41)])) rfl rfl (hb hby at_46)
    have V44 : Arv Z h44 b41 k41 .byte (3 : Int32) [(.int (nar .byte (p3.toInt8.toInt32))), (.int (nar .byte (p4.toInt8.toInt32))), (.int (nar .byte (p5.toInt8.toInt32)))] (.int (0 : Int32)) := Arv.set Ar44 qa44 Sa44 Na44 Ha44 Ga44 (fits_nar_byte _) W44 2 rfl (Nat.le_of_ble_eq_true rfl)
    have K44 : Keep h0 h44 [] := K43.wr W44 (Or.inr sz_b41)
    have Z44 : n0 ≤ h44.size := Nat.le_trans Z43 (Keep.of_wr W44).1
    have N44 := Fr.snoc X44 N43 ge_b41
    have O44 := O43.wr W44 ge_b41
    have hk := Nat.le_trans hk (Keep.of_wr W44).1
    refine Goes.via st44 ?_
    show Goes p e below (T44.setTop (mkF m 47 #[.val (.int p1), .val (.int p2), .val (.int p3), .val (.int p4), .val (.int p5), .val (.int (3 : Int32)), .val (.ref b41), .unset, .unset] [])) _
    refine Goes.via (fun t k => XS.iloadN X44.here hx rfl (hb hby at_47) rfl k) ?_
    show Goes p e below (T44.setTop (mkF m 48 #[.val (.int p1), .val (.int p2), .val (.int p3), .val (.int p4), .val (.int p5), .val (.int (3 : Int32)), .val (.ref b41), .unset, .unset] [(.int p2)])) _
    refine Goes.via (fun t k => X44.ldcInt hx hown (mvT hZ (hw _ (List.mem_of_getElem? (i := 1) rfl))) (g := (mkF m 48 #[.val (.int p1), .val (.int p2), .val (.int p3), .val (.int p4), .val (.int p5), .val (.int (3 : Int32)), .val (.ref b41), .unset, .unset] [(.int p2)])) rfl (hb hby at_48) _ k) ?_
    show Goes p e below (T44.setTop (mkF m 50 #[.val (.int p1), .val (.int p2), .val (.int p3), .val (.int p4), .val (.int p5), .val (.int (3 : Int32)), .val (.ref b41), .unset, .unset] [(.int (2147483647 : Int32)), (.int p2)])) _
    refine Goes.via (fun t k => XS.iand X44.here hx rfl (hb hby at_50) rfl k) ?_
    show Goes p e below (T44.setTop (mkF m 51 #[.val (.int p1), .val (.int p2), .val (.int p3), .val (.int p4), .val (.int p5), .val (.int (3 : Int32)), .val (.ref b41), .unset, .unset] [(.int (p2 &&& (2147483647 : Int32)))])) _
    refine Goes.via (fun t k => XS.iload X44.here hx rfl (hb hby at_51) rfl k) ?_
    show Goes p e below (T44.setTop (mkF m 53 #[.val (.int p1), .val (.int p2), .val (.int p3), .val (.int p4), .val (.int p5), .val (.int (3 : Int32)), .val (.ref b41), .unset, .unset] [(.int (3 : Int32)), (.int (p2 &&& (2147483647 : Int32)))])) _
    refine Goes.via (fun t k => XS.iconst X44.here hx rfl (hb hby at_53) k) ?_
    show Goes p e below (T44.setTop (mkF m 54 #[.val (.int p1), .val (.int p2), .val (.int p3), .val (.int p4), .val (.int p5), .val (.int (3 : Int32)), .val (.ref b41), .unset, .unset] [(.int (1 : Int32)), (.int (3 : Int32)), (.int (p2 &&& (2147483647 : Int32)))])) _
    refine Goes.via (fun t k => XS.iadd X44.here hx rfl (hb hby at_54) rfl k) ?_
    show Goes p e below (T44.setTop (mkF m 55 #[.val (.int p1), .val (.int p2), .val (.int p3), .val (.int p4), .val (.int p5), .val (.int (3 : Int32)), .val (.ref b41), .unset, .unset] [(.int (4 : Int32)), (.int (p2 &&& (2147483647 : Int32)))])) _
    refine Goes.via (fun t k => iremM X44 hx rfl (hb hby at_55) rfl (by decide) k) ?_
    show Goes p e below (T44.setTop (mkF m 56 #[.val (.int p1), .val (.int p2), .val (.int p3), .val (.int p4), .val (.int p5), .val (.int (3 : Int32)), .val (.ref b41), .unset, .unset] [(.int ((p2 &&& (2147483647 : Int32)) % (4 : Int32)))])) _
    refine Goes.via (fun t k => XS.istore X44.here hx rfl (hb hby at_56) rfl (l' := #[.val (.int p1), .val (.int p2), .val (.int p3), .val (.int p4), .val (.int p5), .val (.int (3 : Int32)), .val (.ref b41), .val (.int ((p2 &&& (2147483647 : Int32)) % (4 : Int32))), .unset]) rfl k) ?_
    show Goes p e below (T44.setTop (mkF m 58 #[.val (.int p1), .val (.int p2), .val (.int p3), .val (.int p4), .val (.int p5), .val (.int (3 : Int32)), .val (.ref b41), .val (.int ((p2 &&& (2147483647 : Int32)) % (4 : Int32))), .unset] [])) _
    refine Goes.via (fun t k => XS.aload X44.here hx rfl (hb hby at_58) rfl rfl k) ?_
    show Goes p e below (T44.setTop (mkF m 60 #[.val (.int p1), .val (.int p2), .val (.int p3), .val (.int p4), .val (.int p5), .val (.int (3 : Int32)), .val (.ref b41), .val (.int ((p2 &&& (2147483647 : Int32)) % (4 : Int32))), .unset] [(.ref b41)])) _
    refine Goes.via (fun t k => XS.iload X44.here hx rfl (hb hby at_60) rfl k) ?_
    show Goes p e below (T44.setTop (mkF m 62 #[.val (.int p1), .val (.int p2), .val (.int p3), .val (.int p4), .val (.int p5), .val (.int (3 : Int32)), .val (.ref b41), .val (.int ((p2 &&& (2147483647 : Int32)) % (4 : Int32))), .unset] [(.int ((p2 &&& (2147483647 : Int32)) % (4 : Int32))), (.ref b41)])) _
    by_cases hs : ((p2 &&& (2147483647 : Int32)) % (4 : Int32)) < (3 : Int32)
    · show Goes p e below (T44.setTop (mkF m 62 #[.val (.int p1), .val (.int p2), .val (.int p3), .val (.int p4), .val (.int p5), .val (.int (3 : Int32)), .val (.ref b41), .val (.int ((p2 &&& (2147483647 : Int32)) % (4 : Int32))), .unset] [(.int ((p2 &&& (2147483647 : Int32)) % (4 : Int32))), (.ref b41)])) _
      obtain ⟨Lw45, X45w, N45w⟩ := ownPack X44 N44
      obtain ⟨_, _, ⟨T46, L46, k46, n46⟩, -, X46, ⟨Lc46, hQ46, l46, y46, z46⟩, st46⟩ := Jvm.LawKit.callS X45w hx (y := (⟨"cascabel/parser/Decoders", "replacement", "([BI)Ljava/lang/String;"⟩ : MethodName)) hown (mvT hZ (hw _ (List.mem_of_getElem? (i := 2) rfl))) (mvT hZ (hw _ (List.mem_of_getElem? (i := 3) rfl))) (mvT hZ (hw _ (List.mem_of_getElem? (i := 4) rfl))) (mvT hZ (hw _ (List.mem_of_getElem? (i := 5) rfl))) (by decide) (backOf (W := 0) (rm1a l Z a0 hw [] b41 ((p2 &&& (2147483647 : Int32)) % (4 : Int32)) (3 : Int32) k41 [(.int (nar .byte (p3.toInt8.toInt32))), (.int (nar .byte (p4.toInt8.toInt32))), (.int (nar .byte (p5.toInt8.toInt32)))] w0 vF h44 n0 Z44 V44 hs O44 St) hZ (hw _ (List.mem_of_getElem? (i := 5) rfl)) (hw _ (List.mem_of_getElem? (i := 4) rfl)) (by decide) (by decide)) (g := (mkF m 62 #[.val (.int p1), .val (.int p2), .val (.int p3), .val (.int p4), .val (.int p5), .val (.int (3 : Int32)), .val (.ref b41), .val (.int ((p2 &&& (2147483647 : Int32)) % (4 : Int32))), .unset] [(.int ((p2 &&& (2147483647 : Int32)) % (4 : Int32))), (.ref b41)])) rfl (by rw [hml]; rfl) (argsL := [(.ref b41), (.int ((p2 &&& (2147483647 : Int32)) % (4 : Int32)))]) (rest := []) (lenOf pd_0_0 rfl) rfl (by show 2 * 0 + _ ≤ _; exact Nat.le_of_eq rfl) (hb hby at_62) (fun _ _ => ⟨rfl, e44, (by decide : 1 + 2 ≤ _), (by decide : 3 + 6 ≤ _)⟩)
      dsimp only [Pt.U, Pt.locs, Pt.cells, Pt.slots] at X46 l46 y46 z46 st46 hQ46
      subst l46 y46 z46
      obtain ⟨r46, t46, kt46, rfl, N46q, gr46, Kc46, Ex46, Vq46, Cq46, Vc46⟩ := hQ46
      have F46_5 := V44.keep Kc46 List.not_mem_nil
      have K46 : Keep h0 T46.heap [] := K44.trans Kc46 (fun x hx => nomatch hx)
      have Z46 : n0 ≤ T46.heap.size := Nat.le_trans Z44 Kc46.1
      have O46 := O44.keep Kc46 (fun x hx => nomatch hx)
      have hk := Nat.le_trans hk Kc46.1
      have N46 := Fr.app N45w N46q
      refine Goes.via st46 ?_
      show Goes p e below (T46.setTop (mkF m 65 #[.val (.int p1), .val (.int p2), .val (.int p3), .val (.int p4), .val (.int p5), .val (.int (3 : Int32)), .val (.ref b41), .val (.int ((p2 &&& (2147483647 : Int32)) % (4 : Int32))), .unset] [(.ref r46)])) _
      refine Goes.via (fun t k => XS.astore X46.here hx rfl (hb hby at_65) rfl rfl (l' := #[.val (.int p1), .val (.int p2), .val (.int p3), .val (.int p4), .val (.int p5), .val (.int (3 : Int32)), .val (.ref b41), .val (.int ((p2 &&& (2147483647 : Int32)) % (4 : Int32))), .val (.ref r46)]) rfl k) ?_
      show Goes p e below (T46.setTop (mkF m 67 #[.val (.int p1), .val (.int p2), .val (.int p3), .val (.int p4), .val (.int p5), .val (.int (3 : Int32)), .val (.ref b41), .val (.int ((p2 &&& (2147483647 : Int32)) % (4 : Int32))), .val (.ref r46)] [])) _
      refine Goes.via (fun t k => XS.aload X46.here hx rfl (hb hby at_67) rfl rfl k) ?_
      show Goes p e below (T46.setTop (mkF m 69 #[.val (.int p1), .val (.int p2), .val (.int p3), .val (.int p4), .val (.int p5), .val (.int (3 : Int32)), .val (.ref b41), .val (.int ((p2 &&& (2147483647 : Int32)) % (4 : Int32))), .val (.ref r46)] [(.ref r46)])) _
      refine Goes.via (fun t k => XS.ifnonnullYes X46.here hx rfl (pc0 := 69) (pc' := 74) rfl (hb hby at_69) rfl (by decide) (by decide) k) ?_
      show Goes p e below (T46.setTop (mkF m 74 #[.val (.int p1), .val (.int p2), .val (.int p3), .val (.int p4), .val (.int p5), .val (.int (3 : Int32)), .val (.ref b41), .val (.int ((p2 &&& (2147483647 : Int32)) % (4 : Int32))), .val (.ref r46)] [])) _
      refine Goes.via (fun t k => XS.iload X46.here hx rfl (hb hby at_74) rfl k) ?_
      show Goes p e below (T46.setTop (mkF m 76 #[.val (.int p1), .val (.int p2), .val (.int p3), .val (.int p4), .val (.int p5), .val (.int (3 : Int32)), .val (.ref b41), .val (.int ((p2 &&& (2147483647 : Int32)) % (4 : Int32))), .val (.ref r46)] [(.int ((p2 &&& (2147483647 : Int32)) % (4 : Int32)))])) _
      refine Goes.via (fun t k => XS.iload X46.here hx rfl (hb hby at_76) rfl k) ?_
      show Goes p e below (T46.setTop (mkF m 78 #[.val (.int p1), .val (.int p2), .val (.int p3), .val (.int p4), .val (.int p5), .val (.int (3 : Int32)), .val (.ref b41), .val (.int ((p2 &&& (2147483647 : Int32)) % (4 : Int32))), .val (.ref r46)] [(.int (3 : Int32)), (.int ((p2 &&& (2147483647 : Int32)) % (4 : Int32)))])) _
      have hc78_47 : ¬ (((p2 &&& (2147483647 : Int32)) % (4 : Int32)) = (3 : Int32)) := (own_ne hs)
      refine Goes.via (fun t k => XS.icmpYes X46.here hx rfl (pc0 := 78) (pc' := 87) rfl (hb hby at_78) rfl (feq hc78_47).2 (by decide) (by decide) k) ?_
      show Goes p e below (T46.setTop (mkF m 87 #[.val (.int p1), .val (.int p2), .val (.int p3), .val (.int p4), .val (.int p5), .val (.int (3 : Int32)), .val (.ref b41), .val (.int ((p2 &&& (2147483647 : Int32)) % (4 : Int32))), .val (.ref r46)] [])) _
      refine Goes.via (fun t k => XS.aload X46.here hx rfl (hb hby at_87) rfl rfl k) ?_
      show Goes p e below (T46.setTop (mkF m 89 #[.val (.int p1), .val (.int p2), .val (.int p3), .val (.int p4), .val (.int p5), .val (.int (3 : Int32)), .val (.ref b41), .val (.int ((p2 &&& (2147483647 : Int32)) % (4 : Int32))), .val (.ref r46)] [(.ref r46)])) _
      try clear Kc46; try clear N46q; try clear st46; try clear z46; try clear y46; try clear l46; try clear hQ46; try clear Lc46; try clear n46; try clear k46; try clear L46; try clear N45w
      try clear X45w; try clear Lw45; try clear O44; try clear N44; try clear Z44; try clear K44; try clear V44; try clear st44; try clear W44; try clear e44; try clear X44; try clear h44
      try clear T44; try clear hin44; try clear Ga44; try clear Ha44; try clear Na44; try clear Sa44; try clear qa44; try clear Ar44; try clear cl44; try clear O43; try clear N43; try clear Z43
      try clear K43; try clear V43; try clear st43; try clear W43; try clear e43; try clear X43; try clear h43; try clear T43; try clear hin43; try clear Ga43; try clear Ha43; try clear Na43
      try clear Sa43; try clear qa43; try clear Ar43; try clear cl43; try clear O42; try clear N42; try clear Z42; try clear K42; try clear V42; try clear st42; try clear W42; try clear e42
      try clear X42; try clear h42; try clear T42; try clear hin42; try clear Ga42; try clear Ha42; try clear Na42; try clear Sa42; try clear qa42; try clear Ar42; try clear cl42; try clear V41
      try clear O41; try clear Z41; try clear K41; try clear size; try clear h0; try clear g41; try clear st41; try clear A41; try clear E41; try clear e41; try clear X41; try clear h41
      try clear T41
      obtain ⟨Lw48, X48w, N48w⟩ := ownPack X46 N46
      obtain ⟨cq49, kq49, q49a, q49b, q49c⟩ := isOf hZ rfl Ex46
      obtain ⟨_, _, ⟨T49, L49, k49, n49⟩, -, X49, ⟨Lc49, hQ49, l49, y49, z49⟩, st49⟩ := X48w.virtualBack hx (y := (⟨"java/lang/String", "length", "()I"⟩ : MethodName)) (z := (⟨"java/lang/String", "length", "()I"⟩ : MethodName)) hown (mvT hZ (hw _ (List.mem_of_getElem? (i := 47) rfl))) (mvT hZ (hw _ (List.mem_of_getElem? (i := 48) rfl))) (notFace_of_selects (args := #[]) (mvT hZ (hw _ (List.mem_of_getElem? (i := 50) rfl)))) (mvT hZ (hw _ (List.mem_of_getElem? (i := 50) rfl))) (mvT hZ (hw _ (List.mem_of_getElem? (i := 49) rfl))) (by decide) (backOf (W := 0) (rm9 l Z a0 hw [] r46 t46 kt46 w0 vF T46.heap n0 Z46 Ex46 Vq46 Cq46 Vc46 O46 St) hZ (hw _ (List.mem_of_getElem? (i := 51) rfl)) (hw _ (List.mem_of_getElem? (i := 7) rfl)) (by decide) (by decide)) q49a q49c (g := (mkF m 89 #[.val (.int p1), .val (.int p2), .val (.int p3), .val (.int p4), .val (.int p5), .val (.int (3 : Int32)), .val (.ref b41), .val (.int ((p2 &&& (2147483647 : Int32)) % (4 : Int32))), .val (.ref r46)] [(.ref r46)])) rfl (by rw [hml]; rfl) (Steps.refl _) (argsL := []) (rest := []) (lenOf pd_0_1 rfl) rfl (by show 2 * 0 + _ ≤ _; exact Nat.le_of_eq rfl) (hb hby at_89) (fun _ _ => ⟨rfl, rfl, (by decide : 3 + 0 ≤ _), (by decide : 9 + 0 ≤ _)⟩)
      dsimp only [Pt.U, Pt.locs, Pt.cells, Pt.slots] at X49 l49 y49 z49 st49 hQ49
      subst l49 y49 z49
      obtain ⟨rfl, N49q, er49⟩ := hQ49
      have e49 : T49.heap = T46.heap := er49
      have N49 := Fr.app N48w N49q
      refine Goes.via (fun t k => st49.trans k) ?_
      show Goes p e below (T49.setTop (mkF m 92 #[.val (.int p1), .val (.int p2), .val (.int p3), .val (.int p4), .val (.int p5), .val (.int (3 : Int32)), .val (.ref b41), .val (.int ((p2 &&& (2147483647 : Int32)) % (4 : Int32))), .val (.ref r46)] [(.int (1 : Int32))])) _
      refine Goes.via (fun t k => XS.iconst X49.here hx rfl (hb hby at_92) k) ?_
      show Goes p e below (T49.setTop (mkF m 93 #[.val (.int p1), .val (.int p2), .val (.int p3), .val (.int p4), .val (.int p5), .val (.int (3 : Int32)), .val (.ref b41), .val (.int ((p2 &&& (2147483647 : Int32)) % (4 : Int32))), .val (.ref r46)] [(.int (1 : Int32)), (.int (1 : Int32))])) _
      refine Goes.via (fun t k => XS.icmpNo X49.here hx rfl (hb hby at_93) rfl (teq (show (1 : Int32) = (1 : Int32) from rfl)).2 k) ?_
      show Goes p e below (T49.setTop (mkF m 96 #[.val (.int p1), .val (.int p2), .val (.int p3), .val (.int p4), .val (.int p5), .val (.int (3 : Int32)), .val (.ref b41), .val (.int ((p2 &&& (2147483647 : Int32)) % (4 : Int32))), .val (.ref r46)] [])) _
      refine Goes.via (fun t k => XS.aload X49.here hx rfl (hb hby at_96) rfl rfl k) ?_
      show Goes p e below (T49.setTop (mkF m 98 #[.val (.int p1), .val (.int p2), .val (.int p3), .val (.int p4), .val (.int p5), .val (.int (3 : Int32)), .val (.ref b41), .val (.int ((p2 &&& (2147483647 : Int32)) % (4 : Int32))), .val (.ref r46)] [(.ref r46)])) _
      refine Goes.via (fun t k => XS.iconst X49.here hx rfl (hb hby at_98) k) ?_
      show Goes p e below (T49.setTop (mkF m 99 #[.val (.int p1), .val (.int p2), .val (.int p3), .val (.int p4), .val (.int p5), .val (.int (3 : Int32)), .val (.ref b41), .val (.int ((p2 &&& (2147483647 : Int32)) % (4 : Int32))), .val (.ref r46)] [(.int (0 : Int32)), (.ref r46)])) _
      obtain ⟨Lw50, X50w, N50w⟩ := ownPack X49 N49
      obtain ⟨cq51, kq51, q51a, q51b, q51c⟩ := isOf hZ e49 Ex46
      obtain ⟨_, _, ⟨T51, L51, k51, n51⟩, -, X51, ⟨Lc51, hQ51, l51, y51, z51⟩, st51⟩ := X50w.virtualBack hx (y := (⟨"java/lang/String", "charAt", "(I)C"⟩ : MethodName)) (z := (⟨"java/lang/String", "charAt", "(I)C"⟩ : MethodName)) hown (mvT hZ (hw _ (List.mem_of_getElem? (i := 57) rfl))) (mvT hZ (hw _ (List.mem_of_getElem? (i := 58) rfl))) (notFace_of_selects (args := #[]) (mvT hZ (hw _ (List.mem_of_getElem? (i := 60) rfl)))) (mvT hZ (hw _ (List.mem_of_getElem? (i := 60) rfl))) (mvT hZ (hw _ (List.mem_of_getElem? (i := 59) rfl))) (by decide) (backOf (W := 0) (rm11 l Z a0 hw [] r46 t46 kt46 w0 vF T46.heap n0 Z46 Ex46 Vq46 Cq46 Vc46 O46 St) hZ (hw _ (List.mem_of_getElem? (i := 61) rfl)) (hw _ (List.mem_of_getElem? (i := 7) rfl)) (by decide) (by decide)) q51a q51c (g := (mkF m 99 #[.val (.int p1), .val (.int p2), .val (.int p3), .val (.int p4), .val (.int p5), .val (.int (3 : Int32)), .val (.ref b41), .val (.int ((p2 &&& (2147483647 : Int32)) % (4 : Int32))), .val (.ref r46)] [(.int (0 : Int32)), (.ref r46)])) rfl (by rw [hml]; rfl) (Steps.refl _) (argsL := [(.int (0 : Int32))]) (rest := []) (lenOf pd_0_2 rfl) rfl (by show 2 * 0 + _ ≤ _; exact Nat.le_of_eq rfl) (hb hby at_99) (fun _ _ => ⟨rfl, e49, (by decide : 3 + 0 ≤ _), (by decide : 9 + 0 ≤ _)⟩)
      dsimp only [Pt.U, Pt.locs, Pt.cells, Pt.slots] at X51 l51 y51 z51 st51 hQ51
      subst l51 y51 z51
      obtain ⟨rfl, N51q, er51⟩ := hQ51
      have e51 : T51.heap = T46.heap := er51
      have N51 := Fr.app N50w N51q
      refine Goes.via (fun t k => st51.trans k) ?_
      show Goes p e below (T51.setTop (mkF m 102 #[.val (.int p1), .val (.int p2), .val (.int p3), .val (.int p4), .val (.int p5), .val (.int (3 : Int32)), .val (.ref b41), .val (.int ((p2 &&& (2147483647 : Int32)) % (4 : Int32))), .val (.ref r46)] [(.int (65533 : Int32))])) _
      refine Goes.via (fun t k => X51.ldcInt hx hown (mvT hZ (hw _ (List.mem_of_getElem? (i := 87) rfl))) (g := (mkF m 102 #[.val (.int p1), .val (.int p2), .val (.int p3), .val (.int p4), .val (.int p5), .val (.int (3 : Int32)), .val (.ref b41), .val (.int ((p2 &&& (2147483647 : Int32)) % (4 : Int32))), .val (.ref r46)] [(.int (65533 : Int32))])) rfl (hb hby at_102) _ k) ?_
      show Goes p e below (T51.setTop (mkF m 104 #[.val (.int p1), .val (.int p2), .val (.int p3), .val (.int p4), .val (.int p5), .val (.int (3 : Int32)), .val (.ref b41), .val (.int ((p2 &&& (2147483647 : Int32)) % (4 : Int32))), .val (.ref r46)] [(.int (65533 : Int32)), (.int (65533 : Int32))])) _
      refine Goes.via (fun t k => XS.icmpNo X51.here hx rfl (hb hby at_104) rfl (teq (show (65533 : Int32) = (65533 : Int32) from rfl)).2 k) ?_
      show Goes p e below (T51.setTop (mkF m 107 #[.val (.int p1), .val (.int p2), .val (.int p3), .val (.int p4), .val (.int p5), .val (.int (3 : Int32)), .val (.ref b41), .val (.int ((p2 &&& (2147483647 : Int32)) % (4 : Int32))), .val (.ref r46)] [])) _
      refine Goes.via (fun t k => XS.iconst X51.here hx rfl (hb hby at_107) k) ?_
      show Goes p e below (T51.setTop (mkF m 108 #[.val (.int p1), .val (.int p2), .val (.int p3), .val (.int p4), .val (.int p5), .val (.int (3 : Int32)), .val (.ref b41), .val (.int ((p2 &&& (2147483647 : Int32)) % (4 : Int32))), .val (.ref r46)] [(.int (1 : Int32))])) _
      refine Goes.via (fun t k => XS.goto X51.here hx rfl (pc0 := 108) (pc' := 112) rfl (hb hby at_108) (by decide) (by decide) k) ?_
      show Goes p e below (T51.setTop (mkF m 112 #[.val (.int p1), .val (.int p2), .val (.int p3), .val (.int p4), .val (.int p5), .val (.int (3 : Int32)), .val (.ref b41), .val (.int ((p2 &&& (2147483647 : Int32)) % (4 : Int32))), .val (.ref r46)] [(.int (1 : Int32))])) _
      obtain ⟨fs, hr, hrun, hended, hRE⟩ := X51.leaveW hS (by rw [e51]; exact hk) (v := some (.int (1 : Int32))) (fun h => by rw [Bd.returns] at h; cases h)
      refine ⟨_, _, ?_, hrun, hended, _, _, rfl, ?_, hRE.1, hRE.2.1, hRE.2.2.1, hRE.2.2.2.mono (by decide) (by decide)⟩
      · exact retN X51 hx (t := .boolean) Bd.returns (by simp) (hb hby at_112) hr
      · show Q0 Z  h0 n0 _ T51.heap _ _
        rw [e51]
        exact ⟨rfl, N51⟩
    · show Goes p e below (T44.setTop (mkF m 62 #[.val (.int p1), .val (.int p2), .val (.int p3), .val (.int p4), .val (.int p5), .val (.int (3 : Int32)), .val (.ref b41), .val (.int ((p2 &&& (2147483647 : Int32)) % (4 : Int32))), .unset] [(.int ((p2 &&& (2147483647 : Int32)) % (4 : Int32))), (.ref b41)])) _
      obtain ⟨Lw52, X52w, N52w⟩ := ownPack X44 N44
      obtain ⟨_, _, ⟨T53, L53, k53, n53⟩, -, X53, S53, sg53, ⟨Lc53, hQ53, l53, y53, z53⟩, st53⟩ := callSS X52w hx (y := (⟨"cascabel/parser/Decoders", "replacement", "([BI)Ljava/lang/String;"⟩ : MethodName)) hown (mvT hZ (hw _ (List.mem_of_getElem? (i := 2) rfl))) (mvT hZ (hw _ (List.mem_of_getElem? (i := 3) rfl))) (mvT hZ (hw _ (List.mem_of_getElem? (i := 4) rfl))) (mvT hZ (hw _ (List.mem_of_getElem? (i := 5) rfl))) (by decide) (ownBackS (W := 0) (I := fun vm => IB Z vm []) (rm1b l Z a0 hw [] b41 ((p2 &&& (2147483647 : Int32)) % (4 : Int32)) (3 : Int32) k41 [(.int (nar .byte (p3.toInt8.toInt32))), (.int (nar .byte (p4.toInt8.toInt32))), (.int (nar .byte (p5.toInt8.toInt32)))] w0 vF h44 n0 Z44 V44 hs O44 St hcH hcw) hZ (fun vm q => hI.warm q) (hw _ (List.mem_of_getElem? (i := 5) rfl)) (hw _ (List.mem_of_getElem? (i := 4) rfl)) (by decide) (by decide)) (g := (mkF m 62 #[.val (.int p1), .val (.int p2), .val (.int p3), .val (.int p4), .val (.int p5), .val (.int (3 : Int32)), .val (.ref b41), .val (.int ((p2 &&& (2147483647 : Int32)) % (4 : Int32))), .unset] [(.int ((p2 &&& (2147483647 : Int32)) % (4 : Int32))), (.ref b41)])) rfl (by rw [hml]; rfl) (argsL := [(.ref b41), (.int ((p2 &&& (2147483647 : Int32)) % (4 : Int32)))]) (rest := []) (lenOf pd_0_0 rfl) rfl (by show 2 * 0 + _ ≤ _; exact Nat.le_of_eq rfl) (hb hby at_62) (fun _ _ => ⟨rfl, e44, (by decide : 1 + 2 ≤ _), (by decide : 3 + 4 ≤ _)⟩)
      dsimp only [Pt.U, Pt.locs, Pt.cells, Pt.slots] at X53 l53 y53 z53 st53 hQ53 S53 sg53
      subst l53 y53 z53
      obtain ⟨X53f, hS53, hZ53, hown53⟩ := rebS hS hk X53 S53 (by rw [← e44]; exact sg53) hZ hown
      have X53 := X53f
      have hS := hS53
      have hZ := hZ53
      have hown := hown53
      have hk : T53.heap.size ≤ T53.heap.size := Nat.le_refl _
      obtain ⟨r53, t53, kt53, rfl, N53q, Kc53, Ex53, Vq53, Vc53⟩ := hQ53
      have F53_11 := V44.keep Kc53 List.not_mem_nil
      have K53 : Keep h0 T53.heap [] := K44.trans Kc53 (fun x hx => nomatch hx)
      have Z53 : n0 ≤ T53.heap.size := Nat.le_trans Z44 Kc53.1
      have O53 := O44.keep Kc53 (fun x hx => nomatch hx)
      have N53 := Fr.app N52w N53q
      refine Goes.via (fun t k => st53.trans k) ?_
      show Goes p e below (T53.setTop (mkF m 65 #[.val (.int p1), .val (.int p2), .val (.int p3), .val (.int p4), .val (.int p5), .val (.int (3 : Int32)), .val (.ref b41), .val (.int ((p2 &&& (2147483647 : Int32)) % (4 : Int32))), .unset] [(.ref r53)])) _
      refine Goes.via (fun t k => XS.astore X53.here hx rfl (hb hby at_65) rfl rfl (l' := #[.val (.int p1), .val (.int p2), .val (.int p3), .val (.int p4), .val (.int p5), .val (.int (3 : Int32)), .val (.ref b41), .val (.int ((p2 &&& (2147483647 : Int32)) % (4 : Int32))), .val (.ref r53)]) rfl k) ?_
      show Goes p e below (T53.setTop (mkF m 67 #[.val (.int p1), .val (.int p2), .val (.int p3), .val (.int p4), .val (.int p5), .val (.int (3 : Int32)), .val (.ref b41), .val (.int ((p2 &&& (2147483647 : Int32)) % (4 : Int32))), .val (.ref r53)] [])) _
      refine Goes.via (fun t k => XS.aload X53.here hx rfl (hb hby at_67) rfl rfl k) ?_
      show Goes p e below (T53.setTop (mkF m 69 #[.val (.int p1), .val (.int p2), .val (.int p3), .val (.int p4), .val (.int p5), .val (.int (3 : Int32)), .val (.ref b41), .val (.int ((p2 &&& (2147483647 : Int32)) % (4 : Int32))), .val (.ref r53)] [(.ref r53)])) _
      refine Goes.via (fun t k => XS.ifnonnullYes X53.here hx rfl (pc0 := 69) (pc' := 74) rfl (hb hby at_69) rfl (by decide) (by decide) k) ?_
      show Goes p e below (T53.setTop (mkF m 74 #[.val (.int p1), .val (.int p2), .val (.int p3), .val (.int p4), .val (.int p5), .val (.int (3 : Int32)), .val (.ref b41), .val (.int ((p2 &&& (2147483647 : Int32)) % (4 : Int32))), .val (.ref r53)] [])) _
      refine Goes.via (fun t k => XS.iload X53.here hx rfl (hb hby at_74) rfl k) ?_
      show Goes p e below (T53.setTop (mkF m 76 #[.val (.int p1), .val (.int p2), .val (.int p3), .val (.int p4), .val (.int p5), .val (.int (3 : Int32)), .val (.ref b41), .val (.int ((p2 &&& (2147483647 : Int32)) % (4 : Int32))), .val (.ref r53)] [(.int ((p2 &&& (2147483647 : Int32)) % (4 : Int32)))])) _
      refine Goes.via (fun t k => XS.iload X53.here hx rfl (hb hby at_76) rfl k) ?_
      show Goes p e below (T53.setTop (mkF m 78 #[.val (.int p1), .val (.int p2), .val (.int p3), .val (.int p4), .val (.int p5), .val (.int (3 : Int32)), .val (.ref b41), .val (.int ((p2 &&& (2147483647 : Int32)) % (4 : Int32))), .val (.ref r53)] [(.int (3 : Int32)), (.int ((p2 &&& (2147483647 : Int32)) % (4 : Int32)))])) _
      have hc78_54 : ((p2 &&& (2147483647 : Int32)) % (4 : Int32)) = (3 : Int32) := (own_eq3 p2 hs)
      refine Goes.via (fun t k => XS.icmpNo X53.here hx rfl (hb hby at_78) rfl (teq hc78_54).2 k) ?_
      show Goes p e below (T53.setTop (mkF m 81 #[.val (.int p1), .val (.int p2), .val (.int p3), .val (.int p4), .val (.int p5), .val (.int (3 : Int32)), .val (.ref b41), .val (.int ((p2 &&& (2147483647 : Int32)) % (4 : Int32))), .val (.ref r53)] [])) _
      refine Goes.via (fun t k => XS.aload X53.here hx rfl (hb hby at_81) rfl rfl k) ?_
      show Goes p e below (T53.setTop (mkF m 83 #[.val (.int p1), .val (.int p2), .val (.int p3), .val (.int p4), .val (.int p5), .val (.int (3 : Int32)), .val (.ref b41), .val (.int ((p2 &&& (2147483647 : Int32)) % (4 : Int32))), .val (.ref r53)] [(.ref r53)])) _
      try clear Kc53; try clear N53q; try clear hown53; try clear hZ53; try clear hS53; try clear X53f; try clear st53; try clear z53; try clear y53; try clear l53; try clear hQ53; try clear Lc53
      try clear sg53; try clear S53; try clear n53; try clear k53; try clear L53; try clear N52w; try clear X52w; try clear Lw52; try clear O44; try clear N44; try clear Z44; try clear K44
      try clear V44; try clear st44; try clear W44; try clear e44; try clear X44; try clear h44; try clear T44; try clear hin44; try clear Ga44; try clear Ha44; try clear Na44; try clear Sa44
      try clear qa44; try clear Ar44; try clear cl44; try clear O43; try clear N43; try clear Z43; try clear K43; try clear V43; try clear st43; try clear W43; try clear e43; try clear X43
      try clear h43; try clear T43; try clear hin43; try clear Ga43; try clear Ha43; try clear Na43; try clear Sa43; try clear qa43; try clear Ar43; try clear cl43; try clear O42; try clear N42
      try clear Z42; try clear K42; try clear V42; try clear st42; try clear W42; try clear e42; try clear X42; try clear h42; try clear T42; try clear hin42; try clear Ga42; try clear Ha42
      try clear Na42; try clear Sa42; try clear qa42; try clear Ar42; try clear cl42; try clear V41; try clear O41; try clear Z41; try clear K41; try clear size; try clear h0; try clear g41
      try clear st41; try clear A41; try clear E41; try clear e41; try clear X41; try clear h41; try clear T41
      obtain ⟨Lw55, X55w, N55w⟩ := ownPack X53 N53
      obtain ⟨cq56, kq56, q56a, q56b, q56c⟩ := isOf hZ rfl Ex53
      obtain ⟨_, _, ⟨T56, L56, k56, n56⟩, -, X56, ⟨Lc56, hQ56, l56, y56, z56⟩, st56⟩ := X55w.virtualBack hx (y := (⟨"java/lang/String", "isEmpty", "()Z"⟩ : MethodName)) (z := (⟨"java/lang/String", "isEmpty", "()Z"⟩ : MethodName)) hown (mvT hZ (hw _ (List.mem_of_getElem? (i := 13) rfl))) (mvT hZ (hw _ (List.mem_of_getElem? (i := 14) rfl))) (notFace_of_selects (args := #[]) (mvT hZ (hw _ (List.mem_of_getElem? (i := 16) rfl)))) (mvT hZ (hw _ (List.mem_of_getElem? (i := 16) rfl))) (mvT hZ (hw _ (List.mem_of_getElem? (i := 15) rfl))) (by decide) (backOf (W := 0) (rm2 l Z a0 hw [] r53 t53 kt53 T53.heap n0 Z53 Vq53 Vc53) hZ (hw _ (List.mem_of_getElem? (i := 17) rfl)) (hw _ (List.mem_of_getElem? (i := 7) rfl)) (by decide) (by decide)) q56a q56c (g := (mkF m 83 #[.val (.int p1), .val (.int p2), .val (.int p3), .val (.int p4), .val (.int p5), .val (.int (3 : Int32)), .val (.ref b41), .val (.int ((p2 &&& (2147483647 : Int32)) % (4 : Int32))), .val (.ref r53)] [(.ref r53)])) rfl (by rw [hml]; rfl) (Steps.refl _) (argsL := []) (rest := []) (lenOf pd_0_3 rfl) rfl (by show 2 * 0 + _ ≤ _; exact Nat.le_of_eq rfl) (hb hby at_83) (fun _ _ => ⟨rfl, rfl, (by decide : 3 + 0 ≤ _), (by decide : 7 + 0 ≤ _)⟩)
      dsimp only [Pt.U, Pt.locs, Pt.cells, Pt.slots] at X56 l56 y56 z56 st56 hQ56
      subst l56 y56 z56
      obtain ⟨rfl, N56q, er56⟩ := hQ56
      have e56 : T56.heap = T53.heap := er56
      have N56 := Fr.app N55w N56q
      refine Goes.via (fun t k => st56.trans k) ?_
      show Goes p e below (T56.setTop (mkF m 86 #[.val (.int p1), .val (.int p2), .val (.int p3), .val (.int p4), .val (.int p5), .val (.int (3 : Int32)), .val (.ref b41), .val (.int ((p2 &&& (2147483647 : Int32)) % (4 : Int32))), .val (.ref r53)] [(.int (1 : Int32))])) _
      obtain ⟨fs, hr, hrun, hended, hRE⟩ := X56.leaveW hS (by rw [e56]; exact hk) (v := some (.int (1 : Int32))) (fun h => by rw [Bd.returns] at h; cases h)
      refine ⟨_, _, ?_, hrun, hended, _, _, rfl, ?_, hRE.1, hRE.2.1, hRE.2.2.1, hRE.2.2.2.mono (by decide) (by decide)⟩
      · exact retN X56 hx (t := .boolean) Bd.returns (by simp) (hb hby at_86) hr
      · show Q0 Z  h0 n0 _ T56.heap _ _
        rw [e56]
        exact ⟨rfl, N56⟩
set_option maxRecDepth 65536 in
set_option maxHeartbeats 40000000 in
theorem comes_1 {Post : Tables → Env → Array Value → State → Outcome → State → Prop} (hpost : ∀ tb e args s v u, (limb_1_1.after args s (.returned v) u = true ∧ limb_1_2.after args s (.returned v) u = true ∧ True) → ReturnedEndW s (.returned v) u (Jvm.fieldLocs frame_1_writes args s ++ Jvm.arrayLocs frame_1_arrays args s ++ Jvm.staticLocs frame_1_statics s) 16 1152 → Post tb e args s (.returned v) u) :
    ArmFor flags0 classFile x code maxLocals ret World_1 tables_1 room_1 Calls_1 rest_1 Pre_1 Post := by
  intro l hfl _ _ p e ha hc hk s m args below hf hA hF happ hP
  obtain ⟨hcalls, hrest, hpre⟩ := hP
  obtain ⟨-, -, -, hnamed, -, -, -, hat⟩ := (Spec.applies_iff hf).mp happ
  obtain ⟨hg, hn⟩ := and_e (Cond.before_iff.mp (show (Jvm.Cond.and given_1 narrow_1).before args s = true from hpre))
  obtain ⟨g0, r0⟩ := and_e hg
  obtain ⟨w0, w1, w2, w3, w4, rfl⟩ : ∃ w0 w1 w2 w3 w4 : Value, args = #[w0, w1, w2, w3, w4] := by
    have hs : args.size = 5 := by simpa [Cond.value, given_1] using g0
    obtain ⟨L⟩ := args
    match L, hs with
    | [w0, w1, w2, w3, w4], _ => exact ⟨w0, w1, w2, w3, w4, rfl⟩
  have hw := fun d (hd : d ∈ tables_1) => atoms_spec (ws := Jvm.Cond.code x code maxLocals ret :: tables_1) hat d (List.mem_cons_of_mem _ hd)
  obtain ⟨g1, r1⟩ := and_e r0
  obtain ⟨g2, r2⟩ := and_e r1
  obtain ⟨g3, r3⟩ := and_e r2
  obtain ⟨g4, r4⟩ := and_e r3
  have g5 := r4
  obtain ⟨i0, ei0⟩ := is_v g1
  obtain rfl : w0 = (.int i0) := Option.some.inj ei0
  obtain ⟨i1, ei1⟩ := is_v g2
  obtain rfl : w1 = (.int i1) := Option.some.inj ei1
  obtain ⟨i2, ei2⟩ := is_v g3
  obtain rfl : w2 = (.int i2) := Option.some.inj ei2
  obtain ⟨i3, ei3⟩ := is_v g4
  obtain rfl : w3 = (.int i3) := Option.some.inj ei3
  obtain ⟨i4, ei4⟩ := is_v g5
  obtain rfl : w4 = (.int i4) := Option.some.inj ei4
  obtain ⟨hsets, hown0⟩ := atoms_of _ (rest_1_c_eq ▸ (show rest_1_c.before _ s = true from hrest))
  have hcw : Jvm.Lit.compactW.before _ s = true := (hsets _ (List.mem_of_getElem? (i := 2) rfl))
  obtain ⟨w0, ew0⟩ := is_v (Cond.before_iff.mp (hsets _ (List.mem_of_getElem? (i := 1) rfl)))
  have hw0 : ¬ w0 = (0 : Int32) := gotF (Cond.eq_ints ew0 (show (Jvm.Term.int (0 : Int32)).eval _ s none [] s = some (.int 0) from rfl)) (not_v (Cond.before_iff.mp (hsets _ (List.mem_of_getElem? (i := 2) rfl))))
  obtain ⟨vF, evF, hvF⟩ := isR_v (Cond.before_iff.mp (hsets _ (List.mem_of_getElem? (i := 8) rfl)))
  have St : own_St s w0 vF := ⟨Sta.start ew0 (Or.inl (hsets _ (List.mem_of_getElem? (i := 0) rfl))), hw0, Sta.start (eqv_i rfl (Cond.before_iff.mp (hsets _ (List.mem_of_getElem? (i := 12) rfl)))) (Or.inl (hsets _ (List.mem_of_getElem? (i := 11) rfl))), Sta.start (eqv_i rfl (Cond.before_iff.mp (hsets _ (List.mem_of_getElem? (i := 15) rfl)))) (Or.inl (hsets _ (List.mem_of_getElem? (i := 14) rfl))), Sta.start (eqv_i rfl (Cond.before_iff.mp (hsets _ (List.mem_of_getElem? (i := 18) rfl)))) (Or.inl (hsets _ (List.mem_of_getElem? (i := 17) rfl))), Sta.start evF (Or.inl (hsets _ (List.mem_of_getElem? (i := 7) rfl))), hvF⟩
  have hcH : Jvm.Lit.constHeld s "cascabel/parser/Decoders" 23 := hcalls.1 _ (List.mem_of_getElem? (i := 0) rfl)
  obtain ⟨n, o, h1, h2, h3, v, L, rfl, hQ, hq⟩ := rm0 l s _ hw tables_1 i0 i1 i2 i3 i4 w0 vF s.heap s.heap.size (Nat.le_refl _) (Old.start s) St hcH hcw p e ha hc hk s m _ below hf ((Spec.applies_iff_loose hf).mp happ).1 ⟨rfl, State.Warmed39.refl s, rfl, IB.start⟩ trivial
  obtain ⟨hv, N⟩ : v = some (.int 1) ∧ Fr s.heap.size L := hQ
  subst hv
  refine ⟨n, _, h1, h2, h3, hpost _ _ _ _ _ _ ⟨Cond.after_iff.mpr rfl, Cond.after_iff.mpr (eq_i res_at (Term.int_eval (1)) rfl), trivial⟩ ⟨hq.1, hq.2.1, hq.2.2.1, (hq.2.2.2.sift fun y hy => Or.inr (N y hy)).mono (by decide) (by decide)⟩⟩
theorem main_1_1 : Claimed_1_1 := comes_1 fun _ _ _ _ _ _ h hF => ⟨h.1, hF⟩
theorem main_1_2 : Claimed_1_2 := comes_1 fun _ _ _ _ _ _ h hF => ⟨h.2.1, hF⟩
end Jvm.Pilot.@@N@@
namespace Jvm.Pilot.@@N@@
open Jvm Jvm.ClassFile Sem Op Lib Jvm.Free Jvm.Stand Jvm.Pilot.@@N@@.Jvm.D
/-! MADE BY PROGRAM (witnessworld.py) out of the Statement's table words and the real class files: 18 classes; the members and pool entries that the words name. The judged class is class 1, her method 1. -/
namespace start1
open Jvm.ClassFile
def u (s : String) : CpInfo := .utf8 (stringToUtf16 s)
/-- a pool by its gaps: so many unusable entries, then the entry; so many at the end -/
def gap : Nat → List CpInfo → List CpInfo
  | 0, r => r
  | n + 1, r => .unusable :: gap n r
def poolList (es : List (Nat × CpInfo)) (last : Nat) : List CpInfo := es.foldr (fun e r => gap e.1 (e.2 :: r)) (gap last [])
def pool (es : List (Nat × CpInfo)) (last : Nat) : Array CpInfo := ⟨poolList es last⟩
def fileOf (pool : Array CpInfo) (this : Nat) (attrs : Array Attribute := #[]) (ms : Array MethodInfo := #[]) (fl : Nat := 33) (sup : Nat := 0) (ifs : Array Nat := #[]) (fds : Array FieldInfo := #[]) : ClassFile where
  minorVersion := 0
  majorVersion := 65
  constantPool := pool
  accessFlags := fl
  thisClass := this
  superClass := sup
  interfaces := ifs
  fields := fds
  methods := ms
  attributes := attrs
def plain (name : String) (sup : Option ClassId) : Class where
  name := name
  kind := .ordinary
  loader := none
  accessFlags := 33
  super := sup
  interfaces := #[]
  cf := none
  fields := #[]
  methods := #[]
  instanceTypes := #[]
  staticTypes := #[]
  resolved := #[]
  callSites := []
  init := .initialized
  statics := none
  mirror := none

def pool0 : Array CpInfo := pool [(5, u "<init>"), (0, u "()V"), (1, .class_ 10), (1, u "java/lang/Object")] 113

def k0c0 : Code := { maxStack := 0, maxLocals := 1, code := object_method_1_code, exceptionTable := #[], attributes := #[] }
def k0m0 : Method := { name := "<init>", desc := "()V", sig := { parameters := [], returnType := none }, accessFlags := 1, code := some k0c0 }
/-- java/lang/Object -/
def k0 : Class := { plain "java/lang/Object" none with
  accessFlags := 33
  interfaces := #[]
  cf := some (fileOf pool0 8 #[] #[{ accessFlags := 1, nameIndex := 5, descriptorIndex := 6, attributes := #[] }] 33 0 #[] #[])
  fields := #[]
  methods := #[k0m0]
  instanceTypes := #[]
  staticTypes := #[]
  resolved := Array.replicate 124 none
  statics := none }

def pool1 : Array CpInfo := pool [(2, .class_ 4), (1, u "java/lang/Object"), (0, u "<init>"), (0, u "()V"), (0, .integer 2147483647), (0, .methodref 9 10), (0, .class_ 11), (0, .nameAndType 12 13), (0, u "cascabel/parser/Decoders"), (0, u "replacement"), (0, u "([BI)Ljava/lang/String;"), (0, .methodref 15 16), (0, .class_ 17), (0, .nameAndType 18 19), (0, u "java/lang/String"), (0, u "isEmpty"), (0, u "()Z"), (0, .methodref 15 21), (0, .nameAndType 22 23), (0, u "length"), (0, u "()I"), (0, .methodref 15 25), (0, .nameAndType 26 27), (0, u "charAt"), (0, u "(I)C"), (0, .integer 65533), (0, .class_ 30), (0, u "cascabel/parser/DecodersReplacementPinLaw"), (2, u "law"), (0, u "(IIIII)Z")] 5

def k1m0 : Method := { name := "<init>", desc := "()V", sig := { parameters := [], returnType := none }, accessFlags := 1, code := none }
def k1c1 : Code := { maxStack := 3, maxLocals := 9, code := code, exceptionTable := #[], attributes := #[] }
def k1m1 : Method := { name := "law", desc := "(IIIII)Z", sig := { parameters := [.int, .int, .int, .int, .int], returnType := some .boolean }, accessFlags := 9, code := some k1c1 }
/-- cascabel/parser/DecodersReplacementPinLaw -/
def k1 : Class := { plain "cascabel/parser/DecodersReplacementPinLaw" (some 0) with
  accessFlags := 49
  interfaces := #[]
  cf := some (fileOf pool1 29 #[] #[{ accessFlags := 1, nameIndex := 5, descriptorIndex := 6, attributes := #[] }, { accessFlags := 9, nameIndex := 33, descriptorIndex := 34, attributes := #[] }] 49 2 #[] #[])
  fields := #[]
  methods := #[k1m0, k1m1]
  instanceTypes := #[]
  staticTypes := #[]
  resolved := Array.replicate 40 none
  statics := none }

def pool2 : Array CpInfo := pool [(2, .class_ 4), (1, u "java/lang/Object"), (0, u "<init>"), (0, u "()V"), (7, .class_ 15), (0, u "cascabel/parser/Decoders"), (0, .integer 65533), (0, .methodref 18 19), (0, .class_ 20), (0, .nameAndType 21 22), (0, u "java/lang/String"), (0, u "valueOf"), (0, u "(C)Ljava/lang/String;"), (0, .string 24), (0, u ""), (48, u "REPLACEMENT"), (0, u "C"), (5, u "replacement"), (0, u "([BI)Ljava/lang/String;"), (15, .class_ 98), (0, u "cascabel/parser/Decoders$Decoder")] 25

def k2m0 : Method := { name := "<init>", desc := "()V", sig := { parameters := [], returnType := none }, accessFlags := 2, code := none }
def k2c1 : Code := { maxStack := 2, maxLocals := 2, code := prog_94_method_4_code, exceptionTable := #[], attributes := #[] }
def k2m1 : Method := { name := "replacement", desc := "([BI)Ljava/lang/String;", sig := { parameters := [(.array .byte), .int], returnType := some (.object "java/lang/String") }, accessFlags := 8, code := some k2c1 }
/-- cascabel/parser/Decoders -/
def k2 : Class := { plain "cascabel/parser/Decoders" (some 0) with
  accessFlags := 48
  interfaces := #[]
  cf := some (fileOf pool2 14 #[.nestMembers #[97]] #[{ accessFlags := 2, nameIndex := 5, descriptorIndex := 6, attributes := #[] }, { accessFlags := 8, nameIndex := 80, descriptorIndex := 81, attributes := #[] }] 48 2 #[] #[{ accessFlags := 26, nameIndex := 73, descriptorIndex := 74, attributes := #[] }])
  fields := #[{ name := "REPLACEMENT", type := .char, accessFlags := 26, slot := 0, constantValue := 0 }]
  methods := #[k2m0, k2m1]
  instanceTypes := #[]
  staticTypes := #[.char]
  resolved := Array.replicate 124 none
  statics := none }

def pool3 : Array CpInfo := pool [(1, .class_ 2), (0, u "java/io/Serializable"), (0, .class_ 4), (0, u "java/lang/Object")] 2

/-- java/io/Serializable -/
def k3 : Class := { plain "java/io/Serializable" (some 0) with
  accessFlags := 1537
  interfaces := #[]
  cf := some (fileOf pool3 1 #[] #[] 1537 3 #[] #[])
  fields := #[]
  methods := #[]
  instanceTypes := #[]
  staticTypes := #[]
  resolved := Array.replicate 7 none
  statics := none }

def pool4 : Array CpInfo := pool [(1, .class_ 2), (0, u "java/lang/Comparable"), (0, .class_ 4), (0, u "java/lang/Object")] 7

/-- java/lang/Comparable -/
def k4 : Class := { plain "java/lang/Comparable" (some 0) with
  accessFlags := 1537
  interfaces := #[]
  cf := some (fileOf pool4 1 #[] #[] 1537 3 #[] #[])
  fields := #[]
  methods := #[]
  instanceTypes := #[]
  staticTypes := #[]
  resolved := Array.replicate 12 none
  statics := none }

def pool5 : Array CpInfo := pool [(2, .class_ 4), (1, u "java/lang/CharSequence"), (42, .class_ 48), (0, u "java/lang/CharSequence$1CodePointIterator"), (10, .class_ 60), (0, u "java/lang/CharSequence$1CharIterator"), (5, .class_ 67), (0, u "java/lang/Object")] 63

/-- java/lang/CharSequence -/
def k5 : Class := { plain "java/lang/CharSequence" (some 0) with
  accessFlags := 1537
  interfaces := #[]
  cf := some (fileOf pool5 2 #[.nestMembers #[47, 59]] #[] 1537 66 #[] #[])
  fields := #[]
  methods := #[]
  instanceTypes := #[]
  staticTypes := #[]
  resolved := Array.replicate 131 none
  statics := none }

def pool6 : Array CpInfo := pool [(1, .class_ 2), (0, u "java/lang/constant/Constable"), (0, .class_ 4), (0, u "java/lang/Object")] 6

/-- java/lang/constant/Constable -/
def k6 : Class := { plain "java/lang/constant/Constable" (some 0) with
  accessFlags := 1537
  interfaces := #[]
  cf := some (fileOf pool6 1 #[] #[] 1537 3 #[] #[])
  fields := #[]
  methods := #[]
  instanceTypes := #[]
  staticTypes := #[]
  resolved := Array.replicate 11 none
  statics := none }

def pool7 : Array CpInfo := pool [(1, .class_ 2), (0, u "java/lang/constant/ConstantDesc"), (0, .class_ 4), (0, u "java/lang/Object")] 32

/-- java/lang/constant/ConstantDesc -/
def k7 : Class := { plain "java/lang/constant/ConstantDesc" (some 0) with
  accessFlags := 1537
  interfaces := #[]
  cf := some (fileOf pool7 1 #[] #[] 1537 3 #[] #[])
  fields := #[]
  methods := #[]
  instanceTypes := #[]
  staticTypes := #[]
  resolved := Array.replicate 37 none
  statics := none }

def pool8 : Array CpInfo := pool [(1, .methodref 2 3), (0, .class_ 4), (0, .nameAndType 5 6), (0, u "java/lang/Object"), (0, u "<init>"), (0, u "()V"), (2, .fieldref 10 11), (0, .class_ 12), (0, .nameAndType 13 14), (0, u "java/lang/String"), (0, u "value"), (0, u "[B"), (0, .fieldref 10 16), (0, .nameAndType 17 18), (0, u "coder"), (0, u "B"), (2, u "hash"), (0, u "I"), (2, u "hashIsZero"), (0, u "Z"), (11, .fieldref 10 39), (0, .nameAndType 40 26), (0, u "COMPACT_STRINGS"), (1, .class_ 44), (1, u "java/lang/StringUTF16"), (8, u "toBytes"), (53, .class_ 109), (1, u "java/lang/StringLatin1"), (32, u "()Z"), (66, .methodref 10 210), (0, .nameAndType 5 211), (0, u "([BB)V"), (122, u "()I"), (0, .methodref 10 336), (0, .nameAndType 17 337), (0, u "()B"), (25, u "([BI)C"), (5, u "(C)Z"), (21, u "(II)V"), (35, u "(I)C"), (64, .methodref 10 493), (0, .nameAndType 494 142), (0, u "isLatin1"), (1, .nameAndType 497 363), (0, u "charAt"), (0, .methodref 42 496), (2, u "checkIndex"), (5, u "length"), (67, .class_ 576), (0, u "java/lang/CharSequence"), (22, u "CASE_INSENSITIVE_ORDER"), (0, u "Ljava/util/Comparator;"), (91, u "isEmpty"), (89, u "valueOf"), (0, u "(C)Ljava/lang/String;"), (231, .methodref 107 1016), (0, .nameAndType 1017 369), (0, u "canEncode"), (1, .nameAndType 53 1020), (0, u "(C)[B"), (0, .methodref 42 1019), (31, .fieldref 1054 1055), (0, .class_ 1056), (0, .nameAndType 1057 1058), (0, u "jdk/internal/util/Preconditions"), (0, u "SIOOBE_FORMATTER"), (0, u "Ljava/util/function/BiFunction;"), (0, .methodref 1054 1060), (0, .nameAndType 501 1061), (0, u "(IILjava/util/function/BiFunction;)I"), (39, u "serialPersistentFields"), (0, u "[Ljava/io/ObjectStreamField;"), (0, .class_ 1104), (0, u "java/lang/String$CaseInsensitiveComparator"), (1, .class_ 1107), (0, u "java/io/Serializable"), (0, .class_ 1109), (0, u "java/lang/Comparable"), (0, .class_ 1111), (0, u "java/lang/constant/Constable"), (0, .class_ 1113), (0, u "java/lang/constant/ConstantDesc"), (2, u "serialVersionUID"), (0, u "J"), (3, u "REPL"), (0, u "C"), (2, u "LATIN1"), (1, u "UTF16")] 323

def k8m0 : Method := { name := "<init>", desc := "()V", sig := { parameters := [], returnType := none }, accessFlags := 1, code := none }
def k8c1 : Code := { maxStack := 2, maxLocals := 1, code := jdk_42_method_54_code, exceptionTable := #[], attributes := #[] }
def k8m1 : Method := { name := "length", desc := "()I", sig := { parameters := [], returnType := some .int }, accessFlags := 1, code := some k8c1 }
def k8c2 : Code := { maxStack := 1, maxLocals := 1, code := jdk_42_method_55_code, exceptionTable := #[], attributes := #[] }
def k8m2 : Method := { name := "isEmpty", desc := "()Z", sig := { parameters := [], returnType := some .boolean }, accessFlags := 1, code := some k8c2 }
def k8c3 : Code := { maxStack := 2, maxLocals := 2, code := jdk_42_method_56_code, exceptionTable := #[], attributes := #[] }
def k8m3 : Method := { name := "charAt", desc := "(I)C", sig := { parameters := [.int], returnType := some .char }, accessFlags := 1, code := some k8c3 }
def k8c4 : Code := { maxStack := 4, maxLocals := 1, code := jdk_42_method_139_code, exceptionTable := #[], attributes := #[] }
def k8m4 : Method := { name := "valueOf", desc := "(C)Ljava/lang/String;", sig := { parameters := [.char], returnType := some (.object "java/lang/String") }, accessFlags := 9, code := some k8c4 }
def k8c5 : Code := { maxStack := 2, maxLocals := 3, code := jdk_42_method_151_code, exceptionTable := #[], attributes := #[] }
def k8m5 : Method := { name := "<init>", desc := "([BB)V", sig := { parameters := [(.array .byte), .byte], returnType := none }, accessFlags := 0, code := some k8c5 }
def k8c6 : Code := { maxStack := 1, maxLocals := 1, code := jdk_42_method_152_code, exceptionTable := #[], attributes := #[] }
def k8m6 : Method := { name := "coder", desc := "()B", sig := { parameters := [], returnType := some .byte }, accessFlags := 0, code := some k8c6 }
def k8c7 : Code := { maxStack := 1, maxLocals := 1, code := jdk_42_method_154_code, exceptionTable := #[], attributes := #[] }
def k8m7 : Method := { name := "isLatin1", desc := "()Z", sig := { parameters := [], returnType := some .boolean }, accessFlags := 0, code := some k8c7 }
def k8c8 : Code := { maxStack := 3, maxLocals := 2, code := jdk_42_method_155_code, exceptionTable := #[], attributes := #[] }
def k8m8 : Method := { name := "checkIndex", desc := "(II)V", sig := { parameters := [.int, .int], returnType := none }, accessFlags := 8, code := some k8c8 }
/-- java/lang/String -/
def k8 : Class := { plain "java/lang/String" (some 0) with
  accessFlags := 49
  interfaces := #[3, 4, 5, 6, 7]
  cf := some (fileOf pool8 10 #[.nestMembers #[1103]] #[{ accessFlags := 1, nameIndex := 5, descriptorIndex := 6, attributes := #[] }, { accessFlags := 1, nameIndex := 507, descriptorIndex := 334, attributes := #[] }, { accessFlags := 1, nameIndex := 692, descriptorIndex := 142, attributes := #[] }, { accessFlags := 1, nameIndex := 497, descriptorIndex := 427, attributes := #[] }, { accessFlags := 9, nameIndex := 782, descriptorIndex := 783, attributes := #[] }, { accessFlags := 0, nameIndex := 5, descriptorIndex := 211, attributes := #[] }, { accessFlags := 0, nameIndex := 17, descriptorIndex := 337, attributes := #[] }, { accessFlags := 0, nameIndex := 494, descriptorIndex := 142, attributes := #[] }, { accessFlags := 8, nameIndex := 501, descriptorIndex := 391, attributes := #[] }] 49 2 #[1106, 1108, 575, 1110, 1112] #[{ accessFlags := 18, nameIndex := 13, descriptorIndex := 14, attributes := #[] }, { accessFlags := 18, nameIndex := 17, descriptorIndex := 18, attributes := #[] }, { accessFlags := 2, nameIndex := 21, descriptorIndex := 22, attributes := #[] }, { accessFlags := 2, nameIndex := 25, descriptorIndex := 26, attributes := #[] }, { accessFlags := 26, nameIndex := 1116, descriptorIndex := 1117, attributes := #[] }, { accessFlags := 24, nameIndex := 40, descriptorIndex := 26, attributes := #[] }, { accessFlags := 26, nameIndex := 1101, descriptorIndex := 1102, attributes := #[] }, { accessFlags := 26, nameIndex := 1121, descriptorIndex := 1122, attributes := #[] }, { accessFlags := 25, nameIndex := 599, descriptorIndex := 600, attributes := #[] }, { accessFlags := 24, nameIndex := 1125, descriptorIndex := 18, attributes := #[] }, { accessFlags := 24, nameIndex := 1127, descriptorIndex := 18, attributes := #[] }])
  fields := #[{ name := "value", type := (.array .byte), accessFlags := 18, slot := 0, constantValue := 0 }, { name := "coder", type := .byte, accessFlags := 18, slot := 1, constantValue := 0 }, { name := "hash", type := .int, accessFlags := 2, slot := 2, constantValue := 0 }, { name := "hashIsZero", type := .boolean, accessFlags := 2, slot := 3, constantValue := 0 }, { name := "serialVersionUID", type := .long, accessFlags := 26, slot := 0, constantValue := 0 }, { name := "COMPACT_STRINGS", type := .boolean, accessFlags := 24, slot := 1, constantValue := 0 }, { name := "serialPersistentFields", type := (.array (.object "java/io/ObjectStreamField")), accessFlags := 26, slot := 2, constantValue := 0 }, { name := "REPL", type := .char, accessFlags := 26, slot := 3, constantValue := 0 }, { name := "CASE_INSENSITIVE_ORDER", type := (.object "java/util/Comparator"), accessFlags := 25, slot := 4, constantValue := 0 }, { name := "LATIN1", type := .byte, accessFlags := 24, slot := 5, constantValue := 0 }, { name := "UTF16", type := .byte, accessFlags := 24, slot := 6, constantValue := 0 }]
  methods := #[k8m0, k8m1, k8m2, k8m3, k8m4, k8m5, k8m6, k8m7, k8m8]
  instanceTypes := #[(.array .byte), .byte, .int, .boolean]
  staticTypes := #[.long, .boolean, (.array (.object "java/io/ObjectStreamField")), .char, (.object "java/util/Comparator"), .byte, .byte]
  resolved := Array.replicate 1451 none
  statics := some 0 }

def pool9 : Array CpInfo := pool [(4, .class_ 6), (1, u "java/lang/Object"), (0, u "<init>"), (0, u "()V"), (5, .class_ 16), (1, u "java/lang/StringLatin1"), (73, u "canEncode"), (14, u "(C)Z"), (15, u "$assertionsDisabled"), (0, u "Z"), (98, .class_ 223), (1, u "java/lang/StringLatin1$LinesSpliterator"), (166, .class_ 391), (0, u "java/lang/StringLatin1$CharsSpliterator")] 3

def k9m0 : Method := { name := "<init>", desc := "()V", sig := { parameters := [], returnType := none }, accessFlags := 0, code := none }
def k9c1 : Code := { maxStack := 2, maxLocals := 1, code := jdk_43_method_3_code, exceptionTable := #[], attributes := #[] }
def k9m1 : Method := { name := "canEncode", desc := "(C)Z", sig := { parameters := [.char], returnType := some .boolean }, accessFlags := 9, code := some k9c1 }
/-- java/lang/StringLatin1 -/
def k9 : Class := { plain "java/lang/StringLatin1" (some 0) with
  accessFlags := 48
  interfaces := #[]
  cf := some (fileOf pool9 14 #[.nestMembers #[390, 221]] #[{ accessFlags := 0, nameIndex := 7, descriptorIndex := 8, attributes := #[] }, { accessFlags := 9, nameIndex := 90, descriptorIndex := 105, attributes := #[] }] 48 4 #[] #[{ accessFlags := 4120, nameIndex := 121, descriptorIndex := 122, attributes := #[] }])
  fields := #[{ name := "$assertionsDisabled", type := .boolean, accessFlags := 4120, slot := 0, constantValue := 0 }]
  methods := #[k9m0, k9m1]
  instanceTypes := #[]
  staticTypes := #[.boolean]
  resolved := Array.replicate 395 none
  statics := none }

def pool10 : Array CpInfo := pool [(3, .class_ 4), (0, u "java/lang/String"), (1, .class_ 8), (1, u "java/lang/Object"), (0, u "<init>"), (0, u "()V"), (1, .class_ 14), (1, u "java/lang/StringUTF16"), (29, .fieldref 12 45), (0, .nameAndType 46 47), (0, u "$assertionsDisabled"), (0, u "Z"), (0, .methodref 12 49), (0, .nameAndType 50 51), (0, u "length"), (0, u "([B)I"), (7, .fieldref 12 60), (0, .nameAndType 61 62), (0, u "HI_BYTE_SHIFT"), (0, u "I"), (0, .fieldref 12 64), (0, .nameAndType 65 62), (0, u "LO_BYTE_SHIFT"), (1, .methodref 12 68), (0, .nameAndType 69 70), (0, u "checkIndex"), (0, u "(I[B)V"), (0, .methodref 12 72), (0, .nameAndType 73 74), (0, u "getChar"), (0, u "([BI)C"), (36, .methodref 12 112), (0, .nameAndType 113 114), (0, u "putChar"), (0, u "([BII)V"), (6, u "toBytes"), (247, .class_ 371), (1, u "java/lang/StringUTF16$LinesSpliterator"), (20, u "charAt"), (21, .methodref 3 415), (0, .nameAndType 69 416), (0, u "(II)V"), (13, u "MAX_LENGTH"), (44, u "(C)[B"), (151, .class_ 628), (0, u "java/lang/StringUTF16$CodePointsSpliterator"), (0, .class_ 630), (0, u "java/lang/StringUTF16$CharsSpliterator")] 4

def k10m0 : Method := { name := "<init>", desc := "()V", sig := { parameters := [], returnType := none }, accessFlags := 0, code := none }
def k10c1 : Code := { maxStack := 4, maxLocals := 3, code := jdk_52_method_4_code, exceptionTable := #[], attributes := #[] }
def k10m1 : Method := { name := "putChar", desc := "([BII)V", sig := { parameters := [(.array .byte), .int, .int], returnType := none }, accessFlags := 8, code := some k10c1 }
def k10c2 : Code := { maxStack := 3, maxLocals := 2, code := jdk_52_method_5_code, exceptionTable := #[], attributes := #[] }
def k10m2 : Method := { name := "getChar", desc := "([BI)C", sig := { parameters := [(.array .byte), .int], returnType := some .char }, accessFlags := 8, code := some k10c2 }
def k10c3 : Code := { maxStack := 2, maxLocals := 1, code := jdk_52_method_6_code, exceptionTable := #[], attributes := #[] }
def k10m3 : Method := { name := "length", desc := "([B)I", sig := { parameters := [(.array .byte)], returnType := some .int }, accessFlags := 9, code := some k10c3 }
def k10c4 : Code := { maxStack := 3, maxLocals := 2, code := jdk_52_method_24_code, exceptionTable := #[], attributes := #[] }
def k10m4 : Method := { name := "toBytes", desc := "(C)[B", sig := { parameters := [.char], returnType := some (.array .byte) }, accessFlags := 9, code := some k10c4 }
def k10c5 : Code := { maxStack := 2, maxLocals := 2, code := jdk_52_method_83_code, exceptionTable := #[], attributes := #[] }
def k10m5 : Method := { name := "charAt", desc := "([BI)C", sig := { parameters := [(.array .byte), .int], returnType := some .char }, accessFlags := 9, code := some k10c5 }
def k10c6 : Code := { maxStack := 2, maxLocals := 2, code := jdk_52_method_91_code, exceptionTable := #[], attributes := #[] }
def k10m6 : Method := { name := "checkIndex", desc := "(I[B)V", sig := { parameters := [.int, (.array .byte)], returnType := none }, accessFlags := 9, code := some k10c6 }
/-- java/lang/StringUTF16 -/
def k10 : Class := { plain "java/lang/StringUTF16" (some 0) with
  accessFlags := 48
  interfaces := #[]
  cf := some (fileOf pool10 12 #[.nestMembers #[627, 629, 369]] #[{ accessFlags := 0, nameIndex := 9, descriptorIndex := 10, attributes := #[] }, { accessFlags := 8, nameIndex := 113, descriptorIndex := 114, attributes := #[] }, { accessFlags := 8, nameIndex := 73, descriptorIndex := 74, attributes := #[] }, { accessFlags := 9, nameIndex := 50, descriptorIndex := 51, attributes := #[] }, { accessFlags := 9, nameIndex := 121, descriptorIndex := 475, attributes := #[] }, { accessFlags := 9, nameIndex := 392, descriptorIndex := 74, attributes := #[] }, { accessFlags := 9, nameIndex := 69, descriptorIndex := 70, attributes := #[] }] 48 6 #[] #[{ accessFlags := 26, nameIndex := 61, descriptorIndex := 62, attributes := #[] }, { accessFlags := 26, nameIndex := 65, descriptorIndex := 62, attributes := #[] }, { accessFlags := 24, nameIndex := 430, descriptorIndex := 62, attributes := #[] }, { accessFlags := 4120, nameIndex := 46, descriptorIndex := 47, attributes := #[] }])
  fields := #[{ name := "HI_BYTE_SHIFT", type := .int, accessFlags := 26, slot := 0, constantValue := 0 }, { name := "LO_BYTE_SHIFT", type := .int, accessFlags := 26, slot := 1, constantValue := 0 }, { name := "MAX_LENGTH", type := .int, accessFlags := 24, slot := 2, constantValue := 0 }, { name := "$assertionsDisabled", type := .boolean, accessFlags := 4120, slot := 3, constantValue := 0 }]
  methods := #[k10m0, k10m1, k10m2, k10m3, k10m4, k10m5, k10m6]
  instanceTypes := #[]
  staticTypes := #[.int, .int, .int, .boolean]
  resolved := Array.replicate 635 none
  statics := some 1 }

def pool11 : Array CpInfo := pool [(2, .class_ 4), (1, u "java/lang/Object"), (0, u "<init>"), (0, u "()V"), (17, .class_ 26), (1, u "jdk/internal/util/Preconditions"), (6, u "checkIndex"), (21, .class_ 56), (0, u "jdk/internal/util/Preconditions$4"), (57, .class_ 115), (0, u "jdk/internal/util/Preconditions$1"), (7, u "SIOOBE_FORMATTER"), (0, u "Ljava/util/function/BiFunction;"), (0, .class_ 126), (0, u "jdk/internal/util/Preconditions$2"), (3, u "AIOOBE_FORMATTER"), (0, .class_ 132), (0, u "jdk/internal/util/Preconditions$3"), (3, u "IOOBE_FORMATTER"), (41, u "(IILjava/util/function/BiFunction;)I")] 15

def k11m0 : Method := { name := "<init>", desc := "()V", sig := { parameters := [], returnType := none }, accessFlags := 1, code := none }
def k11c1 : Code := { maxStack := 3, maxLocals := 3, code := jdk_41_method_11_code, exceptionTable := #[], attributes := #[] }
def k11m1 : Method := { name := "checkIndex", desc := "(IILjava/util/function/BiFunction;)I", sig := { parameters := [.int, .int, (.object "java/util/function/BiFunction")], returnType := some .int }, accessFlags := 9, code := some k11c1 }
/-- jdk/internal/util/Preconditions -/
def k11 : Class := { plain "jdk/internal/util/Preconditions" (some 0) with
  accessFlags := 33
  interfaces := #[]
  cf := some (fileOf pool11 24 #[.nestMembers #[55, 131, 125, 114]] #[{ accessFlags := 1, nameIndex := 5, descriptorIndex := 6, attributes := #[] }, { accessFlags := 9, nameIndex := 33, descriptorIndex := 178, attributes := #[] }] 33 2 #[] #[{ accessFlags := 25, nameIndex := 123, descriptorIndex := 124, attributes := #[] }, { accessFlags := 25, nameIndex := 130, descriptorIndex := 124, attributes := #[] }, { accessFlags := 25, nameIndex := 136, descriptorIndex := 124, attributes := #[] }])
  fields := #[{ name := "SIOOBE_FORMATTER", type := (.object "java/util/function/BiFunction"), accessFlags := 25, slot := 0, constantValue := 0 }, { name := "AIOOBE_FORMATTER", type := (.object "java/util/function/BiFunction"), accessFlags := 25, slot := 1, constantValue := 0 }, { name := "IOOBE_FORMATTER", type := (.object "java/util/function/BiFunction"), accessFlags := 25, slot := 2, constantValue := 0 }]
  methods := #[k11m0, k11m1]
  instanceTypes := #[]
  staticTypes := #[(.object "java/util/function/BiFunction"), (.object "java/util/function/BiFunction"), (.object "java/util/function/BiFunction")]
  resolved := Array.replicate 194 none
  statics := some 2 }

def pool12 : Array CpInfo := pool [(9, u "<init>"), (6, .class_ 18), (1, u "java/lang/Object"), (0, u "()V"), (1, .class_ 23), (1, u "jdk/internal/util/ArraysSupport"), (0, u "LOG2_ARRAY_LONG_INDEX_SCALE"), (0, u "I"), (2, u "U"), (0, u "Ljdk/internal/misc/Unsafe;"), (8, u "BIG_ENDIAN"), (0, u "Z"), (8, u "LOG2_BYTE_BIT_SIZE"), (4, u "LOG2_ARRAY_INT_INDEX_SCALE"), (54, u "JLA"), (0, u "Ljdk/internal/access/JavaLangAccess;"), (11, u "LOG2_ARRAY_BOOLEAN_INDEX_SCALE"), (9, u "LOG2_ARRAY_BYTE_INDEX_SCALE"), (5, u "LOG2_ARRAY_CHAR_INDEX_SCALE"), (5, u "LOG2_ARRAY_SHORT_INDEX_SCALE"), (18, u "LOG2_ARRAY_FLOAT_INDEX_SCALE"), (24, u "LOG2_ARRAY_DOUBLE_INDEX_SCALE"), (89, u "T_BOOLEAN"), (2, u "T_CHAR"), (1, u "T_FLOAT"), (1, u "T_DOUBLE"), (1, u "T_BYTE"), (1, u "T_SHORT"), (1, u "T_INT"), (1, u "T_LONG"), (1, u "SOFT_MAX_ARRAY_LENGTH")] 83

def k12m0 : Method := { name := "<init>", desc := "()V", sig := { parameters := [], returnType := none }, accessFlags := 2, code := none }
/-- jdk/internal/util/ArraysSupport -/
def k12 : Class := { plain "jdk/internal/util/ArraysSupport" (some 0) with
  accessFlags := 33
  interfaces := #[]
  cf := some (fileOf pool12 21 #[] #[{ accessFlags := 2, nameIndex := 9, descriptorIndex := 19, attributes := #[] }] 33 16 #[] #[{ accessFlags := 24, nameIndex := 28, descriptorIndex := 29, attributes := #[] }, { accessFlags := 26, nameIndex := 38, descriptorIndex := 39, attributes := #[] }, { accessFlags := 25, nameIndex := 121, descriptorIndex := 25, attributes := #[] }, { accessFlags := 25, nameIndex := 131, descriptorIndex := 25, attributes := #[] }, { accessFlags := 25, nameIndex := 137, descriptorIndex := 25, attributes := #[] }, { accessFlags := 25, nameIndex := 143, descriptorIndex := 25, attributes := #[] }, { accessFlags := 25, nameIndex := 53, descriptorIndex := 25, attributes := #[] }, { accessFlags := 25, nameIndex := 24, descriptorIndex := 25, attributes := #[] }, { accessFlags := 25, nameIndex := 162, descriptorIndex := 25, attributes := #[] }, { accessFlags := 25, nameIndex := 187, descriptorIndex := 25, attributes := #[] }, { accessFlags := 26, nameIndex := 48, descriptorIndex := 25, attributes := #[] }, { accessFlags := 25, nameIndex := 277, descriptorIndex := 25, attributes := #[] }, { accessFlags := 25, nameIndex := 280, descriptorIndex := 25, attributes := #[] }, { accessFlags := 25, nameIndex := 282, descriptorIndex := 25, attributes := #[] }, { accessFlags := 25, nameIndex := 284, descriptorIndex := 25, attributes := #[] }, { accessFlags := 25, nameIndex := 286, descriptorIndex := 25, attributes := #[] }, { accessFlags := 25, nameIndex := 288, descriptorIndex := 25, attributes := #[] }, { accessFlags := 25, nameIndex := 290, descriptorIndex := 25, attributes := #[] }, { accessFlags := 25, nameIndex := 292, descriptorIndex := 25, attributes := #[] }, { accessFlags := 26, nameIndex := 108, descriptorIndex := 109, attributes := #[] }, { accessFlags := 25, nameIndex := 294, descriptorIndex := 25, attributes := #[] }])
  fields := #[{ name := "U", type := (.object "jdk/internal/misc/Unsafe"), accessFlags := 24, slot := 0, constantValue := 0 }, { name := "BIG_ENDIAN", type := .boolean, accessFlags := 26, slot := 1, constantValue := 0 }, { name := "LOG2_ARRAY_BOOLEAN_INDEX_SCALE", type := .int, accessFlags := 25, slot := 2, constantValue := 0 }, { name := "LOG2_ARRAY_BYTE_INDEX_SCALE", type := .int, accessFlags := 25, slot := 3, constantValue := 0 }, { name := "LOG2_ARRAY_CHAR_INDEX_SCALE", type := .int, accessFlags := 25, slot := 4, constantValue := 0 }, { name := "LOG2_ARRAY_SHORT_INDEX_SCALE", type := .int, accessFlags := 25, slot := 5, constantValue := 0 }, { name := "LOG2_ARRAY_INT_INDEX_SCALE", type := .int, accessFlags := 25, slot := 6, constantValue := 0 }, { name := "LOG2_ARRAY_LONG_INDEX_SCALE", type := .int, accessFlags := 25, slot := 7, constantValue := 0 }, { name := "LOG2_ARRAY_FLOAT_INDEX_SCALE", type := .int, accessFlags := 25, slot := 8, constantValue := 0 }, { name := "LOG2_ARRAY_DOUBLE_INDEX_SCALE", type := .int, accessFlags := 25, slot := 9, constantValue := 0 }, { name := "LOG2_BYTE_BIT_SIZE", type := .int, accessFlags := 26, slot := 10, constantValue := 0 }, { name := "T_BOOLEAN", type := .int, accessFlags := 25, slot := 11, constantValue := 0 }, { name := "T_CHAR", type := .int, accessFlags := 25, slot := 12, constantValue := 0 }, { name := "T_FLOAT", type := .int, accessFlags := 25, slot := 13, constantValue := 0 }, { name := "T_DOUBLE", type := .int, accessFlags := 25, slot := 14, constantValue := 0 }, { name := "T_BYTE", type := .int, accessFlags := 25, slot := 15, constantValue := 0 }, { name := "T_SHORT", type := .int, accessFlags := 25, slot := 16, constantValue := 0 }, { name := "T_INT", type := .int, accessFlags := 25, slot := 17, constantValue := 0 }, { name := "T_LONG", type := .int, accessFlags := 25, slot := 18, constantValue := 0 }, { name := "JLA", type := (.object "jdk/internal/access/JavaLangAccess"), accessFlags := 26, slot := 19, constantValue := 0 }, { name := "SOFT_MAX_ARRAY_LENGTH", type := .int, accessFlags := 25, slot := 20, constantValue := 0 }]
  methods := #[k12m0]
  instanceTypes := #[]
  staticTypes := #[(.object "jdk/internal/misc/Unsafe"), .boolean, .int, .int, .int, .int, .int, .int, .int, .int, .int, .int, .int, .int, .int, .int, .int, .int, .int, (.object "jdk/internal/access/JavaLangAccess"), .int]
  resolved := Array.replicate 378 none
  statics := none }

def pool13 : Array CpInfo := pool [(1, u "java/lang/Cloneable"), (0, .class_ 1), (0, u "java/lang/Object"), (0, .class_ 3)] 3

/-- java/lang/Cloneable -/
def k13 : Class := { plain "java/lang/Cloneable" (some 0) with
  accessFlags := 1537
  interfaces := #[]
  cf := some (fileOf pool13 2 #[] #[] 1537 4 #[] #[])
  fields := #[]
  methods := #[]
  instanceTypes := #[]
  staticTypes := #[]
  resolved := Array.replicate 8 none
  statics := none }

/-- the primitive byte -/
def k14 : Class := { plain "byte" none with kind := .primitive 'B', accessFlags := 0x411 }
/-- [B -/
def k15 : Class := { plain "[B" (some 0) with kind := .array 14 .byte, interfaces := #[13, 3], accessFlags := 1041 }

/-- the primitive int -/
def k16 : Class := { plain "int" none with kind := .primitive 'I', accessFlags := 0x411 }
/-- [I -/
def k17 : Class := { plain "[I" (some 0) with kind := .array 16 .int, interfaces := #[13, 3], accessFlags := 1041 }

def heap : Heap := #[{ cls := 8, slots := #[.long 0, .int 1, .null, .int 0, .null, .int 0, .int 0], vm := .statics 8 },
  { cls := 10, slots := #[.int 0, .int 8, .int 0, .int 1], vm := .statics 10 },
  { cls := 11, slots := #[.null, .null, .null], vm := .statics 11 }]
def classes : Array Class := #[k0, k1, k2, k3, k4, k5, k6, k7, k8, k9, k10, k11, k12, k13, k14, k15, k16, k17]
def interned : List (Array UInt16 × Addr) := []
def slotsUsed : Nat := 14
def theMethod : MethodId := ⟨1, 1⟩
def args0 : Array Value := #[.int 5, .int 7, .int 3, .int 9, .int 2]
def aboutOver (below : List Frame) : State where
  vm := { classes := classes, interned := interned.toArray }
  heap := heap
  slotsUsed := slotsUsed
  threads := #[{ frames := .invoking theMethod args0 :: below }]
def below0 : List Frame := [.native { method := ⟨0, 0⟩, args := #[] }]
def about1 : State := aboutOver below0
def p0 : Program := .bare "" "" ""
def e0 : Env := launch0.env 0 0 0
theorem w_frames : about1.frames = Frame.invoking theMethod args0 :: below0 := rfl
set_option maxRecDepth 65536 in
theorem w_args : argsFit about1.vm theMethod args0 = true := by decide +kernel
set_option maxRecDepth 65536 in
theorem w_heap : heapFits about1 = true := by decide +kernel
set_option maxRecDepth 65536 in
theorem w_runnable : about1.curStatus? = some .runnable := by decide +kernel
set_option maxRecDepth 65536 in
theorem w_alone : about1.alone = true := by decide +kernel
set_option maxRecDepth 65536 in
theorem w_named : about1.methodNamed? x = some theMethod := by decide +kernel
set_option maxRecDepth 65536 in
theorem w_hears : about1.hears theMethod below0 = true := by decide +kernel
set_option maxRecDepth 65536 in
theorem w_ripe : about1.ripe theMethod args0 below0 = true := by decide +kernel
theorem w_running : about1.status = .running := rfl
set_option maxRecDepth 65536 in
theorem w_room : about1.hasRoom e0.platform room_1 = true :=
  launch0.hasRoom_least _ room_1 (by decide +kernel) (by decide +kernel) (by decide +kernel) (by decide +kernel) (by decide +kernel) (by decide +kernel)
theorem allAtoms_all (ts : List Jvm.Cond) (a : Array Jvm.Value) (st : Jvm.State) : (allAtoms ts).before a st = ts.all (fun c => c.before a st) := by
  induction ts with
  | nil => rfl
  | cons c t ih =>
    show (Jvm.Cond.and c (allAtoms t)).before a st = _
    rw [Jvm.Cond.before_and, ih, List.all_cons]
def words1 : List Jvm.Cond := Jvm.Cond.code x code maxLocals ret :: tables_1
/-- a 'code' word, met by the world's own term for the bytes: nothing is compared byte by byte -/
theorem code_word {y : MethodName} {bytes : ByteArray} {mx : Nat} {rt : Option FieldType} {a : Array Value} {s : State} {m : MethodId} {meth : Method} {c : Code} (h1 : s.methodNamed? y = some m) (h2 : s.vm.method? m = some meth) (h3 : meth.code = some c) (h4 : c.code = bytes)
    (h5 : (c.maxLocals == mx && c.exceptionTable.isEmpty && decide (c.maxStack ≤ mostOperands) && decide (meth.sig.returnType = rt) && !meth.locks && decide (parseMethodDescriptor y.desc = some meth.sig)) = true) : (Jvm.Cond.code y bytes mx rt).before a s = true := by
  simp only [Bool.and_eq_true, beq_iff_eq, Bool.not_eq_true', decide_eq_true_eq] at h5
  obtain ⟨⟨⟨⟨⟨g1, g2⟩, g3⟩, g4⟩, g5⟩, g6⟩ := h5
  simp [Cond.before, Cond.holds, Cond.value, h1, h2, h3, h4, g1, g2, g3, g4, g5, g6]
def isCode : Jvm.Cond → Bool
  | .code _ _ _ _ => true
  | _ => false
theorem all_split {L : List Jvm.Cond} {P : Jvm.Cond → Bool} (h1 : L.all (fun c => isCode c || P c) = true) (h2 : ∀ c ∈ L.filter isCode, P c = true) : L.all P = true := by
  refine List.all_eq_true.mpr fun c hc => ?_
  have h := List.all_eq_true.mp h1 c hc
  rcases Bool.eq_false_or_eq_true (isCode c) with hi | hi
  · exact h2 c (List.mem_filter.mpr ⟨hc, hi⟩)
  · simpa [hi] using h
set_option maxRecDepth 65536 in
theorem w_c0 : (Jvm.Cond.code x code maxLocals ret).before args0 about1 = true := code_word (m := ⟨1, 1⟩) (meth := k1m1) (c := k1c1) (by decide +kernel) rfl rfl rfl (by decide +kernel)
set_option maxRecDepth 65536 in
theorem w_c1 : (Jvm.Cond.code ({ cls := "cascabel/parser/Decoders", name := "replacement", desc := "([BI)Ljava/lang/String;" } : Jvm.MethodName) prog_94_method_4_code (2 : Nat) (Option.some (Jvm.ClassFile.FieldType.object "java/lang/String"))).before args0 about1 = true := code_word (m := ⟨2, 1⟩) (meth := k2m1) (c := k2c1) (by decide +kernel) rfl rfl rfl (by decide +kernel)
set_option maxRecDepth 65536 in
theorem w_c2 : (Jvm.Cond.code ({ cls := "java/lang/String", name := "isEmpty", desc := "()Z" } : Jvm.MethodName) jdk_42_method_55_code (1 : Nat) (Option.some Jvm.ClassFile.FieldType.boolean)).before args0 about1 = true := code_word (m := ⟨8, 2⟩) (meth := k8m2) (c := k8c2) (by decide +kernel) rfl rfl rfl (by decide +kernel)
set_option maxRecDepth 65536 in
theorem w_c3 : (Jvm.Cond.code ({ cls := "java/lang/String", name := "valueOf", desc := "(C)Ljava/lang/String;" } : Jvm.MethodName) jdk_42_method_139_code (1 : Nat) (Option.some (Jvm.ClassFile.FieldType.object "java/lang/String"))).before args0 about1 = true := code_word (m := ⟨8, 4⟩) (meth := k8m4) (c := k8c4) (by decide +kernel) rfl rfl rfl (by decide +kernel)
set_option maxRecDepth 65536 in
theorem w_c4 : (Jvm.Cond.code ({ cls := "java/lang/StringLatin1", name := "canEncode", desc := "(C)Z" } : Jvm.MethodName) jdk_43_method_3_code (1 : Nat) (Option.some Jvm.ClassFile.FieldType.boolean)).before args0 about1 = true := code_word (m := ⟨9, 1⟩) (meth := k9m1) (c := k9c1) (by decide +kernel) rfl rfl rfl (by decide +kernel)
set_option maxRecDepth 65536 in
theorem w_c5 : (Jvm.Cond.code ({ cls := "java/lang/StringUTF16", name := "toBytes", desc := "(C)[B" } : Jvm.MethodName) jdk_52_method_24_code (2 : Nat) (Option.some (Jvm.ClassFile.FieldType.array Jvm.ClassFile.FieldType.byte))).before args0 about1 = true := code_word (m := ⟨10, 4⟩) (meth := k10m4) (c := k10c4) (by decide +kernel) rfl rfl rfl (by decide +kernel)
set_option maxRecDepth 65536 in
theorem w_c6 : (Jvm.Cond.code ({ cls := "java/lang/StringUTF16", name := "putChar", desc := "([BII)V" } : Jvm.MethodName) jdk_52_method_4_code (3 : Nat) (Option.none : Option Jvm.ClassFile.FieldType)).before args0 about1 = true := code_word (m := ⟨10, 1⟩) (meth := k10m1) (c := k10c1) (by decide +kernel) rfl rfl rfl (by decide +kernel)
set_option maxRecDepth 65536 in
theorem w_c7 : (Jvm.Cond.code ({ cls := "java/lang/String", name := "<init>", desc := "([BB)V" } : Jvm.MethodName) jdk_42_method_151_code (3 : Nat) (Option.none : Option Jvm.ClassFile.FieldType)).before args0 about1 = true := code_word (m := ⟨8, 5⟩) (meth := k8m5) (c := k8c5) (by decide +kernel) rfl rfl rfl (by decide +kernel)
set_option maxRecDepth 65536 in
theorem w_c8 : (Jvm.Cond.code ({ cls := "java/lang/Object", name := "<init>", desc := "()V" } : Jvm.MethodName) object_method_1_code (1 : Nat) (Option.none : Option Jvm.ClassFile.FieldType)).before args0 about1 = true := code_word (m := ⟨0, 0⟩) (meth := k0m0) (c := k0c0) (by decide +kernel) rfl rfl rfl (by decide +kernel)
set_option maxRecDepth 65536 in
theorem w_c9 : (Jvm.Cond.code ({ cls := "java/lang/String", name := "length", desc := "()I" } : Jvm.MethodName) jdk_42_method_54_code (1 : Nat) (Option.some Jvm.ClassFile.FieldType.int)).before args0 about1 = true := code_word (m := ⟨8, 1⟩) (meth := k8m1) (c := k8c1) (by decide +kernel) rfl rfl rfl (by decide +kernel)
set_option maxRecDepth 65536 in
theorem w_c10 : (Jvm.Cond.code ({ cls := "java/lang/String", name := "coder", desc := "()B" } : Jvm.MethodName) jdk_42_method_152_code (1 : Nat) (Option.some Jvm.ClassFile.FieldType.byte)).before args0 about1 = true := code_word (m := ⟨8, 6⟩) (meth := k8m6) (c := k8c6) (by decide +kernel) rfl rfl rfl (by decide +kernel)
set_option maxRecDepth 65536 in
theorem w_c11 : (Jvm.Cond.code ({ cls := "java/lang/String", name := "charAt", desc := "(I)C" } : Jvm.MethodName) jdk_42_method_56_code (2 : Nat) (Option.some Jvm.ClassFile.FieldType.char)).before args0 about1 = true := code_word (m := ⟨8, 3⟩) (meth := k8m3) (c := k8c3) (by decide +kernel) rfl rfl rfl (by decide +kernel)
set_option maxRecDepth 65536 in
theorem w_c12 : (Jvm.Cond.code ({ cls := "java/lang/String", name := "isLatin1", desc := "()Z" } : Jvm.MethodName) jdk_42_method_154_code (1 : Nat) (Option.some Jvm.ClassFile.FieldType.boolean)).before args0 about1 = true := code_word (m := ⟨8, 7⟩) (meth := k8m7) (c := k8c7) (by decide +kernel) rfl rfl rfl (by decide +kernel)
set_option maxRecDepth 65536 in
theorem w_c13 : (Jvm.Cond.code ({ cls := "java/lang/StringUTF16", name := "charAt", desc := "([BI)C" } : Jvm.MethodName) jdk_52_method_83_code (2 : Nat) (Option.some Jvm.ClassFile.FieldType.char)).before args0 about1 = true := code_word (m := ⟨10, 5⟩) (meth := k10m5) (c := k10c5) (by decide +kernel) rfl rfl rfl (by decide +kernel)
set_option maxRecDepth 65536 in
theorem w_c14 : (Jvm.Cond.code ({ cls := "java/lang/StringUTF16", name := "checkIndex", desc := "(I[B)V" } : Jvm.MethodName) jdk_52_method_91_code (2 : Nat) (Option.none : Option Jvm.ClassFile.FieldType)).before args0 about1 = true := code_word (m := ⟨10, 6⟩) (meth := k10m6) (c := k10c6) (by decide +kernel) rfl rfl rfl (by decide +kernel)
set_option maxRecDepth 65536 in
theorem w_c15 : (Jvm.Cond.code ({ cls := "java/lang/StringUTF16", name := "length", desc := "([B)I" } : Jvm.MethodName) jdk_52_method_6_code (1 : Nat) (Option.some Jvm.ClassFile.FieldType.int)).before args0 about1 = true := code_word (m := ⟨10, 3⟩) (meth := k10m3) (c := k10c3) (by decide +kernel) rfl rfl rfl (by decide +kernel)
set_option maxRecDepth 65536 in
theorem w_c16 : (Jvm.Cond.code ({ cls := "java/lang/String", name := "checkIndex", desc := "(II)V" } : Jvm.MethodName) jdk_42_method_155_code (2 : Nat) (Option.none : Option Jvm.ClassFile.FieldType)).before args0 about1 = true := code_word (m := ⟨8, 8⟩) (meth := k8m8) (c := k8c8) (by decide +kernel) rfl rfl rfl (by decide +kernel)
set_option maxRecDepth 65536 in
theorem w_c17 : (Jvm.Cond.code ({ cls := "jdk/internal/util/Preconditions", name := "checkIndex", desc := "(IILjava/util/function/BiFunction;)I" } : Jvm.MethodName) jdk_41_method_11_code (3 : Nat) (Option.some Jvm.ClassFile.FieldType.int)).before args0 about1 = true := code_word (m := ⟨11, 1⟩) (meth := k11m1) (c := k11c1) (by decide +kernel) rfl rfl rfl (by decide +kernel)
set_option maxRecDepth 65536 in
theorem w_c18 : (Jvm.Cond.code ({ cls := "java/lang/StringUTF16", name := "getChar", desc := "([BI)C" } : Jvm.MethodName) jdk_52_method_5_code (2 : Nat) (Option.some Jvm.ClassFile.FieldType.char)).before args0 about1 = true := code_word (m := ⟨10, 2⟩) (meth := k10m2) (c := k10c2) (by decide +kernel) rfl rfl rfl (by decide +kernel)
def codes1 : List Jvm.Cond := [Jvm.Cond.code x code maxLocals ret, Jvm.Cond.code ({ cls := "cascabel/parser/Decoders", name := "replacement", desc := "([BI)Ljava/lang/String;" } : Jvm.MethodName) prog_94_method_4_code (2 : Nat) (Option.some (Jvm.ClassFile.FieldType.object "java/lang/String")), Jvm.Cond.code ({ cls := "java/lang/String", name := "isEmpty", desc := "()Z" } : Jvm.MethodName) jdk_42_method_55_code (1 : Nat) (Option.some Jvm.ClassFile.FieldType.boolean), Jvm.Cond.code ({ cls := "java/lang/String", name := "valueOf", desc := "(C)Ljava/lang/String;" } : Jvm.MethodName) jdk_42_method_139_code (1 : Nat) (Option.some (Jvm.ClassFile.FieldType.object "java/lang/String")), Jvm.Cond.code ({ cls := "java/lang/StringLatin1", name := "canEncode", desc := "(C)Z" } : Jvm.MethodName) jdk_43_method_3_code (1 : Nat) (Option.some Jvm.ClassFile.FieldType.boolean), Jvm.Cond.code ({ cls := "java/lang/StringUTF16", name := "toBytes", desc := "(C)[B" } : Jvm.MethodName) jdk_52_method_24_code (2 : Nat) (Option.some (Jvm.ClassFile.FieldType.array Jvm.ClassFile.FieldType.byte)), Jvm.Cond.code ({ cls := "java/lang/StringUTF16", name := "putChar", desc := "([BII)V" } : Jvm.MethodName) jdk_52_method_4_code (3 : Nat) (Option.none : Option Jvm.ClassFile.FieldType), Jvm.Cond.code ({ cls := "java/lang/String", name := "<init>", desc := "([BB)V" } : Jvm.MethodName) jdk_42_method_151_code (3 : Nat) (Option.none : Option Jvm.ClassFile.FieldType), Jvm.Cond.code ({ cls := "java/lang/Object", name := "<init>", desc := "()V" } : Jvm.MethodName) object_method_1_code (1 : Nat) (Option.none : Option Jvm.ClassFile.FieldType), Jvm.Cond.code ({ cls := "java/lang/String", name := "length", desc := "()I" } : Jvm.MethodName) jdk_42_method_54_code (1 : Nat) (Option.some Jvm.ClassFile.FieldType.int), Jvm.Cond.code ({ cls := "java/lang/String", name := "coder", desc := "()B" } : Jvm.MethodName) jdk_42_method_152_code (1 : Nat) (Option.some Jvm.ClassFile.FieldType.byte), Jvm.Cond.code ({ cls := "java/lang/String", name := "charAt", desc := "(I)C" } : Jvm.MethodName) jdk_42_method_56_code (2 : Nat) (Option.some Jvm.ClassFile.FieldType.char), Jvm.Cond.code ({ cls := "java/lang/String", name := "isLatin1", desc := "()Z" } : Jvm.MethodName) jdk_42_method_154_code (1 : Nat) (Option.some Jvm.ClassFile.FieldType.boolean), Jvm.Cond.code ({ cls := "java/lang/StringUTF16", name := "charAt", desc := "([BI)C" } : Jvm.MethodName) jdk_52_method_83_code (2 : Nat) (Option.some Jvm.ClassFile.FieldType.char), Jvm.Cond.code ({ cls := "java/lang/StringUTF16", name := "checkIndex", desc := "(I[B)V" } : Jvm.MethodName) jdk_52_method_91_code (2 : Nat) (Option.none : Option Jvm.ClassFile.FieldType), Jvm.Cond.code ({ cls := "java/lang/StringUTF16", name := "length", desc := "([B)I" } : Jvm.MethodName) jdk_52_method_6_code (1 : Nat) (Option.some Jvm.ClassFile.FieldType.int), Jvm.Cond.code ({ cls := "java/lang/String", name := "checkIndex", desc := "(II)V" } : Jvm.MethodName) jdk_42_method_155_code (2 : Nat) (Option.none : Option Jvm.ClassFile.FieldType), Jvm.Cond.code ({ cls := "jdk/internal/util/Preconditions", name := "checkIndex", desc := "(IILjava/util/function/BiFunction;)I" } : Jvm.MethodName) jdk_41_method_11_code (3 : Nat) (Option.some Jvm.ClassFile.FieldType.int), Jvm.Cond.code ({ cls := "java/lang/StringUTF16", name := "getChar", desc := "([BI)C" } : Jvm.MethodName) jdk_52_method_5_code (2 : Nat) (Option.some Jvm.ClassFile.FieldType.char)]
set_option maxRecDepth 65536 in
theorem codes_eq : words1.filter isCode = codes1 := rfl
theorem w_codes : ∀ c ∈ words1.filter isCode, c.before args0 about1 = true := by
  rw [codes_eq]
  intro c hc
  simp only [codes1, List.mem_cons, List.not_mem_nil, or_false] at hc
  rcases hc with rfl | rfl | rfl | rfl | rfl | rfl | rfl | rfl | rfl | rfl | rfl | rfl | rfl | rfl | rfl | rfl | rfl | rfl | rfl
  · exact w_c0
  · exact w_c1
  · exact w_c2
  · exact w_c3
  · exact w_c4
  · exact w_c5
  · exact w_c6
  · exact w_c7
  · exact w_c8
  · exact w_c9
  · exact w_c10
  · exact w_c11
  · exact w_c12
  · exact w_c13
  · exact w_c14
  · exact w_c15
  · exact w_c16
  · exact w_c17
  · exact w_c18
set_option maxRecDepth 65536 in
theorem w_t1 : (words1.take 24).all (fun c => isCode c || c.before args0 about1) = true := by decide +kernel
set_option maxRecDepth 65536 in
theorem w_t2 : ((words1.drop 24).take 24).all (fun c => isCode c || c.before args0 about1) = true := by decide +kernel
set_option maxRecDepth 65536 in
theorem w_t3 : (((words1.drop 24).drop 24).take 24).all (fun c => isCode c || c.before args0 about1) = true := by decide +kernel
set_option maxRecDepth 65536 in
theorem w_t4 : (((words1.drop 24).drop 24).drop 24).all (fun c => isCode c || c.before args0 about1) = true := by decide +kernel
theorem w_tables : (allAtoms (Jvm.Cond.code x code maxLocals ret :: tables_1)).before args0 about1 = true := by
  rw [allAtoms_all]
  show words1.all (fun c => c.before args0 about1) = true
  refine all_split ?_ w_codes
  rw [← List.take_append_drop 24 words1, List.all_append, w_t1, ← List.take_append_drop 24 (words1.drop 24), List.all_append, w_t2, ← List.take_append_drop 24 ((words1.drop 24).drop 24), List.all_append, w_t3, w_t4]
  rfl
set_option maxRecDepth 65536 in
theorem w_rest : rest_1_c.before args0 about1 = true := by decide +kernel
set_option maxRecDepth 65536 in
theorem w_case : (Jvm.Cond.and given_1 narrow_1).before args0 about1 = true := by decide +kernel
set_option maxRecDepth 65536 in
theorem w_consts : constsHeld consts_1 about1 := Jvm.Lit.constsHeldB_iff.mp (by decide +kernel)
theorem w_applies : (headSpec (Jvm.Cond.code x code maxLocals ret :: tables_1) room_1).applies x e0.platform about1 = true :=
  (Spec.applies_iff w_frames).mpr ⟨w_running, w_runnable, w_alone, w_named, w_hears, w_ripe, w_room, w_tables⟩
theorem atStart : AtStart classFile x code maxLocals ret World_1 tables_1 room_1 Calls_1 rest_1 Pre_1 launch0 p0 e0 about1 theMethod args0 below0 :=
  ⟨lists_1, trivial, launch0.admits_env _ _ _, launch0.least_env, fairChoices_fair.cas, fairChoices_fair.clock, w_frames, w_args, w_heap, w_applies, ⟨w_consts, trivial⟩, w_rest, w_case⟩
end start1
theorem witness_1 : WitnessClaimed_1 := ⟨start1.p0, start1.e0, start1.about1, start1.theMethod, start1.args0, start1.below0, start1.atStart⟩
end Jvm.Pilot.@@N@@
