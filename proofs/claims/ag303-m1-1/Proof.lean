import JvmDerived
import JvmDerived.Pilot.@@N@@Statement
import JvmDerived.Pilot.@@N@@Code
set_option linter.unusedVariables false
set_option linter.unusedSimpArgs false
namespace Jvm.RoadKit
open Sem ClassFile Op Lib Jvm.Stand Jvm.Free Jvm.LawKit
section New
variable {p : Program} {l : Launch} {e : Env} {R : Room} {s : State} {m : MethodId} {args : Array Value} {below : List Frame} {meth : Method} {c : Code} {T : State} {locs : List Loc} {cells slots : Nat}
theorem retI (X : Stand p l e R s m args below meth c T locs cells slots) (hx : p.tables.exec = Jvm.exec) {pc : Nat} {Ls : Array Slot} {z : Int32} {rest : List Value} (hret : meth.sig.returnType = some .int) (hd : decode c.code pc = .ok (.ireturn, 1)) {fs : List Frame}
    (hl : ∀ (f : JFrame) (acts : List Action), f.method = m → f.locked = none → f.entered = [] → (doReturn e (T.setTop f) acts (some (.int z))).1 = T.setFrames fs) : Steps p.tables e below (T.setTop (mkF m pc Ls (.int z :: rest))) (T.setFrames fs) := by
  have hm' : T.vm.method? m = some meth := X.method'
  have hn : narrow .int (.int z) = .int z := rfl
  show Steps p.tables e below (T.setTop { method := m, pc := pc, locals := Ls, stack := _ :: rest, locked := none }) _
  jvm_step X.here [X.here.top, hx, hd, hm', hret, hn]
  first | (intro acts; rw [hl _ acts rfl rfl rfl]) | rw [hl _ _ rfl rfl rfl]
  exact Steps.refl _
/-- from here the invocation comes to an end of which R holds -/
def Goes (p : Program) (e : Env) (below : List Frame) (cur : State) (R : State → Outcome → Prop) : Prop := ∃ s₂ o, Steps p.tables e below cur s₂ ∧ s₂.status = .running ∧ Ended s₂ below o ∧ R s₂ o
theorem Goes.via {cur next : State} {R : State → Outcome → Prop} (k : ∀ t, Steps p.tables e below next t → Steps p.tables e below cur t) (h : Goes p e below next R) : Goes p e below cur R := by
  obtain ⟨s₂, o, h1, h2⟩ := h
  exact ⟨s₂, o, k _ h1, h2⟩
end New
end Jvm.RoadKit
namespace Jvm.Pilot.@@N@@
open Jvm Jvm.ClassFile Sem Op Lib Jvm.Free Jvm.Stand Jvm.LawKit Jvm.RoadKit Bundle Jvm.Pilot.@@N@@.Jvm.D
theorem d1_0 : decode method_2_code 0 = .ok (.iload_n 1, 1) := by decide +kernel
theorem d1_1 : decode method_2_code 1 = .ok (.iconst 3, 1) := by decide +kernel
theorem d1_2 : decode method_2_code 2 = .ok (.iand, 1) := by decide +kernel
theorem d1_3 : decode method_2_code 3 = .ok (.istore_n 2, 1) := by decide +kernel
theorem d1_4 : decode method_2_code 4 = .ok (.iload_n 2, 1) := by decide +kernel
theorem d1_5 : decode method_2_code 5 = .ok (.ifCond .ne 6, 3) := by decide +kernel
theorem d1_8 : decode method_2_code 8 = .ok (.iload_n 0, 1) := by decide +kernel
theorem d1_9 : decode method_2_code 9 = .ok (.i2c, 1) := by decide +kernel
theorem d1_10 : decode method_2_code 10 = .ok (.ireturn, 1) := by decide +kernel
theorem d1_11 : decode method_2_code 11 = .ok (.iload_n 2, 1) := by decide +kernel
theorem d1_12 : decode method_2_code 12 = .ok (.iconst 1, 1) := by decide +kernel
theorem d1_13 : decode method_2_code 13 = .ok (.if_icmp .ne 9, 3) := by decide +kernel
theorem d1_16 : decode method_2_code 16 = .ok (.iload_n 0, 1) := by decide +kernel
theorem d1_17 : decode method_2_code 17 = .ok (.bipush 15, 2) := by decide +kernel
theorem d1_19 : decode method_2_code 19 = .ok (.iand, 1) := by decide +kernel
theorem d1_20 : decode method_2_code 20 = .ok (.i2c, 1) := by decide +kernel
theorem d1_21 : decode method_2_code 21 = .ok (.ireturn, 1) := by decide +kernel
theorem d1_22 : decode method_2_code 22 = .ok (.iload_n 2, 1) := by decide +kernel
theorem d1_23 : decode method_2_code 23 = .ok (.iconst 2, 1) := by decide +kernel
theorem d1_24 : decode method_2_code 24 = .ok (.if_icmp .ne 13, 3) := by decide +kernel
theorem d1_27 : decode method_2_code 27 = .ok (.sipush 8224, 3) := by decide +kernel
theorem d1_30 : decode method_2_code 30 = .ok (.iload_n 0, 1) := by decide +kernel
theorem d1_31 : decode method_2_code 31 = .ok (.bipush 15, 2) := by decide +kernel
theorem d1_33 : decode method_2_code 33 = .ok (.iand, 1) := by decide +kernel
theorem d1_34 : decode method_2_code 34 = .ok (.iadd, 1) := by decide +kernel
theorem d1_35 : decode method_2_code 35 = .ok (.i2c, 1) := by decide +kernel
theorem d1_36 : decode method_2_code 36 = .ok (.ireturn, 1) := by decide +kernel
theorem d1_37 : decode method_2_code 37 = .ok (.ldc 7, 2) := by decide +kernel
theorem d1_39 : decode method_2_code 39 = .ok (.iload_n 0, 1) := by decide +kernel
theorem d1_40 : decode method_2_code 40 = .ok (.bipush 15, 2) := by decide +kernel
theorem d1_42 : decode method_2_code 42 = .ok (.iand, 1) := by decide +kernel
theorem d1_43 : decode method_2_code 43 = .ok (.iadd, 1) := by decide +kernel
theorem d1_44 : decode method_2_code 44 = .ok (.i2c, 1) := by decide +kernel
theorem d1_45 : decode method_2_code 45 = .ok (.ireturn, 1) := by decide +kernel
theorem pn_1 : plainName "com/example/beforehand/beforehand/EcmaScriptRegexIsLineTerminatorPinLaw" = true := by first | (simp [plainName, overriddenIn]; done) | decide +kernel
theorem ef_1 (m : MethodId) (x0 : Int32) (x1 : Int32) : entryFrame m #[(.int x0), (.int x1)] 3 = mkF m 0 #[.val (.int x0), .val (.int x1), .unset] [] := by first | (simp [entryFrame, mkF, argsToLocals, Value.category]; done) | rfl
def f1 (p1 : Int32) (p2 : Int32) : Int32 :=
  if (p2 &&& (3 : Int32)) = (0 : Int32) then (nar .char (p1.toUInt32.toUInt16.toUInt32.toInt32)) else
  if (p2 &&& (3 : Int32)) = (1 : Int32) then (nar .char ((p1 &&& (15 : Int32)).toUInt32.toUInt16.toUInt32.toInt32)) else
  if (p2 &&& (3 : Int32)) = (2 : Int32) then (nar .char (((8224 : Int32) + (p1 &&& (15 : Int32))).toUInt32.toUInt16.toUInt32.toInt32)) else
  (nar .char (((65520 : Int32) + (p1 &&& (15 : Int32))).toUInt32.toUInt16.toUInt32.toInt32))
def Q1 (Z : State) (p1 : Int32) (p2 : Int32) (h0 : Heap) (n0 : Nat) (v : Option Value) (h : Heap) (L : List Loc) : Prop := v = some (.int (f1 p1 p2)) ∧ Fr n0 L ∧ h = h0
set_option maxRecDepth 65536 in
set_option maxHeartbeats 40000000 in
theorem rm1 (l : Launch) (Z : State) (a0 : Array Value) (hw : ∀ d ∈ tables_1, d.before a0 Z = true) (ws : List Jvm.Cond) (p1 : Int32) (p2 : Int32) (h0 : Heap) (n0 : Nat) (Z0 : n0 ≤ h0.size) :
    MetFree l (⟨"com/example/beforehand/beforehand/EcmaScriptRegexIsLineTerminatorPinLaw", "draw", "(II)C"⟩ : MethodName) (head1 (Jvm.Cond.code (⟨"com/example/beforehand/beforehand/EcmaScriptRegexIsLineTerminatorPinLaw", "draw", "(II)C"⟩ : MethodName) method_2_code 3 (some .char) :: ws) ({ frames := 0, cells := 0, slots := 0, locals := 0 } : Room)) (fun a U => a = #[(.int p1), (.int p2)] ∧ Z.Warmed39 U.vm ∧ U.heap = h0) (fun _ _ _ _ _ => True) (fun _ U o U' => ∃ v L, o = .returned v ∧ Q1 Z p1 p2 h0 n0 v U'.heap L ∧ FrameEnd U o U' L ({ frames := 0, cells := 0, slots := 0, locals := 0 } : Room).cells ({ frames := 0, cells := 0, slots := 0, locals := 0 } : Room).slots) := by
  refine MetFree.of_bodySF (plainFor_of_name pn_1) hisR ?_
  intro p e s m args below meth c s₁ Bd hml0 hP hK
  obtain ⟨rfl, hZ, hh⟩ := hP
  have hx := Bd.exec
  have hby := Bd.bytes
  have hml : c.maxLocals = 3 := hml0
  have hown : s.vm.findClass "com/example/beforehand/beforehand/EcmaScriptRegexIsLineTerminatorPinLaw" = some m.cls := findClass_of_methodNamed Bd.named
  have hnm := (name_of_methodNamed Bd.named Bd.method).1
  have X0 : Stand p l e ({ frames := 0, cells := 0, slots := 0, locals := 0 } : Room) s m #[(.int p1), (.int p2)] below meth c s₁ [] 0 0 := Stand.of_body Bd
  have e0 : s₁.heap = h0 := by rw [← hh, Bd.state]; rfl
  have N0 := Fr.nil n0
  refine Goes.via (next := s₁.setTop (mkF m 0 #[.val (.int p1), .val (.int p2), .unset] [])) (fun t k => castTop (ef_1 m p1 p2) k) ?_
  refine Goes.via (fun t k => XS.iloadN X0.here hx rfl (hb hby d1_0) rfl k) ?_
  show Goes p e below (s₁.setTop (mkF m 1 #[.val (.int p1), .val (.int p2), .unset] [(.int p2)])) _
  refine Goes.via (fun t k => XS.iconst X0.here hx rfl (hb hby d1_1) k) ?_
  show Goes p e below (s₁.setTop (mkF m 2 #[.val (.int p1), .val (.int p2), .unset] [(.int (3 : Int32)), (.int p2)])) _
  refine Goes.via (fun t k => XS.iand X0.here hx rfl (hb hby d1_2) rfl k) ?_
  show Goes p e below (s₁.setTop (mkF m 3 #[.val (.int p1), .val (.int p2), .unset] [(.int (p2 &&& (3 : Int32)))])) _
  refine Goes.via (fun t k => XS.istoreN X0.here hx rfl (hb hby d1_3) rfl (l' := #[.val (.int p1), .val (.int p2), .val (.int (p2 &&& (3 : Int32)))]) rfl k) ?_
  show Goes p e below (s₁.setTop (mkF m 4 #[.val (.int p1), .val (.int p2), .val (.int (p2 &&& (3 : Int32)))] [])) _
  refine Goes.via (fun t k => XS.iloadN X0.here hx rfl (hb hby d1_4) rfl k) ?_
  show Goes p e below (s₁.setTop (mkF m 5 #[.val (.int p1), .val (.int p2), .val (.int (p2 &&& (3 : Int32)))] [(.int (p2 &&& (3 : Int32)))])) _
  by_cases hc5_1 : (p2 &&& (3 : Int32)) = (0 : Int32)
  · refine Goes.via (fun t k => XS.ifNo X0.here hx rfl (hb hby d1_5) rfl ((if0 _ _).trans (teq hc5_1).2) k) ?_
    show Goes p e below (s₁.setTop (mkF m 8 #[.val (.int p1), .val (.int p2), .val (.int (p2 &&& (3 : Int32)))] [])) _
    refine Goes.via (fun t k => XS.iloadN X0.here hx rfl (hb hby d1_8) rfl k) ?_
    show Goes p e below (s₁.setTop (mkF m 9 #[.val (.int p1), .val (.int p2), .val (.int (p2 &&& (3 : Int32)))] [(.int p1)])) _
    refine Goes.via (fun t k => XS.i2c X0.here hx rfl (hb hby d1_9) rfl k) ?_
    show Goes p e below (s₁.setTop (mkF m 10 #[.val (.int p1), .val (.int p2), .val (.int (p2 &&& (3 : Int32)))] [(.int (p1.toUInt32.toUInt16.toUInt32.toInt32))])) _
    obtain ⟨fs, hr, hrun, hended, hW, hsame⟩ := X0.leave (v := some (.int (nar .char (p1.toUInt32.toUInt16.toUInt32.toInt32)))) (fun h => by rw [Bd.returns] at h; cases h)
    refine ⟨_, _, ?_, hrun, hended, _, _, rfl, ?_, ⟨_, rfl⟩, hW, hsame.mono (by decide) (by decide)⟩
    · exact retN X0 hx (t := .char) Bd.returns (by simp) (hb hby d1_10) hr
    · show Q1 Z p1 p2 h0 n0 _ s₁.heap _
      rw [e0]
      exact ⟨congrArg some (congrArg _ (by simp only [f1, if_pos hc5_1])), N0, rfl⟩
  · refine Goes.via (fun t k => XS.ifYes X0.here hx rfl (pc0 := 5) (pc' := 11) rfl (hb hby d1_5) rfl ((if0 _ _).trans (feq hc5_1).2) (by decide) (by decide) k) ?_
    show Goes p e below (s₁.setTop (mkF m 11 #[.val (.int p1), .val (.int p2), .val (.int (p2 &&& (3 : Int32)))] [])) _
    refine Goes.via (fun t k => XS.iloadN X0.here hx rfl (hb hby d1_11) rfl k) ?_
    show Goes p e below (s₁.setTop (mkF m 12 #[.val (.int p1), .val (.int p2), .val (.int (p2 &&& (3 : Int32)))] [(.int (p2 &&& (3 : Int32)))])) _
    refine Goes.via (fun t k => XS.iconst X0.here hx rfl (hb hby d1_12) k) ?_
    show Goes p e below (s₁.setTop (mkF m 13 #[.val (.int p1), .val (.int p2), .val (.int (p2 &&& (3 : Int32)))] [(.int (1 : Int32)), (.int (p2 &&& (3 : Int32)))])) _
    by_cases hc13_2 : (p2 &&& (3 : Int32)) = (1 : Int32)
    · refine Goes.via (fun t k => XS.icmpNo X0.here hx rfl (hb hby d1_13) rfl (teq hc13_2).2 k) ?_
      show Goes p e below (s₁.setTop (mkF m 16 #[.val (.int p1), .val (.int p2), .val (.int (p2 &&& (3 : Int32)))] [])) _
      refine Goes.via (fun t k => XS.iloadN X0.here hx rfl (hb hby d1_16) rfl k) ?_
      show Goes p e below (s₁.setTop (mkF m 17 #[.val (.int p1), .val (.int p2), .val (.int (p2 &&& (3 : Int32)))] [(.int p1)])) _
      refine Goes.via (fun t k => XS.bipush X0.here hx rfl (hb hby d1_17) k) ?_
      show Goes p e below (s₁.setTop (mkF m 19 #[.val (.int p1), .val (.int p2), .val (.int (p2 &&& (3 : Int32)))] [(.int (15 : Int32)), (.int p1)])) _
      refine Goes.via (fun t k => XS.iand X0.here hx rfl (hb hby d1_19) rfl k) ?_
      show Goes p e below (s₁.setTop (mkF m 20 #[.val (.int p1), .val (.int p2), .val (.int (p2 &&& (3 : Int32)))] [(.int (p1 &&& (15 : Int32)))])) _
      refine Goes.via (fun t k => XS.i2c X0.here hx rfl (hb hby d1_20) rfl k) ?_
      show Goes p e below (s₁.setTop (mkF m 21 #[.val (.int p1), .val (.int p2), .val (.int (p2 &&& (3 : Int32)))] [(.int ((p1 &&& (15 : Int32)).toUInt32.toUInt16.toUInt32.toInt32))])) _
      obtain ⟨fs, hr, hrun, hended, hW, hsame⟩ := X0.leave (v := some (.int (nar .char ((p1 &&& (15 : Int32)).toUInt32.toUInt16.toUInt32.toInt32)))) (fun h => by rw [Bd.returns] at h; cases h)
      refine ⟨_, _, ?_, hrun, hended, _, _, rfl, ?_, ⟨_, rfl⟩, hW, hsame.mono (by decide) (by decide)⟩
      · exact retN X0 hx (t := .char) Bd.returns (by simp) (hb hby d1_21) hr
      · show Q1 Z p1 p2 h0 n0 _ s₁.heap _
        rw [e0]
        exact ⟨congrArg some (congrArg _ (by simp only [f1, if_neg hc5_1, if_pos hc13_2])), N0, rfl⟩
    · refine Goes.via (fun t k => XS.icmpYes X0.here hx rfl (pc0 := 13) (pc' := 22) rfl (hb hby d1_13) rfl (feq hc13_2).2 (by decide) (by decide) k) ?_
      show Goes p e below (s₁.setTop (mkF m 22 #[.val (.int p1), .val (.int p2), .val (.int (p2 &&& (3 : Int32)))] [])) _
      refine Goes.via (fun t k => XS.iloadN X0.here hx rfl (hb hby d1_22) rfl k) ?_
      show Goes p e below (s₁.setTop (mkF m 23 #[.val (.int p1), .val (.int p2), .val (.int (p2 &&& (3 : Int32)))] [(.int (p2 &&& (3 : Int32)))])) _
      refine Goes.via (fun t k => XS.iconst X0.here hx rfl (hb hby d1_23) k) ?_
      show Goes p e below (s₁.setTop (mkF m 24 #[.val (.int p1), .val (.int p2), .val (.int (p2 &&& (3 : Int32)))] [(.int (2 : Int32)), (.int (p2 &&& (3 : Int32)))])) _
      by_cases hc24_3 : (p2 &&& (3 : Int32)) = (2 : Int32)
      · refine Goes.via (fun t k => XS.icmpNo X0.here hx rfl (hb hby d1_24) rfl (teq hc24_3).2 k) ?_
        show Goes p e below (s₁.setTop (mkF m 27 #[.val (.int p1), .val (.int p2), .val (.int (p2 &&& (3 : Int32)))] [])) _
        refine Goes.via (fun t k => XS.sipush X0.here hx rfl (hb hby d1_27) k) ?_
        show Goes p e below (s₁.setTop (mkF m 30 #[.val (.int p1), .val (.int p2), .val (.int (p2 &&& (3 : Int32)))] [(.int (8224 : Int32))])) _
        refine Goes.via (fun t k => XS.iloadN X0.here hx rfl (hb hby d1_30) rfl k) ?_
        show Goes p e below (s₁.setTop (mkF m 31 #[.val (.int p1), .val (.int p2), .val (.int (p2 &&& (3 : Int32)))] [(.int p1), (.int (8224 : Int32))])) _
        refine Goes.via (fun t k => XS.bipush X0.here hx rfl (hb hby d1_31) k) ?_
        show Goes p e below (s₁.setTop (mkF m 33 #[.val (.int p1), .val (.int p2), .val (.int (p2 &&& (3 : Int32)))] [(.int (15 : Int32)), (.int p1), (.int (8224 : Int32))])) _
        refine Goes.via (fun t k => XS.iand X0.here hx rfl (hb hby d1_33) rfl k) ?_
        show Goes p e below (s₁.setTop (mkF m 34 #[.val (.int p1), .val (.int p2), .val (.int (p2 &&& (3 : Int32)))] [(.int (p1 &&& (15 : Int32))), (.int (8224 : Int32))])) _
        refine Goes.via (fun t k => XS.iadd X0.here hx rfl (hb hby d1_34) rfl k) ?_
        show Goes p e below (s₁.setTop (mkF m 35 #[.val (.int p1), .val (.int p2), .val (.int (p2 &&& (3 : Int32)))] [(.int ((8224 : Int32) + (p1 &&& (15 : Int32))))])) _
        refine Goes.via (fun t k => XS.i2c X0.here hx rfl (hb hby d1_35) rfl k) ?_
        show Goes p e below (s₁.setTop (mkF m 36 #[.val (.int p1), .val (.int p2), .val (.int (p2 &&& (3 : Int32)))] [(.int (((8224 : Int32) + (p1 &&& (15 : Int32))).toUInt32.toUInt16.toUInt32.toInt32))])) _
        obtain ⟨fs, hr, hrun, hended, hW, hsame⟩ := X0.leave (v := some (.int (nar .char (((8224 : Int32) + (p1 &&& (15 : Int32))).toUInt32.toUInt16.toUInt32.toInt32)))) (fun h => by rw [Bd.returns] at h; cases h)
        refine ⟨_, _, ?_, hrun, hended, _, _, rfl, ?_, ⟨_, rfl⟩, hW, hsame.mono (by decide) (by decide)⟩
        · exact retN X0 hx (t := .char) Bd.returns (by simp) (hb hby d1_36) hr
        · show Q1 Z p1 p2 h0 n0 _ s₁.heap _
          rw [e0]
          exact ⟨congrArg some (congrArg _ (by simp only [f1, if_neg hc5_1, if_neg hc13_2, if_pos hc24_3])), N0, rfl⟩
      · refine Goes.via (fun t k => XS.icmpYes X0.here hx rfl (pc0 := 24) (pc' := 37) rfl (hb hby d1_24) rfl (feq hc24_3).2 (by decide) (by decide) k) ?_
        show Goes p e below (s₁.setTop (mkF m 37 #[.val (.int p1), .val (.int p2), .val (.int (p2 &&& (3 : Int32)))] [])) _
        refine Goes.via (fun t k => X0.ldcInt hx hown (mvT hZ (hw _ (List.mem_of_getElem? (i := 4) rfl))) (g := (mkF m 37 #[.val (.int p1), .val (.int p2), .val (.int (p2 &&& (3 : Int32)))] [])) rfl (hb hby d1_37) _ k) ?_
        show Goes p e below (s₁.setTop (mkF m 39 #[.val (.int p1), .val (.int p2), .val (.int (p2 &&& (3 : Int32)))] [(.int (65520 : Int32))])) _
        refine Goes.via (fun t k => XS.iloadN X0.here hx rfl (hb hby d1_39) rfl k) ?_
        show Goes p e below (s₁.setTop (mkF m 40 #[.val (.int p1), .val (.int p2), .val (.int (p2 &&& (3 : Int32)))] [(.int p1), (.int (65520 : Int32))])) _
        refine Goes.via (fun t k => XS.bipush X0.here hx rfl (hb hby d1_40) k) ?_
        show Goes p e below (s₁.setTop (mkF m 42 #[.val (.int p1), .val (.int p2), .val (.int (p2 &&& (3 : Int32)))] [(.int (15 : Int32)), (.int p1), (.int (65520 : Int32))])) _
        refine Goes.via (fun t k => XS.iand X0.here hx rfl (hb hby d1_42) rfl k) ?_
        show Goes p e below (s₁.setTop (mkF m 43 #[.val (.int p1), .val (.int p2), .val (.int (p2 &&& (3 : Int32)))] [(.int (p1 &&& (15 : Int32))), (.int (65520 : Int32))])) _
        refine Goes.via (fun t k => XS.iadd X0.here hx rfl (hb hby d1_43) rfl k) ?_
        show Goes p e below (s₁.setTop (mkF m 44 #[.val (.int p1), .val (.int p2), .val (.int (p2 &&& (3 : Int32)))] [(.int ((65520 : Int32) + (p1 &&& (15 : Int32))))])) _
        refine Goes.via (fun t k => XS.i2c X0.here hx rfl (hb hby d1_44) rfl k) ?_
        show Goes p e below (s₁.setTop (mkF m 45 #[.val (.int p1), .val (.int p2), .val (.int (p2 &&& (3 : Int32)))] [(.int (((65520 : Int32) + (p1 &&& (15 : Int32))).toUInt32.toUInt16.toUInt32.toInt32))])) _
        obtain ⟨fs, hr, hrun, hended, hW, hsame⟩ := X0.leave (v := some (.int (nar .char (((65520 : Int32) + (p1 &&& (15 : Int32))).toUInt32.toUInt16.toUInt32.toInt32)))) (fun h => by rw [Bd.returns] at h; cases h)
        refine ⟨_, _, ?_, hrun, hended, _, _, rfl, ?_, ⟨_, rfl⟩, hW, hsame.mono (by decide) (by decide)⟩
        · exact retN X0 hx (t := .char) Bd.returns (by simp) (hb hby d1_45) hr
        · show Q1 Z p1 p2 h0 n0 _ s₁.heap _
          rw [e0]
          exact ⟨congrArg some (congrArg _ (by simp only [f1, if_neg hc5_1, if_neg hc13_2, if_neg hc24_3])), N0, rfl⟩
theorem d2_0 : decode prog_12_method_10_code 0 = .ok (.iload_n 0, 1) := by decide +kernel
theorem d2_1 : decode prog_12_method_10_code 1 = .ok (.bipush 13, 2) := by decide +kernel
theorem d2_3 : decode prog_12_method_10_code 3 = .ok (.if_icmp .gt 23, 3) := by decide +kernel
theorem d2_6 : decode prog_12_method_10_code 6 = .ok (.iload_n 0, 1) := by decide +kernel
theorem d2_7 : decode prog_12_method_10_code 7 = .ok (.bipush 10, 2) := by decide +kernel
theorem d2_9 : decode prog_12_method_10_code 9 = .ok (.if_icmp .eq 9, 3) := by decide +kernel
theorem d2_12 : decode prog_12_method_10_code 12 = .ok (.iload_n 0, 1) := by decide +kernel
theorem d2_13 : decode prog_12_method_10_code 13 = .ok (.bipush 13, 2) := by decide +kernel
theorem d2_15 : decode prog_12_method_10_code 15 = .ok (.if_icmp .ne 7, 3) := by decide +kernel
theorem d2_18 : decode prog_12_method_10_code 18 = .ok (.iconst 1, 1) := by decide +kernel
theorem d2_19 : decode prog_12_method_10_code 19 = .ok (.goto 21, 3) := by decide +kernel
theorem d2_22 : decode prog_12_method_10_code 22 = .ok (.iconst 0, 1) := by decide +kernel
theorem d2_23 : decode prog_12_method_10_code 23 = .ok (.goto 17, 3) := by decide +kernel
theorem d2_26 : decode prog_12_method_10_code 26 = .ok (.iload_n 0, 1) := by decide +kernel
theorem d2_27 : decode prog_12_method_10_code 27 = .ok (.iconst 1, 1) := by decide +kernel
theorem d2_28 : decode prog_12_method_10_code 28 = .ok (.ior, 1) := by decide +kernel
theorem d2_29 : decode prog_12_method_10_code 29 = .ok (.sipush 8233, 3) := by decide +kernel
theorem d2_32 : decode prog_12_method_10_code 32 = .ok (.if_icmp .ne 7, 3) := by decide +kernel
theorem d2_35 : decode prog_12_method_10_code 35 = .ok (.iconst 1, 1) := by decide +kernel
theorem d2_36 : decode prog_12_method_10_code 36 = .ok (.goto 4, 3) := by decide +kernel
theorem d2_39 : decode prog_12_method_10_code 39 = .ok (.iconst 0, 1) := by decide +kernel
theorem d2_40 : decode prog_12_method_10_code 40 = .ok (.ireturn, 1) := by decide +kernel
theorem pn_2 : plainName "com/example/beforehand/beforehand/EcmaScriptRegex" = true := by first | (simp [plainName, overriddenIn]; done) | decide +kernel
theorem ef_2 (m : MethodId) (x0 : Int32) : entryFrame m #[(.int x0)] 1 = mkF m 0 #[.val (.int x0)] [] := by first | (simp [entryFrame, mkF, argsToLocals, Value.category]; done) | rfl
def v2_40_0 (p1 : Int32) : Int32 := (if (13 : Int32) < p1 then (if (p1 ||| (1 : Int32)) = (8233 : Int32) then (1 : Int32) else (0 : Int32)) else (if p1 = (10 : Int32) then (1 : Int32) else (if p1 = (13 : Int32) then (1 : Int32) else (0 : Int32))))
def f2 (p1 : Int32) : Int32 :=
  (nar .boolean (v2_40_0 p1))
def Q2 (Z : State) (p1 : Int32) (h0 : Heap) (n0 : Nat) (v : Option Value) (h : Heap) (L : List Loc) : Prop := v = some (.int (f2 p1)) ∧ Fr n0 L ∧ h = h0
set_option maxRecDepth 65536 in
set_option maxHeartbeats 40000000 in
theorem rm2 (l : Launch) (Z : State) (a0 : Array Value) (hw : ∀ d ∈ tables_1, d.before a0 Z = true) (ws : List Jvm.Cond) (p1 : Int32) (h0 : Heap) (n0 : Nat) (Z0 : n0 ≤ h0.size) :
    MetFree l (⟨"com/example/beforehand/beforehand/EcmaScriptRegex", "isLineTerminator", "(C)Z"⟩ : MethodName) (head1 (Jvm.Cond.code (⟨"com/example/beforehand/beforehand/EcmaScriptRegex", "isLineTerminator", "(C)Z"⟩ : MethodName) prog_12_method_10_code 1 (some .boolean) :: ws) ({ frames := 0, cells := 0, slots := 0, locals := 0 } : Room)) (fun a U => a = #[(.int p1)] ∧ Z.Warmed39 U.vm ∧ U.heap = h0) (fun _ _ _ _ _ => True) (fun _ U o U' => ∃ v L, o = .returned v ∧ Q2 Z p1 h0 n0 v U'.heap L ∧ FrameEnd U o U' L ({ frames := 0, cells := 0, slots := 0, locals := 0 } : Room).cells ({ frames := 0, cells := 0, slots := 0, locals := 0 } : Room).slots) := by
  refine MetFree.of_bodySF (plainFor_of_name pn_2) hisR ?_
  intro p e s m args below meth c s₁ Bd hml0 hP hK
  obtain ⟨rfl, hZ, hh⟩ := hP
  have hx := Bd.exec
  have hby := Bd.bytes
  have hml : c.maxLocals = 1 := hml0
  have hown : s.vm.findClass "com/example/beforehand/beforehand/EcmaScriptRegex" = some m.cls := findClass_of_methodNamed Bd.named
  have hnm := (name_of_methodNamed Bd.named Bd.method).1
  have X0 : Stand p l e ({ frames := 0, cells := 0, slots := 0, locals := 0 } : Room) s m #[(.int p1)] below meth c s₁ [] 0 0 := Stand.of_body Bd
  have e0 : s₁.heap = h0 := by rw [← hh, Bd.state]; rfl
  have N0 := Fr.nil n0
  refine Goes.via (next := s₁.setTop (mkF m 0 #[.val (.int p1)] [])) (fun t k => castTop (ef_2 m p1) k) ?_
  refine Goes.via (fun t k => XS.iloadN X0.here hx rfl (hb hby d2_0) rfl k) ?_
  show Goes p e below (s₁.setTop (mkF m 1 #[.val (.int p1)] [(.int p1)])) _
  refine Goes.via (fun t k => XS.bipush X0.here hx rfl (hb hby d2_1) k) ?_
  show Goes p e below (s₁.setTop (mkF m 3 #[.val (.int p1)] [(.int (13 : Int32)), (.int p1)])) _
  refine Goes.via (next := s₁.setTop (mkF m 40 #[.val (.int p1)] [(.int (v2_40_0 p1))])) (fun t k => ?_) ?_
  · by_cases hc3_1 : (13 : Int32) < p1
    · refine XS.icmpYes X0.here hx rfl (pc0 := 3) (pc' := 26) rfl (hb hby d2_3) rfl (tlt hc3_1).2.2.1 (by decide) (by decide) ?_
      show Steps p.tables e below (s₁.setTop (mkF m 26 #[.val (.int p1)] [])) _
      refine XS.iloadN X0.here hx rfl (hb hby d2_26) rfl ?_
      show Steps p.tables e below (s₁.setTop (mkF m 27 #[.val (.int p1)] [(.int p1)])) _
      refine XS.iconst X0.here hx rfl (hb hby d2_27) ?_
      show Steps p.tables e below (s₁.setTop (mkF m 28 #[.val (.int p1)] [(.int (1 : Int32)), (.int p1)])) _
      refine XS.ior X0.here hx rfl (hb hby d2_28) rfl ?_
      show Steps p.tables e below (s₁.setTop (mkF m 29 #[.val (.int p1)] [(.int (p1 ||| (1 : Int32)))])) _
      refine XS.sipush X0.here hx rfl (hb hby d2_29) ?_
      show Steps p.tables e below (s₁.setTop (mkF m 32 #[.val (.int p1)] [(.int (8233 : Int32)), (.int (p1 ||| (1 : Int32)))])) _
      by_cases hc32_2 : (p1 ||| (1 : Int32)) = (8233 : Int32)
      · refine XS.icmpNo X0.here hx rfl (hb hby d2_32) rfl (teq hc32_2).2 ?_
        show Steps p.tables e below (s₁.setTop (mkF m 35 #[.val (.int p1)] [])) _
        refine XS.iconst X0.here hx rfl (hb hby d2_35) ?_
        show Steps p.tables e below (s₁.setTop (mkF m 36 #[.val (.int p1)] [(.int (1 : Int32))])) _
        refine XS.goto X0.here hx rfl (pc0 := 36) (pc' := 40) rfl (hb hby d2_36) (by decide) (by decide) ?_
        show Steps p.tables e below (s₁.setTop (mkF m 40 #[.val (.int p1)] [(.int (1 : Int32))])) _
        simpa only [v2_40_0, if_pos hc3_1, if_pos hc32_2] using k
      · refine XS.icmpYes X0.here hx rfl (pc0 := 32) (pc' := 39) rfl (hb hby d2_32) rfl (feq hc32_2).2 (by decide) (by decide) ?_
        show Steps p.tables e below (s₁.setTop (mkF m 39 #[.val (.int p1)] [])) _
        refine XS.iconst X0.here hx rfl (hb hby d2_39) ?_
        show Steps p.tables e below (s₁.setTop (mkF m 40 #[.val (.int p1)] [(.int (0 : Int32))])) _
        simpa only [v2_40_0, if_pos hc3_1, if_neg hc32_2] using k
    · refine XS.icmpNo X0.here hx rfl (hb hby d2_3) rfl (flt hc3_1).2.2.1 ?_
      show Steps p.tables e below (s₁.setTop (mkF m 6 #[.val (.int p1)] [])) _
      refine XS.iloadN X0.here hx rfl (hb hby d2_6) rfl ?_
      show Steps p.tables e below (s₁.setTop (mkF m 7 #[.val (.int p1)] [(.int p1)])) _
      refine XS.bipush X0.here hx rfl (hb hby d2_7) ?_
      show Steps p.tables e below (s₁.setTop (mkF m 9 #[.val (.int p1)] [(.int (10 : Int32)), (.int p1)])) _
      by_cases hc9_3 : p1 = (10 : Int32)
      · refine XS.icmpYes X0.here hx rfl (pc0 := 9) (pc' := 18) rfl (hb hby d2_9) rfl (teq hc9_3).1 (by decide) (by decide) ?_
        show Steps p.tables e below (s₁.setTop (mkF m 18 #[.val (.int p1)] [])) _
        refine XS.iconst X0.here hx rfl (hb hby d2_18) ?_
        show Steps p.tables e below (s₁.setTop (mkF m 19 #[.val (.int p1)] [(.int (1 : Int32))])) _
        refine XS.goto X0.here hx rfl (pc0 := 19) (pc' := 40) rfl (hb hby d2_19) (by decide) (by decide) ?_
        show Steps p.tables e below (s₁.setTop (mkF m 40 #[.val (.int p1)] [(.int (1 : Int32))])) _
        simpa only [v2_40_0, if_neg hc3_1, if_pos hc9_3] using k
      · refine XS.icmpNo X0.here hx rfl (hb hby d2_9) rfl (feq hc9_3).1 ?_
        show Steps p.tables e below (s₁.setTop (mkF m 12 #[.val (.int p1)] [])) _
        refine XS.iloadN X0.here hx rfl (hb hby d2_12) rfl ?_
        show Steps p.tables e below (s₁.setTop (mkF m 13 #[.val (.int p1)] [(.int p1)])) _
        refine XS.bipush X0.here hx rfl (hb hby d2_13) ?_
        show Steps p.tables e below (s₁.setTop (mkF m 15 #[.val (.int p1)] [(.int (13 : Int32)), (.int p1)])) _
        by_cases hc15_4 : p1 = (13 : Int32)
        · refine XS.icmpNo X0.here hx rfl (hb hby d2_15) rfl (teq hc15_4).2 ?_
          show Steps p.tables e below (s₁.setTop (mkF m 18 #[.val (.int p1)] [])) _
          refine XS.iconst X0.here hx rfl (hb hby d2_18) ?_
          show Steps p.tables e below (s₁.setTop (mkF m 19 #[.val (.int p1)] [(.int (1 : Int32))])) _
          refine XS.goto X0.here hx rfl (pc0 := 19) (pc' := 40) rfl (hb hby d2_19) (by decide) (by decide) ?_
          show Steps p.tables e below (s₁.setTop (mkF m 40 #[.val (.int p1)] [(.int (1 : Int32))])) _
          simpa only [v2_40_0, if_neg hc3_1, if_neg hc9_3, if_pos hc15_4] using k
        · refine XS.icmpYes X0.here hx rfl (pc0 := 15) (pc' := 22) rfl (hb hby d2_15) rfl (feq hc15_4).2 (by decide) (by decide) ?_
          show Steps p.tables e below (s₁.setTop (mkF m 22 #[.val (.int p1)] [])) _
          refine XS.iconst X0.here hx rfl (hb hby d2_22) ?_
          show Steps p.tables e below (s₁.setTop (mkF m 23 #[.val (.int p1)] [(.int (0 : Int32))])) _
          refine XS.goto X0.here hx rfl (pc0 := 23) (pc' := 40) rfl (hb hby d2_23) (by decide) (by decide) ?_
          show Steps p.tables e below (s₁.setTop (mkF m 40 #[.val (.int p1)] [(.int (0 : Int32))])) _
          simpa only [v2_40_0, if_neg hc3_1, if_neg hc9_3, if_neg hc15_4] using k
  show Goes p e below (s₁.setTop (mkF m 40 #[.val (.int p1)] [(.int (v2_40_0 p1))])) _
  obtain ⟨fs, hr, hrun, hended, hW, hsame⟩ := X0.leave (v := some (.int (nar .boolean (v2_40_0 p1)))) (fun h => by rw [Bd.returns] at h; cases h)
  refine ⟨_, _, ?_, hrun, hended, _, _, rfl, ?_, ⟨_, rfl⟩, hW, hsame.mono (by decide) (by decide)⟩
  · exact retN X0 hx (t := .boolean) Bd.returns (by simp) (hb hby d2_40) hr
  · show Q2 Z p1 h0 n0 _ s₁.heap _
    rw [e0]
    exact ⟨congrArg some (congrArg _ rfl), N0, rfl⟩
theorem pn_0 : plainName "com/example/beforehand/beforehand/EcmaScriptRegexIsLineTerminatorPinLaw" = true := by first | (simp [plainName, overriddenIn]; done) | decide +kernel
theorem pd_0_0 : parseMethodDescriptor "(II)C" = some ⟨[.int, .int], some .char⟩ := by decide +kernel
theorem pd_0_1 : parseMethodDescriptor "(C)Z" = some ⟨[.char], some .boolean⟩ := by decide +kernel
theorem ef_0 (m : MethodId) (x0 : Int32) (x1 : Int32) : entryFrame m #[(.int x0), (.int x1)] maxLocals = mkF m 0 #[.val (.int x0), .val (.int x1), .unset, .unset] [] := by first | (simp [entryFrame, mkF, argsToLocals, Value.category, maxLocals]; done) | rfl
def v0_37_0 (p1 : Int32) (p2 : Int32) : Int32 := (if (f1 p1 p2) = (10 : Int32) then (1 : Int32) else (if (f1 p1 p2) = (13 : Int32) then (1 : Int32) else (if (f1 p1 p2) = (8232 : Int32) then (1 : Int32) else (if (f1 p1 p2) = (8233 : Int32) then (1 : Int32) else (0 : Int32)))))
def v0_51_1 (p1 : Int32) (p2 : Int32) : Int32 := (if (f2 (f1 p1 p2)) = (v0_37_0 p1 p2) then (1 : Int32) else (0 : Int32))
def f0 (p1 : Int32) (p2 : Int32) : Int32 :=
  (nar .boolean (v0_51_1 p1 p2))
def Q0 (Z : State) (p1 : Int32) (p2 : Int32) (h0 : Heap) (n0 : Nat) (v : Option Value) (h : Heap) (L : List Loc) : Prop := v = some (.int (f0 p1 p2)) ∧ Fr n0 L ∧ h = h0
set_option maxRecDepth 65536 in
set_option maxHeartbeats 40000000 in
theorem rm0 (l : Launch) (Z : State) (a0 : Array Value) (hw : ∀ d ∈ tables_1, d.before a0 Z = true) (ws : List Jvm.Cond) (p1 : Int32) (p2 : Int32) (h0 : Heap) (n0 : Nat) (Z0 : n0 ≤ h0.size) :
    MetFree l x (head1 (Jvm.Cond.code x code maxLocals ret :: ws) room_1) (fun a U => a = #[(.int p1), (.int p2)] ∧ Z.Warmed39 U.vm ∧ U.heap = h0) (fun _ _ _ _ _ => True) (fun _ U o U' => ∃ v L, o = .returned v ∧ Q0 Z p1 p2 h0 n0 v U'.heap L ∧ FrameEnd U o U' L room_1.cells room_1.slots) := by
  refine MetFree.of_bodySF (plainFor_of_name pn_0) hisR ?_
  intro p e s m args below meth c s₁ Bd hml0 hP hK
  obtain ⟨rfl, hZ, hh⟩ := hP
  have hx := Bd.exec
  have hby := Bd.bytes
  have hml : c.maxLocals = 4 := hml0
  have hown : s.vm.findClass "com/example/beforehand/beforehand/EcmaScriptRegexIsLineTerminatorPinLaw" = some m.cls := findClass_of_methodNamed Bd.named
  have hnm := (name_of_methodNamed Bd.named Bd.method).1
  have X0 : Stand p l e room_1 s m #[(.int p1), (.int p2)] below meth c s₁ [] 0 0 := Stand.of_body Bd
  have e0 : s₁.heap = h0 := by rw [← hh, Bd.state]; rfl
  have N0 := Fr.nil n0
  refine Goes.via (next := s₁.setTop (mkF m 0 #[.val (.int p1), .val (.int p2), .unset, .unset] [])) (fun t k => castTop (ef_0 m p1 p2) k) ?_
  refine Goes.via (fun t k => XS.iloadN X0.here hx rfl (hb hby at_0) rfl k) ?_
  show Goes p e below (s₁.setTop (mkF m 1 #[.val (.int p1), .val (.int p2), .unset, .unset] [(.int p1)])) _
  refine Goes.via (fun t k => XS.iloadN X0.here hx rfl (hb hby at_1) rfl k) ?_
  show Goes p e below (s₁.setTop (mkF m 2 #[.val (.int p1), .val (.int p2), .unset, .unset] [(.int p2), (.int p1)])) _
  obtain ⟨_, _, ⟨T1, L1, k1, n1⟩, -, X1, ⟨Lc1, hQ1, l1, y1, z1⟩, st1⟩ := Jvm.LawKit.callS X0 hx (y := (⟨"com/example/beforehand/beforehand/EcmaScriptRegexIsLineTerminatorPinLaw", "draw", "(II)C"⟩ : MethodName)) hown (mvT hZ (hw _ (List.mem_of_getElem? (i := 0) rfl))) (mvT hZ (hw _ (List.mem_of_getElem? (i := 1) rfl))) (mvT hZ (hw _ (List.mem_of_getElem? (i := 2) rfl))) (mvT hZ (hw _ (List.mem_of_getElem? (i := 3) rfl))) (by decide) (backOf (W := 0) (rm1 l Z a0 hw [] p1 p2 h0 n0 Z0 ) hZ (hw _ (List.mem_of_getElem? (i := 3) rfl)) (hw _ (List.mem_of_getElem? (i := 2) rfl)) (by decide) (by decide)) (g := (mkF m 2 #[.val (.int p1), .val (.int p2), .unset, .unset] [(.int p2), (.int p1)])) rfl (by rw [hml]; rfl) (argsL := [(.int p1), (.int p2)]) (rest := []) (lenOf pd_0_0 rfl) rfl (by show 2 * 0 + _ ≤ _; exact Nat.le_of_eq rfl) (hb hby at_2) (fun _ _ => ⟨rfl, e0, (by decide : 0 + 0 ≤ _), (by decide : 0 + 0 ≤ _)⟩)
  dsimp only [Pt.U, Pt.locs, Pt.cells, Pt.slots] at X1 l1 y1 z1 st1 hQ1
  subst l1 y1 z1
  obtain ⟨rfl, N1q, er1⟩ := hQ1
  have e1 : T1.heap = h0 := er1
  have N1 := Fr.app N0 N1q
  refine Goes.via st1 ?_
  show Goes p e below (T1.setTop (mkF m 5 #[.val (.int p1), .val (.int p2), .unset, .unset] [(.int (f1 p1 p2))])) _
  refine Goes.via (fun t k => XS.istoreN X1.here hx rfl (hb hby at_5) rfl (l' := #[.val (.int p1), .val (.int p2), .val (.int (f1 p1 p2)), .unset]) rfl k) ?_
  show Goes p e below (T1.setTop (mkF m 6 #[.val (.int p1), .val (.int p2), .val (.int (f1 p1 p2)), .unset] [])) _
  refine Goes.via (fun t k => XS.iloadN X1.here hx rfl (hb hby at_6) rfl k) ?_
  show Goes p e below (T1.setTop (mkF m 7 #[.val (.int p1), .val (.int p2), .val (.int (f1 p1 p2)), .unset] [(.int (f1 p1 p2))])) _
  refine Goes.via (fun t k => XS.bipush X1.here hx rfl (hb hby at_7) k) ?_
  show Goes p e below (T1.setTop (mkF m 9 #[.val (.int p1), .val (.int p2), .val (.int (f1 p1 p2)), .unset] [(.int (10 : Int32)), (.int (f1 p1 p2))])) _
  refine Goes.via (next := T1.setTop (mkF m 37 #[.val (.int p1), .val (.int p2), .val (.int (f1 p1 p2)), .unset] [(.int (v0_37_0 p1 p2))])) (fun t k => ?_) ?_
  · by_cases hc9_2 : (f1 p1 p2) = (10 : Int32)
    · refine XS.icmpYes X1.here hx rfl (pc0 := 9) (pc' := 32) rfl (hb hby at_9) rfl (teq hc9_2).1 (by decide) (by decide) ?_
      show Steps p.tables e below (T1.setTop (mkF m 32 #[.val (.int p1), .val (.int p2), .val (.int (f1 p1 p2)), .unset] [])) _
      refine XS.iconst X1.here hx rfl (hb hby at_32) ?_
      show Steps p.tables e below (T1.setTop (mkF m 33 #[.val (.int p1), .val (.int p2), .val (.int (f1 p1 p2)), .unset] [(.int (1 : Int32))])) _
      refine XS.goto X1.here hx rfl (pc0 := 33) (pc' := 37) rfl (hb hby at_33) (by decide) (by decide) ?_
      show Steps p.tables e below (T1.setTop (mkF m 37 #[.val (.int p1), .val (.int p2), .val (.int (f1 p1 p2)), .unset] [(.int (1 : Int32))])) _
      simpa only [v0_37_0, if_pos hc9_2] using k
    · refine XS.icmpNo X1.here hx rfl (hb hby at_9) rfl (feq hc9_2).1 ?_
      show Steps p.tables e below (T1.setTop (mkF m 12 #[.val (.int p1), .val (.int p2), .val (.int (f1 p1 p2)), .unset] [])) _
      refine XS.iloadN X1.here hx rfl (hb hby at_12) rfl ?_
      show Steps p.tables e below (T1.setTop (mkF m 13 #[.val (.int p1), .val (.int p2), .val (.int (f1 p1 p2)), .unset] [(.int (f1 p1 p2))])) _
      refine XS.bipush X1.here hx rfl (hb hby at_13) ?_
      show Steps p.tables e below (T1.setTop (mkF m 15 #[.val (.int p1), .val (.int p2), .val (.int (f1 p1 p2)), .unset] [(.int (13 : Int32)), (.int (f1 p1 p2))])) _
      by_cases hc15_3 : (f1 p1 p2) = (13 : Int32)
      · refine XS.icmpYes X1.here hx rfl (pc0 := 15) (pc' := 32) rfl (hb hby at_15) rfl (teq hc15_3).1 (by decide) (by decide) ?_
        show Steps p.tables e below (T1.setTop (mkF m 32 #[.val (.int p1), .val (.int p2), .val (.int (f1 p1 p2)), .unset] [])) _
        refine XS.iconst X1.here hx rfl (hb hby at_32) ?_
        show Steps p.tables e below (T1.setTop (mkF m 33 #[.val (.int p1), .val (.int p2), .val (.int (f1 p1 p2)), .unset] [(.int (1 : Int32))])) _
        refine XS.goto X1.here hx rfl (pc0 := 33) (pc' := 37) rfl (hb hby at_33) (by decide) (by decide) ?_
        show Steps p.tables e below (T1.setTop (mkF m 37 #[.val (.int p1), .val (.int p2), .val (.int (f1 p1 p2)), .unset] [(.int (1 : Int32))])) _
        simpa only [v0_37_0, if_neg hc9_2, if_pos hc15_3] using k
      · refine XS.icmpNo X1.here hx rfl (hb hby at_15) rfl (feq hc15_3).1 ?_
        show Steps p.tables e below (T1.setTop (mkF m 18 #[.val (.int p1), .val (.int p2), .val (.int (f1 p1 p2)), .unset] [])) _
        refine XS.iloadN X1.here hx rfl (hb hby at_18) rfl ?_
        show Steps p.tables e below (T1.setTop (mkF m 19 #[.val (.int p1), .val (.int p2), .val (.int (f1 p1 p2)), .unset] [(.int (f1 p1 p2))])) _
        refine XS.sipush X1.here hx rfl (hb hby at_19) ?_
        show Steps p.tables e below (T1.setTop (mkF m 22 #[.val (.int p1), .val (.int p2), .val (.int (f1 p1 p2)), .unset] [(.int (8232 : Int32)), (.int (f1 p1 p2))])) _
        by_cases hc22_4 : (f1 p1 p2) = (8232 : Int32)
        · refine XS.icmpYes X1.here hx rfl (pc0 := 22) (pc' := 32) rfl (hb hby at_22) rfl (teq hc22_4).1 (by decide) (by decide) ?_
          show Steps p.tables e below (T1.setTop (mkF m 32 #[.val (.int p1), .val (.int p2), .val (.int (f1 p1 p2)), .unset] [])) _
          refine XS.iconst X1.here hx rfl (hb hby at_32) ?_
          show Steps p.tables e below (T1.setTop (mkF m 33 #[.val (.int p1), .val (.int p2), .val (.int (f1 p1 p2)), .unset] [(.int (1 : Int32))])) _
          refine XS.goto X1.here hx rfl (pc0 := 33) (pc' := 37) rfl (hb hby at_33) (by decide) (by decide) ?_
          show Steps p.tables e below (T1.setTop (mkF m 37 #[.val (.int p1), .val (.int p2), .val (.int (f1 p1 p2)), .unset] [(.int (1 : Int32))])) _
          simpa only [v0_37_0, if_neg hc9_2, if_neg hc15_3, if_pos hc22_4] using k
        · refine XS.icmpNo X1.here hx rfl (hb hby at_22) rfl (feq hc22_4).1 ?_
          show Steps p.tables e below (T1.setTop (mkF m 25 #[.val (.int p1), .val (.int p2), .val (.int (f1 p1 p2)), .unset] [])) _
          refine XS.iloadN X1.here hx rfl (hb hby at_25) rfl ?_
          show Steps p.tables e below (T1.setTop (mkF m 26 #[.val (.int p1), .val (.int p2), .val (.int (f1 p1 p2)), .unset] [(.int (f1 p1 p2))])) _
          refine XS.sipush X1.here hx rfl (hb hby at_26) ?_
          show Steps p.tables e below (T1.setTop (mkF m 29 #[.val (.int p1), .val (.int p2), .val (.int (f1 p1 p2)), .unset] [(.int (8233 : Int32)), (.int (f1 p1 p2))])) _
          by_cases hc29_5 : (f1 p1 p2) = (8233 : Int32)
          · refine XS.icmpNo X1.here hx rfl (hb hby at_29) rfl (teq hc29_5).2 ?_
            show Steps p.tables e below (T1.setTop (mkF m 32 #[.val (.int p1), .val (.int p2), .val (.int (f1 p1 p2)), .unset] [])) _
            refine XS.iconst X1.here hx rfl (hb hby at_32) ?_
            show Steps p.tables e below (T1.setTop (mkF m 33 #[.val (.int p1), .val (.int p2), .val (.int (f1 p1 p2)), .unset] [(.int (1 : Int32))])) _
            refine XS.goto X1.here hx rfl (pc0 := 33) (pc' := 37) rfl (hb hby at_33) (by decide) (by decide) ?_
            show Steps p.tables e below (T1.setTop (mkF m 37 #[.val (.int p1), .val (.int p2), .val (.int (f1 p1 p2)), .unset] [(.int (1 : Int32))])) _
            simpa only [v0_37_0, if_neg hc9_2, if_neg hc15_3, if_neg hc22_4, if_pos hc29_5] using k
          · refine XS.icmpYes X1.here hx rfl (pc0 := 29) (pc' := 36) rfl (hb hby at_29) rfl (feq hc29_5).2 (by decide) (by decide) ?_
            show Steps p.tables e below (T1.setTop (mkF m 36 #[.val (.int p1), .val (.int p2), .val (.int (f1 p1 p2)), .unset] [])) _
            refine XS.iconst X1.here hx rfl (hb hby at_36) ?_
            show Steps p.tables e below (T1.setTop (mkF m 37 #[.val (.int p1), .val (.int p2), .val (.int (f1 p1 p2)), .unset] [(.int (0 : Int32))])) _
            simpa only [v0_37_0, if_neg hc9_2, if_neg hc15_3, if_neg hc22_4, if_neg hc29_5] using k
  show Goes p e below (T1.setTop (mkF m 37 #[.val (.int p1), .val (.int p2), .val (.int (f1 p1 p2)), .unset] [(.int (v0_37_0 p1 p2))])) _
  refine Goes.via (fun t k => XS.istoreN X1.here hx rfl (hb hby at_37) rfl (l' := #[.val (.int p1), .val (.int p2), .val (.int (f1 p1 p2)), .val (.int (v0_37_0 p1 p2))]) rfl k) ?_
  show Goes p e below (T1.setTop (mkF m 38 #[.val (.int p1), .val (.int p2), .val (.int (f1 p1 p2)), .val (.int (v0_37_0 p1 p2))] [])) _
  refine Goes.via (fun t k => XS.iloadN X1.here hx rfl (hb hby at_38) rfl k) ?_
  show Goes p e below (T1.setTop (mkF m 39 #[.val (.int p1), .val (.int p2), .val (.int (f1 p1 p2)), .val (.int (v0_37_0 p1 p2))] [(.int (f1 p1 p2))])) _
  obtain ⟨_, _, ⟨T6, L6, k6, n6⟩, -, X6, ⟨Lc6, hQ6, l6, y6, z6⟩, st6⟩ := Jvm.LawKit.callS X1 hx (y := (⟨"com/example/beforehand/beforehand/EcmaScriptRegex", "isLineTerminator", "(C)Z"⟩ : MethodName)) hown (mvT hZ (hw _ (List.mem_of_getElem? (i := 5) rfl))) (mvT hZ (hw _ (List.mem_of_getElem? (i := 6) rfl))) (mvT hZ (hw _ (List.mem_of_getElem? (i := 7) rfl))) (mvT hZ (hw _ (List.mem_of_getElem? (i := 8) rfl))) (by decide) (backOf (W := 0) (rm2 l Z a0 hw [] (f1 p1 p2) h0 n0 Z0 ) hZ (hw _ (List.mem_of_getElem? (i := 8) rfl)) (hw _ (List.mem_of_getElem? (i := 7) rfl)) (by decide) (by decide)) (g := (mkF m 39 #[.val (.int p1), .val (.int p2), .val (.int (f1 p1 p2)), .val (.int (v0_37_0 p1 p2))] [(.int (f1 p1 p2))])) rfl (by rw [hml]; rfl) (argsL := [(.int (f1 p1 p2))]) (rest := []) (lenOf pd_0_1 rfl) rfl (by show 2 * 0 + _ ≤ _; exact Nat.le_of_eq rfl) (hb hby at_39) (fun _ _ => ⟨rfl, e1, (by decide : 0 + 0 ≤ _), (by decide : 0 + 0 ≤ _)⟩)
  dsimp only [Pt.U, Pt.locs, Pt.cells, Pt.slots] at X6 l6 y6 z6 st6 hQ6
  subst l6 y6 z6
  obtain ⟨rfl, N6q, er6⟩ := hQ6
  have e6 : T6.heap = h0 := er6
  have N6 := Fr.app N1 N6q
  refine Goes.via st6 ?_
  show Goes p e below (T6.setTop (mkF m 42 #[.val (.int p1), .val (.int p2), .val (.int (f1 p1 p2)), .val (.int (v0_37_0 p1 p2))] [(.int (f2 (f1 p1 p2)))])) _
  refine Goes.via (fun t k => XS.iloadN X6.here hx rfl (hb hby at_42) rfl k) ?_
  show Goes p e below (T6.setTop (mkF m 43 #[.val (.int p1), .val (.int p2), .val (.int (f1 p1 p2)), .val (.int (v0_37_0 p1 p2))] [(.int (v0_37_0 p1 p2)), (.int (f2 (f1 p1 p2)))])) _
  refine Goes.via (next := T6.setTop (mkF m 51 #[.val (.int p1), .val (.int p2), .val (.int (f1 p1 p2)), .val (.int (v0_37_0 p1 p2))] [(.int (v0_51_1 p1 p2))])) (fun t k => ?_) ?_
  · by_cases hc43_7 : (f2 (f1 p1 p2)) = (v0_37_0 p1 p2)
    · refine XS.icmpNo X6.here hx rfl (hb hby at_43) rfl (teq hc43_7).2 ?_
      show Steps p.tables e below (T6.setTop (mkF m 46 #[.val (.int p1), .val (.int p2), .val (.int (f1 p1 p2)), .val (.int (v0_37_0 p1 p2))] [])) _
      refine XS.iconst X6.here hx rfl (hb hby at_46) ?_
      show Steps p.tables e below (T6.setTop (mkF m 47 #[.val (.int p1), .val (.int p2), .val (.int (f1 p1 p2)), .val (.int (v0_37_0 p1 p2))] [(.int (1 : Int32))])) _
      refine XS.goto X6.here hx rfl (pc0 := 47) (pc' := 51) rfl (hb hby at_47) (by decide) (by decide) ?_
      show Steps p.tables e below (T6.setTop (mkF m 51 #[.val (.int p1), .val (.int p2), .val (.int (f1 p1 p2)), .val (.int (v0_37_0 p1 p2))] [(.int (1 : Int32))])) _
      simpa only [v0_51_1, if_pos hc43_7] using k
    · refine XS.icmpYes X6.here hx rfl (pc0 := 43) (pc' := 50) rfl (hb hby at_43) rfl (feq hc43_7).2 (by decide) (by decide) ?_
      show Steps p.tables e below (T6.setTop (mkF m 50 #[.val (.int p1), .val (.int p2), .val (.int (f1 p1 p2)), .val (.int (v0_37_0 p1 p2))] [])) _
      refine XS.iconst X6.here hx rfl (hb hby at_50) ?_
      show Steps p.tables e below (T6.setTop (mkF m 51 #[.val (.int p1), .val (.int p2), .val (.int (f1 p1 p2)), .val (.int (v0_37_0 p1 p2))] [(.int (0 : Int32))])) _
      simpa only [v0_51_1, if_neg hc43_7] using k
  show Goes p e below (T6.setTop (mkF m 51 #[.val (.int p1), .val (.int p2), .val (.int (f1 p1 p2)), .val (.int (v0_37_0 p1 p2))] [(.int (v0_51_1 p1 p2))])) _
  obtain ⟨fs, hr, hrun, hended, hW, hsame⟩ := X6.leave (v := some (.int (nar .boolean (v0_51_1 p1 p2)))) (fun h => by rw [Bd.returns] at h; cases h)
  refine ⟨_, _, ?_, hrun, hended, _, _, rfl, ?_, ⟨_, rfl⟩, hW, hsame.mono (by decide) (by decide)⟩
  · exact retN X6 hx (t := .boolean) Bd.returns (by simp) (hb hby at_51) hr
  · show Q0 Z p1 p2 h0 n0 _ T6.heap _
    rw [e6]
    exact ⟨congrArg some (congrArg _ rfl), N6, rfl⟩
theorem own_lit : (8232 : Int32).toInt = 8232 ∧ (8233 : Int32).toInt = 8233 ∧ (1 : Int32).toInt = 1 ∧ (13 : Int32).toInt = 13 := by decide
theorem own_nat (n : Nat) : n ||| 1 = n / 2 * 2 + 1 := by
  apply Nat.eq_of_testBit_eq
  intro i
  rw [Nat.testBit_or]
  cases i with
  | zero => simp [Nat.testBit_zero]
  | succ i =>
    rw [Nat.testBit_succ, Nat.testBit_succ, Nat.testBit_succ]
    have h1 : (n / 2 * 2 + 1) / 2 = n / 2 := by omega
    rw [h1]
    simp
theorem own_or (c : Int32) (h0 : 0 ≤ c.toInt) : (c ||| 1).toInt = c.toInt / 2 * 2 + 1 := by
  have hr := rng32 c
  have h1 : (c ||| 1).toBitVec.toNat = c.toBitVec.toNat ||| 1 := by
    rw [Int32.toBitVec_or, BitVec.toNat_or]; rfl
  have h2 : c.toInt = (c.toBitVec.toNat : Int) := by
    have q : c.toInt = c.toBitVec.toInt := rfl
    rw [BitVec.toInt_eq_toNat_cond] at q
    have := c.toBitVec.isLt
    split at q <;> omega
  have h3 : (c ||| 1).toInt = (c ||| 1).toBitVec.toInt := rfl
  rw [BitVec.toInt_eq_toNat_cond, h1, own_nat] at h3
  rw [h3, if_pos (by omega)]
  omega
theorem own_same (c : Int32) (h0 : 0 ≤ c.toInt) : f2 c = (if c = (10 : Int32) then (1 : Int32) else (if c = (13 : Int32) then (1 : Int32) else (if c = (8232 : Int32) then (1 : Int32) else (if c = (8233 : Int32) then (1 : Int32) else (0 : Int32))))) := by
  obtain ⟨e1, e2, e3, e4⟩ := own_lit
  have ho := own_or c h0
  by_cases h1 : (13 : Int32) < c
  · have n : ∀ z : Int32, ¬ (13 : Int32) < z → ¬ c = z := fun z a q => a (q ▸ h1)
    rw [if_neg (n 10 (by decide)), if_neg (n 13 (by decide))]
    simp only [f2, v2_40_0, if_pos h1]
    by_cases h2 : c = 8232
    · subst h2; decide
    · rw [if_neg h2]
      by_cases h3 : c = 8233
      · subst h3; decide
      · rw [if_neg h3, if_neg]
        · decide
        · intro q
          rw [q, e2] at ho
          have h2' : ¬ c.toInt = 8232 := fun q => h2 (Int32.toInt_inj.mp (q.trans e1.symm))
          have h3' : ¬ c.toInt = 8233 := fun q => h3 (Int32.toInt_inj.mp (q.trans e2.symm))
          omega
  · have n : ∀ z : Int32, (13 : Int32) < z → ¬ c = z := fun z a q => h1 (q ▸ a)
    rw [if_neg (n 8232 (by decide)), if_neg (n 8233 (by decide))]
    simp only [f2, v2_40_0, if_neg h1]
    by_cases h2 : c = 10
    · subst h2; decide
    · rw [if_neg h2]
      by_cases h3 : c = 13
      · subst h3; decide
      · rw [if_neg h3]; decide
theorem own_char (x : Int32) : 0 ≤ (nar .char x).toInt := (c_i2c x).2.1
theorem own_draw (x y : Int32) : 0 ≤ (f1 x y).toInt := by
  simp only [f1]
  split
  · exact own_char _
  · split
    · exact own_char _
    · split
      · exact own_char _
      · exact own_char _
theorem one_1 (i0 i1 : Int32) : f0 i0 i1 = 1 := by
  have h : f2 (f1 i0 i1) = v0_37_0 i0 i1 := own_same (f1 i0 i1) (own_draw i0 i1)
  simp only [f0, v0_51_1, if_pos h]
  decide
set_option maxRecDepth 65536 in
set_option maxHeartbeats 40000000 in
theorem comes_1 {Post : Tables → Env → Array Value → State → Outcome → State → Prop} (hpost : ∀ tb e args s v u, (limb_1_1.after args s (.returned v) u = true ∧ limb_1_2.after args s (.returned v) u = true ∧ True) → FrameEnd s (.returned v) u (Jvm.fieldLocs frame_1_writes args s ++ Jvm.arrayLocs frame_1_arrays args s ++ Jvm.staticLocs frame_1_statics s) 0 0 → Post tb e args s (.returned v) u) :
    ArmFor flags0 classFile x code maxLocals ret World_1 tables_1 room_1 Calls_1 rest_1 Pre_1 Post := by
  intro l hfl _ _ p e ha hc hk s m args below hf hA hF happ hP
  obtain ⟨hcalls, hrest, hpre⟩ := hP
  obtain ⟨-, -, -, hnamed, -, -, -, hat⟩ := (Spec.applies_iff hf).mp happ
  obtain ⟨hg, hn⟩ := and_e (Cond.before_iff.mp (show (Jvm.Cond.and given_1 narrow_1).before args s = true from hpre))
  obtain ⟨g0, r0⟩ := and_e hg
  obtain ⟨w0, w1, rfl⟩ : ∃ w0 w1 : Value, args = #[w0, w1] := by
    have hs : args.size = 2 := by simpa [Cond.value, given_1] using g0
    obtain ⟨L⟩ := args
    match L, hs with
    | [w0, w1], _ => exact ⟨w0, w1, rfl⟩
  have hw := fun d (hd : d ∈ tables_1) => atoms_spec (ws := Jvm.Cond.code x code maxLocals ret :: tables_1) hat d (List.mem_cons_of_mem _ hd)
  obtain ⟨g1, r1⟩ := and_e r0
  have g2 := r1
  obtain ⟨i0, ei0⟩ := is_v g1
  obtain rfl : w0 = (.int i0) := Option.some.inj ei0
  obtain ⟨i1, ei1⟩ := is_v g2
  obtain rfl : w1 = (.int i1) := Option.some.inj ei1
  obtain ⟨n, o, h1, h2, h3, v, L, rfl, hQ, hq⟩ := rm0 l s _ hw tables_1 i0 i1  s.heap s.heap.size (Nat.le_refl _)  p e ha hc hk s m _ below hf ((Spec.applies_iff_loose hf).mp happ).1 ⟨rfl, State.Warmed39.refl s, rfl⟩ trivial
  obtain ⟨hv, N⟩ : v = some (.int 1) ∧ Fr s.heap.size L := ⟨by rw [hQ.1, one_1 i0 i1], hQ.2.1⟩
  subst hv
  refine ⟨n, _, h1, h2, h3, hpost _ _ _ _ _ _ ⟨Cond.after_iff.mpr rfl, Cond.after_iff.mpr (eq_i res_at (Term.int_eval (1)) rfl), trivial⟩ ⟨hq.1, hq.2.1, (hq.2.2.sift fun y hy => Or.inr (N y hy)).mono (by decide) (by decide)⟩⟩
theorem main_1_1 : Claimed_1_1 := comes_1 fun _ _ _ _ _ _ h hF => ⟨h.1, hF⟩
theorem main_1_2 : Claimed_1_2 := comes_1 fun _ _ _ _ _ _ h hF => ⟨h.2.1, hF⟩
end Jvm.Pilot.@@N@@
namespace Jvm.Pilot.@@N@@
open Jvm Jvm.ClassFile Sem Op Lib Jvm.Free Jvm.Stand Jvm.Pilot.@@N@@.Jvm.D
/-! MADE BY PROGRAM (witnessworld.py) out of the Statement's table words and the real class files: 9 classes; the members and pool entries that the words name. The judged class is class 1, her method 2. -/
namespace start1
open Jvm.ClassFile
def u (s : String) : CpInfo := .utf8 (stringToUtf16 s)
/-- a pool by its gaps: so many unusable entries, then the entry; so many at the end -/
def gap : Nat → List CpInfo → List CpInfo
  | 0, r => r
  | n + 1, r => .unusable :: gap n r
def poolList (es : List (Nat × CpInfo)) (last : Nat) : List CpInfo := es.foldr (fun e r => gap e.1 (e.2 :: r)) (gap last [])
def pool (es : List (Nat × CpInfo)) (last : Nat) : Array CpInfo := ⟨poolList es last⟩
def fileOf (pool : Array CpInfo) (this : Nat) (attrs : Array Attribute := #[]) (ms : Array MethodInfo := #[]) (fl : Nat := 33) (sup : Nat := 0) (ifs : Array Nat := #[]) (fds : Array FieldInfo := #[]) : ClassFile where
  minorVersion := 0
  majorVersion := 65
  constantPool := pool
  accessFlags := fl
  thisClass := this
  superClass := sup
  interfaces := ifs
  fields := fds
  methods := ms
  attributes := attrs
def plain (name : String) (sup : Option ClassId) : Class where
  name := name
  kind := .ordinary
  loader := none
  accessFlags := 33
  super := sup
  interfaces := #[]
  cf := none
  fields := #[]
  methods := #[]
  instanceTypes := #[]
  staticTypes := #[]
  resolved := #[]
  callSites := []
  init := .initialized
  statics := none
  mirror := none

def pool0 : Array CpInfo := pool [(5, u "<init>"), (0, u "()V"), (1, .class_ 10), (1, u "java/lang/Object")] 113

def k0m0 : Method := { name := "<init>", desc := "()V", sig := { parameters := [], returnType := none }, accessFlags := 1, code := none }
/-- java/lang/Object -/
def k0 : Class := { plain "java/lang/Object" none with
  accessFlags := 33
  interfaces := #[]
  cf := some (fileOf pool0 8 #[] #[{ accessFlags := 1, nameIndex := 5, descriptorIndex := 6, attributes := #[] }] 33 0 #[] #[])
  fields := #[]
  methods := #[k0m0]
  instanceTypes := #[]
  staticTypes := #[]
  resolved := Array.replicate 124 none
  statics := none }

def pool1 : Array CpInfo := pool [(2, .class_ 4), (1, u "java/lang/Object"), (0, u "<init>"), (0, u "()V"), (0, .integer 65520), (0, .methodref 9 10), (0, .class_ 11), (0, .nameAndType 12 13), (0, u "com/example/beforehand/beforehand/EcmaScriptRegexIsLineTerminatorPinLaw"), (0, u "draw"), (0, u "(II)C"), (0, .methodref 15 16), (0, .class_ 17), (0, .nameAndType 18 19), (0, u "com/example/beforehand/beforehand/EcmaScriptRegex"), (0, u "isLineTerminator"), (0, u "(C)Z"), (3, u "law"), (0, u "(II)Z")] 2

def k1m0 : Method := { name := "<init>", desc := "()V", sig := { parameters := [], returnType := none }, accessFlags := 2, code := none }
def k1c1 : Code := { maxStack := 3, maxLocals := 3, code := method_2_code, exceptionTable := #[], attributes := #[] }
def k1m1 : Method := { name := "draw", desc := "(II)C", sig := { parameters := [.int, .int], returnType := some .char }, accessFlags := 10, code := some k1c1 }
def k1c2 : Code := { maxStack := 2, maxLocals := 4, code := code, exceptionTable := #[], attributes := #[] }
def k1m2 : Method := { name := "law", desc := "(II)Z", sig := { parameters := [.int, .int], returnType := some .boolean }, accessFlags := 9, code := some k1c2 }
/-- com/example/beforehand/beforehand/EcmaScriptRegexIsLineTerminatorPinLaw -/
def k1 : Class := { plain "com/example/beforehand/beforehand/EcmaScriptRegexIsLineTerminatorPinLaw" (some 0) with
  accessFlags := 49
  interfaces := #[]
  cf := some (fileOf pool1 9 #[] #[{ accessFlags := 2, nameIndex := 5, descriptorIndex := 6, attributes := #[] }, { accessFlags := 10, nameIndex := 12, descriptorIndex := 13, attributes := #[] }, { accessFlags := 9, nameIndex := 23, descriptorIndex := 24, attributes := #[] }] 49 2 #[] #[])
  fields := #[]
  methods := #[k1m0, k1m1, k1m2]
  instanceTypes := #[]
  staticTypes := #[]
  resolved := Array.replicate 27 none
  statics := none }

def pool2 : Array CpInfo := pool [(2, .class_ 4), (1, u "java/lang/Object"), (3, .class_ 10), (1, u "com/example/beforehand/beforehand/EcmaScriptRegex"), (0, u "pattern"), (0, u "Lcom/example/beforehand/beforehand/EcmaScriptPattern;"), (2, u "javaSource"), (0, u "Ljava/lang/String;"), (2, u "shortcut"), (2, u "groups"), (0, u "Ljava/util/Map;"), (2, u "unsteady"), (0, u "Ljava/util/Set;"), (2, u "groupSpans"), (0, .class_ 32), (0, u "com/example/beforehand/beforehand/EcmaScriptRegex$Translator"), (18, .class_ 53), (1, u "com/example/beforehand/beforehand/EcmaScriptRegex$Part"), (95, .class_ 150), (0, u "com/example/beforehand/beforehand/EcmaScriptRegex$GroupSpan"), (33, .class_ 186), (1, u "com/example/beforehand/beforehand/EcmaScriptRegex$CharSet"), (5, u "(C)Z"), (32, u "LINE_TERMINATORS"), (0, u "Lcom/example/beforehand/beforehand/EcmaScriptRegex$CharSet;"), (6, u "DOT"), (2, u "DIGITS"), (2, u "WORD"), (8, u "WHITE_SPACE"), (0, u "PARAGRAPH_SEPARATOR"), (0, u "C"), (2, u "ZERO_WIDTH_NON_JOINER"), (0, u "I"), (1, u "ZERO_WIDTH_JOINER"), (1, u "VERTICAL_TILDE"), (19, u "isLineTerminator"), (14, .class_ 294), (0, u "com/example/beforehand/beforehand/EcmaScriptRegex$Count")] 30

def k2c0 : Code := { maxStack := 2, maxLocals := 1, code := prog_12_method_10_code, exceptionTable := #[], attributes := #[] }
def k2m0 : Method := { name := "isLineTerminator", desc := "(C)Z", sig := { parameters := [.char], returnType := some .boolean }, accessFlags := 8, code := some k2c0 }
/-- com/example/beforehand/beforehand/EcmaScriptRegex -/
def k2 : Class := { plain "com/example/beforehand/beforehand/EcmaScriptRegex" (some 0) with
  accessFlags := 48
  interfaces := #[]
  cf := some (fileOf pool2 8 #[.nestMembers #[184, 31, 149, 293, 51]] #[{ accessFlags := 8, nameIndex := 278, descriptorIndex := 192, attributes := #[] }] 48 2 #[] #[{ accessFlags := 26, nameIndex := 249, descriptorIndex := 250, attributes := #[] }, { accessFlags := 26, nameIndex := 225, descriptorIndex := 226, attributes := #[] }, { accessFlags := 26, nameIndex := 233, descriptorIndex := 226, attributes := #[] }, { accessFlags := 26, nameIndex := 236, descriptorIndex := 226, attributes := #[] }, { accessFlags := 26, nameIndex := 239, descriptorIndex := 226, attributes := #[] }, { accessFlags := 26, nameIndex := 248, descriptorIndex := 226, attributes := #[] }, { accessFlags := 26, nameIndex := 253, descriptorIndex := 254, attributes := #[] }, { accessFlags := 26, nameIndex := 256, descriptorIndex := 254, attributes := #[] }, { accessFlags := 26, nameIndex := 258, descriptorIndex := 254, attributes := #[] }, { accessFlags := 18, nameIndex := 11, descriptorIndex := 12, attributes := #[] }, { accessFlags := 18, nameIndex := 15, descriptorIndex := 16, attributes := #[] }, { accessFlags := 18, nameIndex := 19, descriptorIndex := 16, attributes := #[] }, { accessFlags := 18, nameIndex := 22, descriptorIndex := 23, attributes := #[] }, { accessFlags := 18, nameIndex := 26, descriptorIndex := 27, attributes := #[] }, { accessFlags := 18, nameIndex := 30, descriptorIndex := 23, attributes := #[] }])
  fields := #[{ name := "PARAGRAPH_SEPARATOR", type := .char, accessFlags := 26, slot := 0, constantValue := 0 }, { name := "LINE_TERMINATORS", type := (.object "com/example/beforehand/beforehand/EcmaScriptRegex$CharSet"), accessFlags := 26, slot := 1, constantValue := 0 }, { name := "DOT", type := (.object "com/example/beforehand/beforehand/EcmaScriptRegex$CharSet"), accessFlags := 26, slot := 2, constantValue := 0 }, { name := "DIGITS", type := (.object "com/example/beforehand/beforehand/EcmaScriptRegex$CharSet"), accessFlags := 26, slot := 3, constantValue := 0 }, { name := "WORD", type := (.object "com/example/beforehand/beforehand/EcmaScriptRegex$CharSet"), accessFlags := 26, slot := 4, constantValue := 0 }, { name := "WHITE_SPACE", type := (.object "com/example/beforehand/beforehand/EcmaScriptRegex$CharSet"), accessFlags := 26, slot := 5, constantValue := 0 }, { name := "ZERO_WIDTH_NON_JOINER", type := .int, accessFlags := 26, slot := 6, constantValue := 0 }, { name := "ZERO_WIDTH_JOINER", type := .int, accessFlags := 26, slot := 7, constantValue := 0 }, { name := "VERTICAL_TILDE", type := .int, accessFlags := 26, slot := 8, constantValue := 0 }, { name := "pattern", type := (.object "com/example/beforehand/beforehand/EcmaScriptPattern"), accessFlags := 18, slot := 0, constantValue := 0 }, { name := "javaSource", type := (.object "java/lang/String"), accessFlags := 18, slot := 1, constantValue := 0 }, { name := "shortcut", type := (.object "java/lang/String"), accessFlags := 18, slot := 2, constantValue := 0 }, { name := "groups", type := (.object "java/util/Map"), accessFlags := 18, slot := 3, constantValue := 0 }, { name := "unsteady", type := (.object "java/util/Set"), accessFlags := 18, slot := 4, constantValue := 0 }, { name := "groupSpans", type := (.object "java/util/Map"), accessFlags := 18, slot := 5, constantValue := 0 }]
  methods := #[k2m0]
  instanceTypes := #[(.object "com/example/beforehand/beforehand/EcmaScriptPattern"), (.object "java/lang/String"), (.object "java/lang/String"), (.object "java/util/Map"), (.object "java/util/Set"), (.object "java/util/Map")]
  staticTypes := #[.char, (.object "com/example/beforehand/beforehand/EcmaScriptRegex$CharSet"), (.object "com/example/beforehand/beforehand/EcmaScriptRegex$CharSet"), (.object "com/example/beforehand/beforehand/EcmaScriptRegex$CharSet"), (.object "com/example/beforehand/beforehand/EcmaScriptRegex$CharSet"), (.object "com/example/beforehand/beforehand/EcmaScriptRegex$CharSet"), .int, .int, .int]
  resolved := Array.replicate 325 none
  statics := none }

def pool3 : Array CpInfo := pool [(1, u "java/lang/Cloneable"), (0, .class_ 1), (0, u "java/lang/Object"), (0, .class_ 3)] 3

/-- java/lang/Cloneable -/
def k3 : Class := { plain "java/lang/Cloneable" (some 0) with
  accessFlags := 1537
  interfaces := #[]
  cf := some (fileOf pool3 2 #[] #[] 1537 4 #[] #[])
  fields := #[]
  methods := #[]
  instanceTypes := #[]
  staticTypes := #[]
  resolved := Array.replicate 8 none
  statics := none }

def pool4 : Array CpInfo := pool [(1, u "java/io/Serializable"), (0, .class_ 1), (0, u "java/lang/Object"), (0, .class_ 3)] 3

/-- java/io/Serializable -/
def k4 : Class := { plain "java/io/Serializable" (some 0) with
  accessFlags := 1537
  interfaces := #[]
  cf := some (fileOf pool4 2 #[] #[] 1537 4 #[] #[])
  fields := #[]
  methods := #[]
  instanceTypes := #[]
  staticTypes := #[]
  resolved := Array.replicate 8 none
  statics := none }

/-- the primitive byte -/
def k5 : Class := { plain "byte" none with kind := .primitive 'B', accessFlags := 0x411 }
/-- [B -/
def k6 : Class := { plain "[B" (some 0) with kind := .array 5 .byte, interfaces := #[3, 4], accessFlags := 1041 }

/-- the primitive int -/
def k7 : Class := { plain "int" none with kind := .primitive 'I', accessFlags := 0x411 }
/-- [I -/
def k8 : Class := { plain "[I" (some 0) with kind := .array 7 .int, interfaces := #[3, 4], accessFlags := 1041 }

def heap : Heap := #[]
def classes : Array Class := #[k0, k1, k2, k3, k4, k5, k6, k7, k8]
def interned : List (Array UInt16 × Addr) := []
def slotsUsed : Nat := 0
def theMethod : MethodId := ⟨1, 2⟩
def args0 : Array Value := #[.int 5, .int 7]
def aboutOver (below : List Frame) : State where
  vm := { classes := classes, interned := interned.toArray }
  heap := heap
  slotsUsed := slotsUsed
  threads := #[{ frames := .invoking theMethod args0 :: below }]
def below0 : List Frame := [.native { method := ⟨0, 0⟩, args := #[] }]
def about1 : State := aboutOver below0
def p0 : Program := .bare "" "" ""
def e0 : Env := launch0.env 0 0 0
theorem w_frames : about1.frames = Frame.invoking theMethod args0 :: below0 := rfl
set_option maxRecDepth 65536 in
theorem w_args : argsFit about1.vm theMethod args0 = true := by decide +kernel
set_option maxRecDepth 65536 in
theorem w_heap : heapFits about1 = true := by decide +kernel
set_option maxRecDepth 65536 in
theorem w_runnable : about1.curStatus? = some .runnable := by decide +kernel
set_option maxRecDepth 65536 in
theorem w_alone : about1.alone = true := by decide +kernel
set_option maxRecDepth 65536 in
theorem w_named : about1.methodNamed? x = some theMethod := by decide +kernel
set_option maxRecDepth 65536 in
theorem w_hears : about1.hears theMethod below0 = true := by decide +kernel
set_option maxRecDepth 65536 in
theorem w_ripe : about1.ripe theMethod args0 below0 = true := by decide +kernel
theorem w_running : about1.status = .running := rfl
set_option maxRecDepth 65536 in
theorem w_room : about1.hasRoom e0.platform room_1 = true :=
  launch0.hasRoom_least _ room_1 (by decide +kernel) (by decide +kernel) (by decide +kernel) (by decide +kernel) (by decide +kernel) (by decide +kernel)
theorem allAtoms_all (ts : List Jvm.Cond) (a : Array Jvm.Value) (st : Jvm.State) : (allAtoms ts).before a st = ts.all (fun c => c.before a st) := by
  induction ts with
  | nil => rfl
  | cons c t ih =>
    show (Jvm.Cond.and c (allAtoms t)).before a st = _
    rw [Jvm.Cond.before_and, ih, List.all_cons]
def words1 : List Jvm.Cond := Jvm.Cond.code x code maxLocals ret :: tables_1
/-- a 'code' word, met by the world's own term for the bytes: nothing is compared byte by byte -/
theorem code_word {y : MethodName} {bytes : ByteArray} {mx : Nat} {rt : Option FieldType} {a : Array Value} {s : State} {m : MethodId} {meth : Method} {c : Code} (h1 : s.methodNamed? y = some m) (h2 : s.vm.method? m = some meth) (h3 : meth.code = some c) (h4 : c.code = bytes)
    (h5 : (c.maxLocals == mx && c.exceptionTable.isEmpty && decide (c.maxStack ≤ mostOperands) && decide (meth.sig.returnType = rt) && !meth.locks && decide (parseMethodDescriptor y.desc = some meth.sig)) = true) : (Jvm.Cond.code y bytes mx rt).before a s = true := by
  simp only [Bool.and_eq_true, beq_iff_eq, Bool.not_eq_true', decide_eq_true_eq] at h5
  obtain ⟨⟨⟨⟨⟨g1, g2⟩, g3⟩, g4⟩, g5⟩, g6⟩ := h5
  simp [Cond.before, Cond.holds, Cond.value, h1, h2, h3, h4, g1, g2, g3, g4, g5, g6]
def isCode : Jvm.Cond → Bool
  | .code _ _ _ _ => true
  | _ => false
theorem all_split {L : List Jvm.Cond} {P : Jvm.Cond → Bool} (h1 : L.all (fun c => isCode c || P c) = true) (h2 : ∀ c ∈ L.filter isCode, P c = true) : L.all P = true := by
  refine List.all_eq_true.mpr fun c hc => ?_
  have h := List.all_eq_true.mp h1 c hc
  rcases Bool.eq_false_or_eq_true (isCode c) with hi | hi
  · exact h2 c (List.mem_filter.mpr ⟨hc, hi⟩)
  · simpa [hi] using h
set_option maxRecDepth 65536 in
theorem w_c0 : (Jvm.Cond.code x code maxLocals ret).before args0 about1 = true := code_word (m := ⟨1, 2⟩) (meth := k1m2) (c := k1c2) (by decide +kernel) rfl rfl rfl (by decide +kernel)
set_option maxRecDepth 65536 in
theorem w_c1 : (Jvm.Cond.code ({ cls := "com/example/beforehand/beforehand/EcmaScriptRegexIsLineTerminatorPinLaw", name := "draw", desc := "(II)C" } : Jvm.MethodName) method_2_code (3 : Nat) (Option.some Jvm.ClassFile.FieldType.char)).before args0 about1 = true := code_word (m := ⟨1, 1⟩) (meth := k1m1) (c := k1c1) (by decide +kernel) rfl rfl rfl (by decide +kernel)
set_option maxRecDepth 65536 in
theorem w_c2 : (Jvm.Cond.code ({ cls := "com/example/beforehand/beforehand/EcmaScriptRegex", name := "isLineTerminator", desc := "(C)Z" } : Jvm.MethodName) prog_12_method_10_code (1 : Nat) (Option.some Jvm.ClassFile.FieldType.boolean)).before args0 about1 = true := code_word (m := ⟨2, 0⟩) (meth := k2m0) (c := k2c0) (by decide +kernel) rfl rfl rfl (by decide +kernel)
def codes1 : List Jvm.Cond := [Jvm.Cond.code x code maxLocals ret, Jvm.Cond.code ({ cls := "com/example/beforehand/beforehand/EcmaScriptRegexIsLineTerminatorPinLaw", name := "draw", desc := "(II)C" } : Jvm.MethodName) method_2_code (3 : Nat) (Option.some Jvm.ClassFile.FieldType.char), Jvm.Cond.code ({ cls := "com/example/beforehand/beforehand/EcmaScriptRegex", name := "isLineTerminator", desc := "(C)Z" } : Jvm.MethodName) prog_12_method_10_code (1 : Nat) (Option.some Jvm.ClassFile.FieldType.boolean)]
set_option maxRecDepth 65536 in
theorem codes_eq : words1.filter isCode = codes1 := rfl
theorem w_codes : ∀ c ∈ words1.filter isCode, c.before args0 about1 = true := by
  rw [codes_eq]
  intro c hc
  simp only [codes1, List.mem_cons, List.not_mem_nil, or_false] at hc
  rcases hc with rfl | rfl | rfl
  · exact w_c0
  · exact w_c1
  · exact w_c2
set_option maxRecDepth 65536 in
theorem w_t1 : words1.all (fun c => isCode c || c.before args0 about1) = true := by decide +kernel
theorem w_tables : (allAtoms (Jvm.Cond.code x code maxLocals ret :: tables_1)).before args0 about1 = true := by
  rw [allAtoms_all]
  show words1.all (fun c => c.before args0 about1) = true
  refine all_split ?_ w_codes
  rw [w_t1]
set_option maxRecDepth 65536 in
theorem w_case : (Jvm.Cond.and given_1 narrow_1).before args0 about1 = true := by decide +kernel
theorem w_applies : (headSpec (Jvm.Cond.code x code maxLocals ret :: tables_1) room_1).applies x e0.platform about1 = true :=
  (Spec.applies_iff w_frames).mpr ⟨w_running, w_runnable, w_alone, w_named, w_hears, w_ripe, w_room, w_tables⟩
theorem atStart : AtStart classFile x code maxLocals ret World_1 tables_1 room_1 Calls_1 rest_1 Pre_1 launch0 p0 e0 about1 theMethod args0 below0 :=
  ⟨lists_1, trivial, launch0.admits_env _ _ _, launch0.least_env, fairChoices_fair.cas, fairChoices_fair.clock, w_frames, w_args, w_heap, w_applies, trivial, trivial, w_case⟩
end start1
theorem witness_1 : WitnessClaimed_1 := ⟨start1.p0, start1.e0, start1.about1, start1.theMethod, start1.args0, start1.below0, start1.atStart⟩
end Jvm.Pilot.@@N@@
