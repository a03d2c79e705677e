import JvmDerived
import JvmDerived.Pilot.@@N@@Statement
import JvmDerived.Pilot.@@N@@Code
set_option linter.unusedVariables false
set_option linter.unusedSimpArgs false
namespace Jvm.RoadKit
open Sem ClassFile Op Lib Jvm.Stand Jvm.Free Jvm.LawKit
section New
variable {p : Program} {l : Launch} {e : Env} {R : Room} {s : State} {m : MethodId} {args : Array Value} {below : List Frame} {meth : Method} {c : Code} {T : State} {locs : List Loc} {cells slots : Nat}
theorem retI (X : Stand p l e R s m args below meth c T locs cells slots) (hx : p.tables.exec = Jvm.exec) {pc : Nat} {Ls : Array Slot} {z : Int32} {rest : List Value} (hret : meth.sig.returnType = some .int) (hd : decode c.code pc = .ok (.ireturn, 1)) {fs : List Frame}
    (hl : ∀ (f : JFrame) (acts : List Action), f.method = m → f.locked = none → f.entered = [] → (doReturn e (T.setTop f) acts (some (.int z))).1 = T.setFrames fs) : Steps p.tables e below (T.setTop (mkF m pc Ls (.int z :: rest))) (T.setFrames fs) := by
  have hm' : T.vm.method? m = some meth := X.method'
  have hn : narrow .int (.int z) = .int z := rfl
  show Steps p.tables e below (T.setTop { method := m, pc := pc, locals := Ls, stack := _ :: rest, locked := none }) _
  jvm_step X.here [X.here.top, hx, hd, hm', hret, hn]
  first | (intro acts; rw [hl _ acts rfl rfl rfl]) | rw [hl _ _ rfl rfl rfl]
  exact Steps.refl _
/-- from here the invocation comes to an end of which R holds -/
def Goes (p : Program) (e : Env) (below : List Frame) (cur : State) (R : State → Outcome → Prop) : Prop := ∃ s₂ o, Steps p.tables e below cur s₂ ∧ s₂.status = .running ∧ Ended s₂ below o ∧ R s₂ o
theorem Goes.via {cur next : State} {R : State → Outcome → Prop} (k : ∀ t, Steps p.tables e below next t → Steps p.tables e below cur t) (h : Goes p e below next R) : Goes p e below cur R := by
  obtain ⟨s₂, o, h1, h2⟩ := h
  exact ⟨s₂, o, k _ h1, h2⟩
end New
end Jvm.RoadKit
namespace Jvm.Pilot.@@N@@
open Jvm Jvm.ClassFile Sem Op Lib Jvm.Free Jvm.Stand Jvm.LawKit Jvm.RoadKit Bundle Jvm.Pilot.@@N@@.Jvm.D
theorem d1_0 : decode method_2_code 0 = .ok (.iload_n 1, 1) := by decide +kernel
theorem d1_1 : decode method_2_code 1 = .ok (.iconst 3, 1) := by decide +kernel
theorem d1_2 : decode method_2_code 2 = .ok (.iand, 1) := by decide +kernel
theorem d1_3 : decode method_2_code 3 = .ok (.istore_n 2, 1) := by decide +kernel
theorem d1_4 : decode method_2_code 4 = .ok (.iload_n 2, 1) := by decide +kernel
theorem d1_5 : decode method_2_code 5 = .ok (.ifCond .ne 5, 3) := by decide +kernel
theorem d1_8 : decode method_2_code 8 = .ok (.iload_n 0, 1) := by decide +kernel
theorem d1_9 : decode method_2_code 9 = .ok (.ireturn, 1) := by decide +kernel
theorem d1_10 : decode method_2_code 10 = .ok (.iload_n 2, 1) := by decide +kernel
theorem d1_11 : decode method_2_code 11 = .ok (.iconst 1, 1) := by decide +kernel
theorem d1_12 : decode method_2_code 12 = .ok (.if_icmp .ne 8, 3) := by decide +kernel
theorem d1_15 : decode method_2_code 15 = .ok (.iload_n 0, 1) := by decide +kernel
theorem d1_16 : decode method_2_code 16 = .ok (.bipush 63, 2) := by decide +kernel
theorem d1_18 : decode method_2_code 18 = .ok (.iand, 1) := by decide +kernel
theorem d1_19 : decode method_2_code 19 = .ok (.ireturn, 1) := by decide +kernel
theorem d1_20 : decode method_2_code 20 = .ok (.iload_n 2, 1) := by decide +kernel
theorem d1_21 : decode method_2_code 21 = .ok (.iconst 2, 1) := by decide +kernel
theorem d1_22 : decode method_2_code 22 = .ok (.if_icmp .ne 11, 3) := by decide +kernel
theorem d1_25 : decode method_2_code 25 = .ok (.iload_n 0, 1) := by decide +kernel
theorem d1_26 : decode method_2_code 26 = .ok (.bipush 63, 2) := by decide +kernel
theorem d1_28 : decode method_2_code 28 = .ok (.iand, 1) := by decide +kernel
theorem d1_29 : decode method_2_code 29 = .ok (.bipush 64, 2) := by decide +kernel
theorem d1_31 : decode method_2_code 31 = .ok (.isub, 1) := by decide +kernel
theorem d1_32 : decode method_2_code 32 = .ok (.ireturn, 1) := by decide +kernel
theorem d1_33 : decode method_2_code 33 = .ok (.iload_n 0, 1) := by decide +kernel
theorem d1_34 : decode method_2_code 34 = .ok (.sipush (-256), 3) := by decide +kernel
theorem d1_37 : decode method_2_code 37 = .ok (.iand, 1) := by decide +kernel
theorem d1_38 : decode method_2_code 38 = .ok (.iload_n 0, 1) := by decide +kernel
theorem d1_39 : decode method_2_code 39 = .ok (.bipush 63, 2) := by decide +kernel
theorem d1_41 : decode method_2_code 41 = .ok (.iand, 1) := by decide +kernel
theorem d1_42 : decode method_2_code 42 = .ok (.ior, 1) := by decide +kernel
theorem d1_43 : decode method_2_code 43 = .ok (.ireturn, 1) := by decide +kernel
theorem pn_1 : plainName "com/example/sapsucker/sapsucker/util/WhitespaceIsAsciiWhitespacePinLaw" = true := by first | (simp [plainName, overriddenIn]; done) | decide +kernel
theorem ef_1 (m : MethodId) (x0 : Int32) (x1 : Int32) : entryFrame m #[(.int x0), (.int x1)] 3 = mkF m 0 #[.val (.int x0), .val (.int x1), .unset] [] := by first | (simp [entryFrame, mkF, argsToLocals, Value.category]; done) | rfl
def f1 (p1 : Int32) (p2 : Int32) : Int32 :=
  if (p2 &&& (3 : Int32)) = (0 : Int32) then p1 else
  if (p2 &&& (3 : Int32)) = (1 : Int32) then (p1 &&& (63 : Int32)) else
  if (p2 &&& (3 : Int32)) = (2 : Int32) then ((p1 &&& (63 : Int32)) - (64 : Int32)) else
  ((p1 &&& (-256 : Int32)) ||| (p1 &&& (63 : Int32)))
def Q1 (Z : State) (p1 : Int32) (p2 : Int32) (h0 : Heap) (n0 : Nat) (v : Option Value) (h : Heap) (L : List Loc) : Prop := v = some (.int (f1 p1 p2)) ∧ Fr n0 L ∧ h = h0
set_option maxRecDepth 65536 in
set_option maxHeartbeats 40000000 in
theorem rm1 (l : Launch) (Z : State) (a0 : Array Value) (hw : ∀ d ∈ tables_1, d.before a0 Z = true) (ws : List Jvm.Cond) (p1 : Int32) (p2 : Int32) (h0 : Heap) (n0 : Nat) (Z0 : n0 ≤ h0.size) :
    MetFree l (⟨"com/example/sapsucker/sapsucker/util/WhitespaceIsAsciiWhitespacePinLaw", "pick", "(II)I"⟩ : MethodName) (head1 (Jvm.Cond.code (⟨"com/example/sapsucker/sapsucker/util/WhitespaceIsAsciiWhitespacePinLaw", "pick", "(II)I"⟩ : MethodName) method_2_code 3 (some .int) :: ws) ({ frames := 0, cells := 0, slots := 0, locals := 0 } : Room)) (fun a U => a = #[(.int p1), (.int p2)] ∧ Z.Warmed39 U.vm ∧ U.heap = h0) (fun _ _ _ _ _ => True) (fun _ U o U' => ∃ v L, o = .returned v ∧ Q1 Z p1 p2 h0 n0 v U'.heap L ∧ FrameEnd U o U' L ({ frames := 0, cells := 0, slots := 0, locals := 0 } : Room).cells ({ frames := 0, cells := 0, slots := 0, locals := 0 } : Room).slots) := by
  refine MetFree.of_bodySF (plainFor_of_name pn_1) hisR ?_
  intro p e s m args below meth c s₁ Bd hml0 hP hK
  obtain ⟨rfl, hZ, hh⟩ := hP
  have hx := Bd.exec
  have hby := Bd.bytes
  have hml : c.maxLocals = 3 := hml0
  have hown : s.vm.findClass "com/example/sapsucker/sapsucker/util/WhitespaceIsAsciiWhitespacePinLaw" = some m.cls := findClass_of_methodNamed Bd.named
  have hnm := (name_of_methodNamed Bd.named Bd.method).1
  have X0 : Stand p l e ({ frames := 0, cells := 0, slots := 0, locals := 0 } : Room) s m #[(.int p1), (.int p2)] below meth c s₁ [] 0 0 := Stand.of_body Bd
  have e0 : s₁.heap = h0 := by rw [← hh, Bd.state]; rfl
  have N0 := Fr.nil n0
  refine Goes.via (next := s₁.setTop (mkF m 0 #[.val (.int p1), .val (.int p2), .unset] [])) (fun t k => castTop (ef_1 m p1 p2) k) ?_
  refine Goes.via (fun t k => XS.iloadN X0.here hx rfl (hb hby d1_0) rfl k) ?_
  show Goes p e below (s₁.setTop (mkF m 1 #[.val (.int p1), .val (.int p2), .unset] [(.int p2)])) _
  refine Goes.via (fun t k => XS.iconst X0.here hx rfl (hb hby d1_1) k) ?_
  show Goes p e below (s₁.setTop (mkF m 2 #[.val (.int p1), .val (.int p2), .unset] [(.int (3 : Int32)), (.int p2)])) _
  refine Goes.via (fun t k => XS.iand X0.here hx rfl (hb hby d1_2) rfl k) ?_
  show Goes p e below (s₁.setTop (mkF m 3 #[.val (.int p1), .val (.int p2), .unset] [(.int (p2 &&& (3 : Int32)))])) _
  refine Goes.via (fun t k => XS.istoreN X0.here hx rfl (hb hby d1_3) rfl (l' := #[.val (.int p1), .val (.int p2), .val (.int (p2 &&& (3 : Int32)))]) rfl k) ?_
  show Goes p e below (s₁.setTop (mkF m 4 #[.val (.int p1), .val (.int p2), .val (.int (p2 &&& (3 : Int32)))] [])) _
  refine Goes.via (fun t k => XS.iloadN X0.here hx rfl (hb hby d1_4) rfl k) ?_
  show Goes p e below (s₁.setTop (mkF m 5 #[.val (.int p1), .val (.int p2), .val (.int (p2 &&& (3 : Int32)))] [(.int (p2 &&& (3 : Int32)))])) _
  by_cases hc5_1 : (p2 &&& (3 : Int32)) = (0 : Int32)
  · refine Goes.via (fun t k => XS.ifNo X0.here hx rfl (hb hby d1_5) rfl ((if0 _ _).trans (teq hc5_1).2) k) ?_
    show Goes p e below (s₁.setTop (mkF m 8 #[.val (.int p1), .val (.int p2), .val (.int (p2 &&& (3 : Int32)))] [])) _
    refine Goes.via (fun t k => XS.iloadN X0.here hx rfl (hb hby d1_8) rfl k) ?_
    show Goes p e below (s₁.setTop (mkF m 9 #[.val (.int p1), .val (.int p2), .val (.int (p2 &&& (3 : Int32)))] [(.int p1)])) _
    obtain ⟨fs, hr, hrun, hended, hW, hsame⟩ := X0.leave (v := some (.int p1)) (fun h => by rw [Bd.returns] at h; cases h)
    refine ⟨_, _, ?_, hrun, hended, _, _, rfl, ?_, ⟨_, rfl⟩, hW, hsame.mono (by decide) (by decide)⟩
    · exact retI X0 hx Bd.returns (hb hby d1_9) hr
    · show Q1 Z p1 p2 h0 n0 _ s₁.heap _
      rw [e0]
      exact ⟨congrArg some (congrArg _ (by simp only [f1, if_pos hc5_1])), N0, rfl⟩
  · refine Goes.via (fun t k => XS.ifYes X0.here hx rfl (pc0 := 5) (pc' := 10) rfl (hb hby d1_5) rfl ((if0 _ _).trans (feq hc5_1).2) (by decide) (by decide) k) ?_
    show Goes p e below (s₁.setTop (mkF m 10 #[.val (.int p1), .val (.int p2), .val (.int (p2 &&& (3 : Int32)))] [])) _
    refine Goes.via (fun t k => XS.iloadN X0.here hx rfl (hb hby d1_10) rfl k) ?_
    show Goes p e below (s₁.setTop (mkF m 11 #[.val (.int p1), .val (.int p2), .val (.int (p2 &&& (3 : Int32)))] [(.int (p2 &&& (3 : Int32)))])) _
    refine Goes.via (fun t k => XS.iconst X0.here hx rfl (hb hby d1_11) k) ?_
    show Goes p e below (s₁.setTop (mkF m 12 #[.val (.int p1), .val (.int p2), .val (.int (p2 &&& (3 : Int32)))] [(.int (1 : Int32)), (.int (p2 &&& (3 : Int32)))])) _
    by_cases hc12_2 : (p2 &&& (3 : Int32)) = (1 : Int32)
    · refine Goes.via (fun t k => XS.icmpNo X0.here hx rfl (hb hby d1_12) rfl (teq hc12_2).2 k) ?_
      show Goes p e below (s₁.setTop (mkF m 15 #[.val (.int p1), .val (.int p2), .val (.int (p2 &&& (3 : Int32)))] [])) _
      refine Goes.via (fun t k => XS.iloadN X0.here hx rfl (hb hby d1_15) rfl k) ?_
      show Goes p e below (s₁.setTop (mkF m 16 #[.val (.int p1), .val (.int p2), .val (.int (p2 &&& (3 : Int32)))] [(.int p1)])) _
      refine Goes.via (fun t k => XS.bipush X0.here hx rfl (hb hby d1_16) k) ?_
      show Goes p e below (s₁.setTop (mkF m 18 #[.val (.int p1), .val (.int p2), .val (.int (p2 &&& (3 : Int32)))] [(.int (63 : Int32)), (.int p1)])) _
      refine Goes.via (fun t k => XS.iand X0.here hx rfl (hb hby d1_18) rfl k) ?_
      show Goes p e below (s₁.setTop (mkF m 19 #[.val (.int p1), .val (.int p2), .val (.int (p2 &&& (3 : Int32)))] [(.int (p1 &&& (63 : Int32)))])) _
      obtain ⟨fs, hr, hrun, hended, hW, hsame⟩ := X0.leave (v := some (.int (p1 &&& (63 : Int32)))) (fun h => by rw [Bd.returns] at h; cases h)
      refine ⟨_, _, ?_, hrun, hended, _, _, rfl, ?_, ⟨_, rfl⟩, hW, hsame.mono (by decide) (by decide)⟩
      · exact retI X0 hx Bd.returns (hb hby d1_19) hr
      · show Q1 Z p1 p2 h0 n0 _ s₁.heap _
        rw [e0]
        exact ⟨congrArg some (congrArg _ (by simp only [f1, if_neg hc5_1, if_pos hc12_2])), N0, rfl⟩
    · refine Goes.via (fun t k => XS.icmpYes X0.here hx rfl (pc0 := 12) (pc' := 20) rfl (hb hby d1_12) rfl (feq hc12_2).2 (by decide) (by decide) k) ?_
      show Goes p e below (s₁.setTop (mkF m 20 #[.val (.int p1), .val (.int p2), .val (.int (p2 &&& (3 : Int32)))] [])) _
      refine Goes.via (fun t k => XS.iloadN X0.here hx rfl (hb hby d1_20) rfl k) ?_
      show Goes p e below (s₁.setTop (mkF m 21 #[.val (.int p1), .val (.int p2), .val (.int (p2 &&& (3 : Int32)))] [(.int (p2 &&& (3 : Int32)))])) _
      refine Goes.via (fun t k => XS.iconst X0.here hx rfl (hb hby d1_21) k) ?_
      show Goes p e below (s₁.setTop (mkF m 22 #[.val (.int p1), .val (.int p2), .val (.int (p2 &&& (3 : Int32)))] [(.int (2 : Int32)), (.int (p2 &&& (3 : Int32)))])) _
      by_cases hc22_3 : (p2 &&& (3 : Int32)) = (2 : Int32)
      · refine Goes.via (fun t k => XS.icmpNo X0.here hx rfl (hb hby d1_22) rfl (teq hc22_3).2 k) ?_
        show Goes p e below (s₁.setTop (mkF m 25 #[.val (.int p1), .val (.int p2), .val (.int (p2 &&& (3 : Int32)))] [])) _
        refine Goes.via (fun t k => XS.iloadN X0.here hx rfl (hb hby d1_25) rfl k) ?_
        show Goes p e below (s₁.setTop (mkF m 26 #[.val (.int p1), .val (.int p2), .val (.int (p2 &&& (3 : Int32)))] [(.int p1)])) _
        refine Goes.via (fun t k => XS.bipush X0.here hx rfl (hb hby d1_26) k) ?_
        show Goes p e below (s₁.setTop (mkF m 28 #[.val (.int p1), .val (.int p2), .val (.int (p2 &&& (3 : Int32)))] [(.int (63 : Int32)), (.int p1)])) _
        refine Goes.via (fun t k => XS.iand X0.here hx rfl (hb hby d1_28) rfl k) ?_
        show Goes p e below (s₁.setTop (mkF m 29 #[.val (.int p1), .val (.int p2), .val (.int (p2 &&& (3 : Int32)))] [(.int (p1 &&& (63 : Int32)))])) _
        refine Goes.via (fun t k => XS.bipush X0.here hx rfl (hb hby d1_29) k) ?_
        show Goes p e below (s₁.setTop (mkF m 31 #[.val (.int p1), .val (.int p2), .val (.int (p2 &&& (3 : Int32)))] [(.int (64 : Int32)), (.int (p1 &&& (63 : Int32)))])) _
        refine Goes.via (fun t k => XS.isub X0.here hx rfl (hb hby d1_31) rfl k) ?_
        show Goes p e below (s₁.setTop (mkF m 32 #[.val (.int p1), .val (.int p2), .val (.int (p2 &&& (3 : Int32)))] [(.int ((p1 &&& (63 : Int32)) - (64 : Int32)))])) _
        obtain ⟨fs, hr, hrun, hended, hW, hsame⟩ := X0.leave (v := some (.int ((p1 &&& (63 : Int32)) - (64 : Int32)))) (fun h => by rw [Bd.returns] at h; cases h)
        refine ⟨_, _, ?_, hrun, hended, _, _, rfl, ?_, ⟨_, rfl⟩, hW, hsame.mono (by decide) (by decide)⟩
        · exact retI X0 hx Bd.returns (hb hby d1_32) hr
        · show Q1 Z p1 p2 h0 n0 _ s₁.heap _
          rw [e0]
          exact ⟨congrArg some (congrArg _ (by simp only [f1, if_neg hc5_1, if_neg hc12_2, if_pos hc22_3])), N0, rfl⟩
      · refine Goes.via (fun t k => XS.icmpYes X0.here hx rfl (pc0 := 22) (pc' := 33) rfl (hb hby d1_22) rfl (feq hc22_3).2 (by decide) (by decide) k) ?_
        show Goes p e below (s₁.setTop (mkF m 33 #[.val (.int p1), .val (.int p2), .val (.int (p2 &&& (3 : Int32)))] [])) _
        refine Goes.via (fun t k => XS.iloadN X0.here hx rfl (hb hby d1_33) rfl k) ?_
        show Goes p e below (s₁.setTop (mkF m 34 #[.val (.int p1), .val (.int p2), .val (.int (p2 &&& (3 : Int32)))] [(.int p1)])) _
        refine Goes.via (fun t k => XS.sipush X0.here hx rfl (hb hby d1_34) k) ?_
        show Goes p e below (s₁.setTop (mkF m 37 #[.val (.int p1), .val (.int p2), .val (.int (p2 &&& (3 : Int32)))] [(.int (-256 : Int32)), (.int p1)])) _
        refine Goes.via (fun t k => XS.iand X0.here hx rfl (hb hby d1_37) rfl k) ?_
        show Goes p e below (s₁.setTop (mkF m 38 #[.val (.int p1), .val (.int p2), .val (.int (p2 &&& (3 : Int32)))] [(.int (p1 &&& (-256 : Int32)))])) _
        refine Goes.via (fun t k => XS.iloadN X0.here hx rfl (hb hby d1_38) rfl k) ?_
        show Goes p e below (s₁.setTop (mkF m 39 #[.val (.int p1), .val (.int p2), .val (.int (p2 &&& (3 : Int32)))] [(.int p1), (.int (p1 &&& (-256 : Int32)))])) _
        refine Goes.via (fun t k => XS.bipush X0.here hx rfl (hb hby d1_39) k) ?_
        show Goes p e below (s₁.setTop (mkF m 41 #[.val (.int p1), .val (.int p2), .val (.int (p2 &&& (3 : Int32)))] [(.int (63 : Int32)), (.int p1), (.int (p1 &&& (-256 : Int32)))])) _
        refine Goes.via (fun t k => XS.iand X0.here hx rfl (hb hby d1_41) rfl k) ?_
        show Goes p e below (s₁.setTop (mkF m 42 #[.val (.int p1), .val (.int p2), .val (.int (p2 &&& (3 : Int32)))] [(.int (p1 &&& (63 : Int32))), (.int (p1 &&& (-256 : Int32)))])) _
        refine Goes.via (fun t k => XS.ior X0.here hx rfl (hb hby d1_42) rfl k) ?_
        show Goes p e below (s₁.setTop (mkF m 43 #[.val (.int p1), .val (.int p2), .val (.int (p2 &&& (3 : Int32)))] [(.int ((p1 &&& (-256 : Int32)) ||| (p1 &&& (63 : Int32))))])) _
        obtain ⟨fs, hr, hrun, hended, hW, hsame⟩ := X0.leave (v := some (.int ((p1 &&& (-256 : Int32)) ||| (p1 &&& (63 : Int32))))) (fun h => by rw [Bd.returns] at h; cases h)
        refine ⟨_, _, ?_, hrun, hended, _, _, rfl, ?_, ⟨_, rfl⟩, hW, hsame.mono (by decide) (by decide)⟩
        · exact retI X0 hx Bd.returns (hb hby d1_43) hr
        · show Q1 Z p1 p2 h0 n0 _ s₁.heap _
          rw [e0]
          exact ⟨congrArg some (congrArg _ (by simp only [f1, if_neg hc5_1, if_neg hc12_2, if_neg hc22_3])), N0, rfl⟩
theorem d2_0 : decode prog_23_method_3_code 0 = .ok (.iload_n 0, 1) := by decide +kernel
theorem d2_1 : decode prog_23_method_3_code 1 = .ok (.bipush 9, 2) := by decide +kernel
theorem d2_3 : decode prog_23_method_3_code 3 = .ok (.if_icmp .eq 27, 3) := by decide +kernel
theorem d2_6 : decode prog_23_method_3_code 6 = .ok (.iload_n 0, 1) := by decide +kernel
theorem d2_7 : decode prog_23_method_3_code 7 = .ok (.bipush 10, 2) := by decide +kernel
theorem d2_9 : decode prog_23_method_3_code 9 = .ok (.if_icmp .eq 21, 3) := by decide +kernel
theorem d2_12 : decode prog_23_method_3_code 12 = .ok (.iload_n 0, 1) := by decide +kernel
theorem d2_13 : decode prog_23_method_3_code 13 = .ok (.bipush 12, 2) := by decide +kernel
theorem d2_15 : decode prog_23_method_3_code 15 = .ok (.if_icmp .eq 15, 3) := by decide +kernel
theorem d2_18 : decode prog_23_method_3_code 18 = .ok (.iload_n 0, 1) := by decide +kernel
theorem d2_19 : decode prog_23_method_3_code 19 = .ok (.bipush 13, 2) := by decide +kernel
theorem d2_21 : decode prog_23_method_3_code 21 = .ok (.if_icmp .eq 9, 3) := by decide +kernel
theorem d2_24 : decode prog_23_method_3_code 24 = .ok (.iload_n 0, 1) := by decide +kernel
theorem d2_25 : decode prog_23_method_3_code 25 = .ok (.bipush 32, 2) := by decide +kernel
theorem d2_27 : decode prog_23_method_3_code 27 = .ok (.if_icmp .ne 7, 3) := by decide +kernel
theorem d2_30 : decode prog_23_method_3_code 30 = .ok (.iconst 1, 1) := by decide +kernel
theorem d2_31 : decode prog_23_method_3_code 31 = .ok (.goto 4, 3) := by decide +kernel
theorem d2_34 : decode prog_23_method_3_code 34 = .ok (.iconst 0, 1) := by decide +kernel
theorem d2_35 : decode prog_23_method_3_code 35 = .ok (.ireturn, 1) := by decide +kernel
theorem pn_2 : plainName "com/example/sapsucker/sapsucker/util/Whitespace" = true := by first | (simp [plainName, overriddenIn]; done) | decide +kernel
theorem ef_2 (m : MethodId) (x0 : Int32) : entryFrame m #[(.int x0)] 1 = mkF m 0 #[.val (.int x0)] [] := by first | (simp [entryFrame, mkF, argsToLocals, Value.category]; done) | rfl
def v2_35_0 (p1 : Int32) : Int32 := (if p1 = (9 : Int32) then (1 : Int32) else (if p1 = (10 : Int32) then (1 : Int32) else (if p1 = (12 : Int32) then (1 : Int32) else (if p1 = (13 : Int32) then (1 : Int32) else (if p1 = (32 : Int32) then (1 : Int32) else (0 : Int32))))))
def f2 (p1 : Int32) : Int32 :=
  (nar .boolean (v2_35_0 p1))
def Q2 (Z : State) (p1 : Int32) (h0 : Heap) (n0 : Nat) (v : Option Value) (h : Heap) (L : List Loc) : Prop := v = some (.int (f2 p1)) ∧ Fr n0 L ∧ h = h0
set_option maxRecDepth 65536 in
set_option maxHeartbeats 40000000 in
theorem rm2 (l : Launch) (Z : State) (a0 : Array Value) (hw : ∀ d ∈ tables_1, d.before a0 Z = true) (ws : List Jvm.Cond) (p1 : Int32) (h0 : Heap) (n0 : Nat) (Z0 : n0 ≤ h0.size) :
    MetFree l (⟨"com/example/sapsucker/sapsucker/util/Whitespace", "isAsciiWhitespace", "(I)Z"⟩ : MethodName) (head1 (Jvm.Cond.code (⟨"com/example/sapsucker/sapsucker/util/Whitespace", "isAsciiWhitespace", "(I)Z"⟩ : MethodName) prog_23_method_3_code 1 (some .boolean) :: ws) ({ frames := 0, cells := 0, slots := 0, locals := 0 } : Room)) (fun a U => a = #[(.int p1)] ∧ Z.Warmed39 U.vm ∧ U.heap = h0) (fun _ _ _ _ _ => True) (fun _ U o U' => ∃ v L, o = .returned v ∧ Q2 Z p1 h0 n0 v U'.heap L ∧ FrameEnd U o U' L ({ frames := 0, cells := 0, slots := 0, locals := 0 } : Room).cells ({ frames := 0, cells := 0, slots := 0, locals := 0 } : Room).slots) := by
  refine MetFree.of_bodySF (plainFor_of_name pn_2) hisR ?_
  intro p e s m args below meth c s₁ Bd hml0 hP hK
  obtain ⟨rfl, hZ, hh⟩ := hP
  have hx := Bd.exec
  have hby := Bd.bytes
  have hml : c.maxLocals = 1 := hml0
  have hown : s.vm.findClass "com/example/sapsucker/sapsucker/util/Whitespace" = some m.cls := findClass_of_methodNamed Bd.named
  have hnm := (name_of_methodNamed Bd.named Bd.method).1
  have X0 : Stand p l e ({ frames := 0, cells := 0, slots := 0, locals := 0 } : Room) s m #[(.int p1)] below meth c s₁ [] 0 0 := Stand.of_body Bd
  have e0 : s₁.heap = h0 := by rw [← hh, Bd.state]; rfl
  have N0 := Fr.nil n0
  refine Goes.via (next := s₁.setTop (mkF m 0 #[.val (.int p1)] [])) (fun t k => castTop (ef_2 m p1) k) ?_
  refine Goes.via (fun t k => XS.iloadN X0.here hx rfl (hb hby d2_0) rfl k) ?_
  show Goes p e below (s₁.setTop (mkF m 1 #[.val (.int p1)] [(.int p1)])) _
  refine Goes.via (fun t k => XS.bipush X0.here hx rfl (hb hby d2_1) k) ?_
  show Goes p e below (s₁.setTop (mkF m 3 #[.val (.int p1)] [(.int (9 : Int32)), (.int p1)])) _
  refine Goes.via (next := s₁.setTop (mkF m 35 #[.val (.int p1)] [(.int (v2_35_0 p1))])) (fun t k => ?_) ?_
  · by_cases hc3_1 : p1 = (9 : Int32)
    · refine XS.icmpYes X0.here hx rfl (pc0 := 3) (pc' := 30) rfl (hb hby d2_3) rfl (teq hc3_1).1 (by decide) (by decide) ?_
      show Steps p.tables e below (s₁.setTop (mkF m 30 #[.val (.int p1)] [])) _
      refine XS.iconst X0.here hx rfl (hb hby d2_30) ?_
      show Steps p.tables e below (s₁.setTop (mkF m 31 #[.val (.int p1)] [(.int (1 : Int32))])) _
      refine XS.goto X0.here hx rfl (pc0 := 31) (pc' := 35) rfl (hb hby d2_31) (by decide) (by decide) ?_
      show Steps p.tables e below (s₁.setTop (mkF m 35 #[.val (.int p1)] [(.int (1 : Int32))])) _
      simpa only [v2_35_0, if_pos hc3_1] using k
    · refine XS.icmpNo X0.here hx rfl (hb hby d2_3) rfl (feq hc3_1).1 ?_
      show Steps p.tables e below (s₁.setTop (mkF m 6 #[.val (.int p1)] [])) _
      refine XS.iloadN X0.here hx rfl (hb hby d2_6) rfl ?_
      show Steps p.tables e below (s₁.setTop (mkF m 7 #[.val (.int p1)] [(.int p1)])) _
      refine XS.bipush X0.here hx rfl (hb hby d2_7) ?_
      show Steps p.tables e below (s₁.setTop (mkF m 9 #[.val (.int p1)] [(.int (10 : Int32)), (.int p1)])) _
      by_cases hc9_2 : p1 = (10 : Int32)
      · refine XS.icmpYes X0.here hx rfl (pc0 := 9) (pc' := 30) rfl (hb hby d2_9) rfl (teq hc9_2).1 (by decide) (by decide) ?_
        show Steps p.tables e below (s₁.setTop (mkF m 30 #[.val (.int p1)] [])) _
        refine XS.iconst X0.here hx rfl (hb hby d2_30) ?_
        show Steps p.tables e below (s₁.setTop (mkF m 31 #[.val (.int p1)] [(.int (1 : Int32))])) _
        refine XS.goto X0.here hx rfl (pc0 := 31) (pc' := 35) rfl (hb hby d2_31) (by decide) (by decide) ?_
        show Steps p.tables e below (s₁.setTop (mkF m 35 #[.val (.int p1)] [(.int (1 : Int32))])) _
        simpa only [v2_35_0, if_neg hc3_1, if_pos hc9_2] using k
      · refine XS.icmpNo X0.here hx rfl (hb hby d2_9) rfl (feq hc9_2).1 ?_
        show Steps p.tables e below (s₁.setTop (mkF m 12 #[.val (.int p1)] [])) _
        refine XS.iloadN X0.here hx rfl (hb hby d2_12) rfl ?_
        show Steps p.tables e below (s₁.setTop (mkF m 13 #[.val (.int p1)] [(.int p1)])) _
        refine XS.bipush X0.here hx rfl (hb hby d2_13) ?_
        show Steps p.tables e below (s₁.setTop (mkF m 15 #[.val (.int p1)] [(.int (12 : Int32)), (.int p1)])) _
        by_cases hc15_3 : p1 = (12 : Int32)
        · refine XS.icmpYes X0.here hx rfl (pc0 := 15) (pc' := 30) rfl (hb hby d2_15) rfl (teq hc15_3).1 (by decide) (by decide) ?_
          show Steps p.tables e below (s₁.setTop (mkF m 30 #[.val (.int p1)] [])) _
          refine XS.iconst X0.here hx rfl (hb hby d2_30) ?_
          show Steps p.tables e below (s₁.setTop (mkF m 31 #[.val (.int p1)] [(.int (1 : Int32))])) _
          refine XS.goto X0.here hx rfl (pc0 := 31) (pc' := 35) rfl (hb hby d2_31) (by decide) (by decide) ?_
          show Steps p.tables e below (s₁.setTop (mkF m 35 #[.val (.int p1)] [(.int (1 : Int32))])) _
          simpa only [v2_35_0, if_neg hc3_1, if_neg hc9_2, if_pos hc15_3] using k
        · refine XS.icmpNo X0.here hx rfl (hb hby d2_15) rfl (feq hc15_3).1 ?_
          show Steps p.tables e below (s₁.setTop (mkF m 18 #[.val (.int p1)] [])) _
          refine XS.iloadN X0.here hx rfl (hb hby d2_18) rfl ?_
          show Steps p.tables e below (s₁.setTop (mkF m 19 #[.val (.int p1)] [(.int p1)])) _
          refine XS.bipush X0.here hx rfl (hb hby d2_19) ?_
          show Steps p.tables e below (s₁.setTop (mkF m 21 #[.val (.int p1)] [(.int (13 : Int32)), (.int p1)])) _
          by_cases hc21_4 : p1 = (13 : Int32)
          · refine XS.icmpYes X0.here hx rfl (pc0 := 21) (pc' := 30) rfl (hb hby d2_21) rfl (teq hc21_4).1 (by decide) (by decide) ?_
            show Steps p.tables e below (s₁.setTop (mkF m 30 #[.val (.int p1)] [])) _
            refine XS.iconst X0.here hx rfl (hb hby d2_30) ?_
            show Steps p.tables e below (s₁.setTop (mkF m 31 #[.val (.int p1)] [(.int (1 : Int32))])) _
            refine XS.goto X0.here hx rfl (pc0 := 31) (pc' := 35) rfl (hb hby d2_31) (by decide) (by decide) ?_
            show Steps p.tables e below (s₁.setTop (mkF m 35 #[.val (.int p1)] [(.int (1 : Int32))])) _
            simpa only [v2_35_0, if_neg hc3_1, if_neg hc9_2, if_neg hc15_3, if_pos hc21_4] using k
          · refine XS.icmpNo X0.here hx rfl (hb hby d2_21) rfl (feq hc21_4).1 ?_
            show Steps p.tables e below (s₁.setTop (mkF m 24 #[.val (.int p1)] [])) _
            refine XS.iloadN X0.here hx rfl (hb hby d2_24) rfl ?_
            show Steps p.tables e below (s₁.setTop (mkF m 25 #[.val (.int p1)] [(.int p1)])) _
            refine XS.bipush X0.here hx rfl (hb hby d2_25) ?_
            show Steps p.tables e below (s₁.setTop (mkF m 27 #[.val (.int p1)] [(.int (32 : Int32)), (.int p1)])) _
            by_cases hc27_5 : p1 = (32 : Int32)
            · refine XS.icmpNo X0.here hx rfl (hb hby d2_27) rfl (teq hc27_5).2 ?_
              show Steps p.tables e below (s₁.setTop (mkF m 30 #[.val (.int p1)] [])) _
              refine XS.iconst X0.here hx rfl (hb hby d2_30) ?_
              show Steps p.tables e below (s₁.setTop (mkF m 31 #[.val (.int p1)] [(.int (1 : Int32))])) _
              refine XS.goto X0.here hx rfl (pc0 := 31) (pc' := 35) rfl (hb hby d2_31) (by decide) (by decide) ?_
              show Steps p.tables e below (s₁.setTop (mkF m 35 #[.val (.int p1)] [(.int (1 : Int32))])) _
              simpa only [v2_35_0, if_neg hc3_1, if_neg hc9_2, if_neg hc15_3, if_neg hc21_4, if_pos hc27_5] using k
            · refine XS.icmpYes X0.here hx rfl (pc0 := 27) (pc' := 34) rfl (hb hby d2_27) rfl (feq hc27_5).2 (by decide) (by decide) ?_
              show Steps p.tables e below (s₁.setTop (mkF m 34 #[.val (.int p1)] [])) _
              refine XS.iconst X0.here hx rfl (hb hby d2_34) ?_
              show Steps p.tables e below (s₁.setTop (mkF m 35 #[.val (.int p1)] [(.int (0 : Int32))])) _
              simpa only [v2_35_0, if_neg hc3_1, if_neg hc9_2, if_neg hc15_3, if_neg hc21_4, if_neg hc27_5] using k
  show Goes p e below (s₁.setTop (mkF m 35 #[.val (.int p1)] [(.int (v2_35_0 p1))])) _
  obtain ⟨fs, hr, hrun, hended, hW, hsame⟩ := X0.leave (v := some (.int (nar .boolean (v2_35_0 p1)))) (fun h => by rw [Bd.returns] at h; cases h)
  refine ⟨_, _, ?_, hrun, hended, _, _, rfl, ?_, ⟨_, rfl⟩, hW, hsame.mono (by decide) (by decide)⟩
  · exact retN X0 hx (t := .boolean) Bd.returns (by simp) (hb hby d2_35) hr
  · show Q2 Z p1 h0 n0 _ s₁.heap _
    rw [e0]
    exact ⟨congrArg some (congrArg _ rfl), N0, rfl⟩
theorem pn_0 : plainName "com/example/sapsucker/sapsucker/util/WhitespaceIsAsciiWhitespacePinLaw" = true := by first | (simp [plainName, overriddenIn]; done) | decide +kernel
theorem pd_0_0 : parseMethodDescriptor "(II)I" = some ⟨[.int, .int], some .int⟩ := by decide +kernel
theorem pd_0_1 : parseMethodDescriptor "(I)Z" = some ⟨[.int], some .boolean⟩ := by decide +kernel
theorem ef_0 (m : MethodId) (x0 : Int32) (x1 : Int32) : entryFrame m #[(.int x0), (.int x1)] maxLocals = mkF m 0 #[.val (.int x0), .val (.int x1), .unset, .unset, .unset, .unset] [] := by first | (simp [entryFrame, mkF, argsToLocals, Value.category, maxLocals]; done) | rfl
def v0_35_0 (p1 : Int32) (p2 : Int32) : Int32 := (if (f1 p1 p2) < (0 : Int32) then (0 : Int32) else (if (f1 p1 p2) < (64 : Int32) then (if ((((4294981120 : Int64).toUInt64 >>> ((f1 p1 p2) &&& 0x3f).toInt64.toUInt64).toInt64) &&& (1 : Int64)) = (0 : Int64) then (0 : Int32) else (1 : Int32)) else (0 : Int32)))
def v0_51_1 (p1 : Int32) (p2 : Int32) : Int32 := (if (f2 (f1 p1 p2)) = (v0_35_0 p1 p2) then (1 : Int32) else (0 : Int32))
def f0 (p1 : Int32) (p2 : Int32) : Int32 :=
  (nar .boolean (v0_51_1 p1 p2))
def Q0 (Z : State) (p1 : Int32) (p2 : Int32) (h0 : Heap) (n0 : Nat) (v : Option Value) (h : Heap) (L : List Loc) : Prop := v = some (.int (f0 p1 p2)) ∧ Fr n0 L ∧ h = h0
set_option maxRecDepth 65536 in
set_option maxHeartbeats 40000000 in
theorem rm0 (l : Launch) (Z : State) (a0 : Array Value) (hw : ∀ d ∈ tables_1, d.before a0 Z = true) (ws : List Jvm.Cond) (p1 : Int32) (p2 : Int32) (h0 : Heap) (n0 : Nat) (Z0 : n0 ≤ h0.size) :
    MetFree l x (head1 (Jvm.Cond.code x code maxLocals ret :: ws) room_1) (fun a U => a = #[(.int p1), (.int p2)] ∧ Z.Warmed39 U.vm ∧ U.heap = h0) (fun _ _ _ _ _ => True) (fun _ U o U' => ∃ v L, o = .returned v ∧ Q0 Z p1 p2 h0 n0 v U'.heap L ∧ FrameEnd U o U' L room_1.cells room_1.slots) := by
  refine MetFree.of_bodySF (plainFor_of_name pn_0) hisR ?_
  intro p e s m args below meth c s₁ Bd hml0 hP hK
  obtain ⟨rfl, hZ, hh⟩ := hP
  have hx := Bd.exec
  have hby := Bd.bytes
  have hml : c.maxLocals = 6 := hml0
  have hown : s.vm.findClass "com/example/sapsucker/sapsucker/util/WhitespaceIsAsciiWhitespacePinLaw" = some m.cls := findClass_of_methodNamed Bd.named
  have hnm := (name_of_methodNamed Bd.named Bd.method).1
  have X0 : Stand p l e room_1 s m #[(.int p1), (.int p2)] below meth c s₁ [] 0 0 := Stand.of_body Bd
  have e0 : s₁.heap = h0 := by rw [← hh, Bd.state]; rfl
  have N0 := Fr.nil n0
  refine Goes.via (next := s₁.setTop (mkF m 0 #[.val (.int p1), .val (.int p2), .unset, .unset, .unset, .unset] [])) (fun t k => castTop (ef_0 m p1 p2) k) ?_
  refine Goes.via (fun t k => XS.iloadN X0.here hx rfl (hb hby at_0) rfl k) ?_
  show Goes p e below (s₁.setTop (mkF m 1 #[.val (.int p1), .val (.int p2), .unset, .unset, .unset, .unset] [(.int p1)])) _
  refine Goes.via (fun t k => XS.iloadN X0.here hx rfl (hb hby at_1) rfl k) ?_
  show Goes p e below (s₁.setTop (mkF m 2 #[.val (.int p1), .val (.int p2), .unset, .unset, .unset, .unset] [(.int p2), (.int p1)])) _
  obtain ⟨_, _, ⟨T1, L1, k1, n1⟩, -, X1, ⟨Lc1, hQ1, l1, y1, z1⟩, st1⟩ := Jvm.LawKit.callS X0 hx (y := (⟨"com/example/sapsucker/sapsucker/util/WhitespaceIsAsciiWhitespacePinLaw", "pick", "(II)I"⟩ : MethodName)) hown (mvT hZ (hw _ (List.mem_of_getElem? (i := 0) rfl))) (mvT hZ (hw _ (List.mem_of_getElem? (i := 1) rfl))) (mvT hZ (hw _ (List.mem_of_getElem? (i := 2) rfl))) (mvT hZ (hw _ (List.mem_of_getElem? (i := 3) rfl))) (by decide) (backOf (W := 0) (rm1 l Z a0 hw [] p1 p2 h0 n0 Z0 ) hZ (hw _ (List.mem_of_getElem? (i := 3) rfl)) (hw _ (List.mem_of_getElem? (i := 2) rfl)) (by decide) (by decide)) (g := (mkF m 2 #[.val (.int p1), .val (.int p2), .unset, .unset, .unset, .unset] [(.int p2), (.int p1)])) rfl (by rw [hml]; rfl) (argsL := [(.int p1), (.int p2)]) (rest := []) (lenOf pd_0_0 rfl) rfl (by show 2 * 0 + _ ≤ _; exact Nat.le_of_eq rfl) (hb hby at_2) (fun _ _ => ⟨rfl, e0, (by decide : 0 + 0 ≤ _), (by decide : 0 + 0 ≤ _)⟩)
  dsimp only [Pt.U, Pt.locs, Pt.cells, Pt.slots] at X1 l1 y1 z1 st1 hQ1
  subst l1 y1 z1
  obtain ⟨rfl, N1q, er1⟩ := hQ1
  have e1 : T1.heap = h0 := er1
  have N1 := Fr.app N0 N1q
  refine Goes.via st1 ?_
  show Goes p e below (T1.setTop (mkF m 5 #[.val (.int p1), .val (.int p2), .unset, .unset, .unset, .unset] [(.int (f1 p1 p2))])) _
  refine Goes.via (fun t k => XS.istoreN X1.here hx rfl (hb hby at_5) rfl (l' := #[.val (.int p1), .val (.int p2), .val (.int (f1 p1 p2)), .unset, .unset, .unset]) rfl k) ?_
  show Goes p e below (T1.setTop (mkF m 6 #[.val (.int p1), .val (.int p2), .val (.int (f1 p1 p2)), .unset, .unset, .unset] [])) _
  refine Goes.via (fun t k => X1.ldc2Long hx hown (mvT hZ (hw _ (List.mem_of_getElem? (i := 4) rfl))) (g := (mkF m 6 #[.val (.int p1), .val (.int p2), .val (.int (f1 p1 p2)), .unset, .unset, .unset] [])) rfl (hb hby at_6) _ k) ?_
  show Goes p e below (T1.setTop (mkF m 9 #[.val (.int p1), .val (.int p2), .val (.int (f1 p1 p2)), .unset, .unset, .unset] [(.long (4294981120 : Int64))])) _
  refine Goes.via (fun t k => XS.lstoreN X1.here hx rfl (hb hby at_9) rfl (l' := #[.val (.int p1), .val (.int p2), .val (.int (f1 p1 p2)), .val (.long (4294981120 : Int64)), .second, .unset]) rfl k) ?_
  show Goes p e below (T1.setTop (mkF m 10 #[.val (.int p1), .val (.int p2), .val (.int (f1 p1 p2)), .val (.long (4294981120 : Int64)), .second, .unset] [])) _
  refine Goes.via (fun t k => XS.iloadN X1.here hx rfl (hb hby at_10) rfl k) ?_
  show Goes p e below (T1.setTop (mkF m 11 #[.val (.int p1), .val (.int p2), .val (.int (f1 p1 p2)), .val (.long (4294981120 : Int64)), .second, .unset] [(.int (f1 p1 p2))])) _
  refine Goes.via (next := T1.setTop (mkF m 35 #[.val (.int p1), .val (.int p2), .val (.int (f1 p1 p2)), .val (.long (4294981120 : Int64)), .second, .unset] [(.int (v0_35_0 p1 p2))])) (fun t k => ?_) ?_
  · by_cases hc11_2 : (f1 p1 p2) < (0 : Int32)
    · refine XS.ifYes X1.here hx rfl (pc0 := 11) (pc' := 34) rfl (hb hby at_11) rfl ((if0 _ _).trans (tlt hc11_2).1) (by decide) (by decide) ?_
      show Steps p.tables e below (T1.setTop (mkF m 34 #[.val (.int p1), .val (.int p2), .val (.int (f1 p1 p2)), .val (.long (4294981120 : Int64)), .second, .unset] [])) _
      refine XS.iconst X1.here hx rfl (hb hby at_34) ?_
      show Steps p.tables e below (T1.setTop (mkF m 35 #[.val (.int p1), .val (.int p2), .val (.int (f1 p1 p2)), .val (.long (4294981120 : Int64)), .second, .unset] [(.int (0 : Int32))])) _
      simpa only [v0_35_0, if_pos hc11_2] using k
    · refine XS.ifNo X1.here hx rfl (hb hby at_11) rfl ((if0 _ _).trans (flt hc11_2).1) ?_
      show Steps p.tables e below (T1.setTop (mkF m 14 #[.val (.int p1), .val (.int p2), .val (.int (f1 p1 p2)), .val (.long (4294981120 : Int64)), .second, .unset] [])) _
      refine XS.iloadN X1.here hx rfl (hb hby at_14) rfl ?_
      show Steps p.tables e below (T1.setTop (mkF m 15 #[.val (.int p1), .val (.int p2), .val (.int (f1 p1 p2)), .val (.long (4294981120 : Int64)), .second, .unset] [(.int (f1 p1 p2))])) _
      refine XS.bipush X1.here hx rfl (hb hby at_15) ?_
      show Steps p.tables e below (T1.setTop (mkF m 17 #[.val (.int p1), .val (.int p2), .val (.int (f1 p1 p2)), .val (.long (4294981120 : Int64)), .second, .unset] [(.int (64 : Int32)), (.int (f1 p1 p2))])) _
      by_cases hc17_3 : (f1 p1 p2) < (64 : Int32)
      · refine XS.icmpNo X1.here hx rfl (hb hby at_17) rfl (tlt hc17_3).2.1 ?_
        show Steps p.tables e below (T1.setTop (mkF m 20 #[.val (.int p1), .val (.int p2), .val (.int (f1 p1 p2)), .val (.long (4294981120 : Int64)), .second, .unset] [])) _
        refine XS.lloadN X1.here hx rfl (hb hby at_20) rfl ?_
        show Steps p.tables e below (T1.setTop (mkF m 21 #[.val (.int p1), .val (.int p2), .val (.int (f1 p1 p2)), .val (.long (4294981120 : Int64)), .second, .unset] [(.long (4294981120 : Int64))])) _
        refine XS.iloadN X1.here hx rfl (hb hby at_21) rfl ?_
        show Steps p.tables e below (T1.setTop (mkF m 22 #[.val (.int p1), .val (.int p2), .val (.int (f1 p1 p2)), .val (.long (4294981120 : Int64)), .second, .unset] [(.int (f1 p1 p2)), (.long (4294981120 : Int64))])) _
        refine XS.lushr X1.here hx rfl (hb hby at_22) rfl ?_
        show Steps p.tables e below (T1.setTop (mkF m 23 #[.val (.int p1), .val (.int p2), .val (.int (f1 p1 p2)), .val (.long (4294981120 : Int64)), .second, .unset] [(.long (((4294981120 : Int64).toUInt64 >>> ((f1 p1 p2) &&& 0x3f).toInt64.toUInt64).toInt64))])) _
        refine XS.lconst X1.here hx rfl (hb hby at_23) ?_
        show Steps p.tables e below (T1.setTop (mkF m 24 #[.val (.int p1), .val (.int p2), .val (.int (f1 p1 p2)), .val (.long (4294981120 : Int64)), .second, .unset] [(.long (1 : Int64)), (.long (((4294981120 : Int64).toUInt64 >>> ((f1 p1 p2) &&& 0x3f).toInt64.toUInt64).toInt64))])) _
        refine XS.land X1.here hx rfl (hb hby at_24) rfl ?_
        show Steps p.tables e below (T1.setTop (mkF m 25 #[.val (.int p1), .val (.int p2), .val (.int (f1 p1 p2)), .val (.long (4294981120 : Int64)), .second, .unset] [(.long ((((4294981120 : Int64).toUInt64 >>> ((f1 p1 p2) &&& 0x3f).toInt64.toUInt64).toInt64) &&& (1 : Int64)))])) _
        refine XS.lconst X1.here hx rfl (hb hby at_25) ?_
        show Steps p.tables e below (T1.setTop (mkF m 26 #[.val (.int p1), .val (.int p2), .val (.int (f1 p1 p2)), .val (.long (4294981120 : Int64)), .second, .unset] [(.long (0 : Int64)), (.long ((((4294981120 : Int64).toUInt64 >>> ((f1 p1 p2) &&& 0x3f).toInt64.toUInt64).toInt64) &&& (1 : Int64)))])) _
        refine XS.lcmp X1.here hx rfl (hb hby at_26) rfl ?_
        show Steps p.tables e below (T1.setTop (mkF m 27 #[.val (.int p1), .val (.int p2), .val (.int (f1 p1 p2)), .val (.long (4294981120 : Int64)), .second, .unset] [(.int (lcmpW ((((4294981120 : Int64).toUInt64 >>> ((f1 p1 p2) &&& 0x3f).toInt64.toUInt64).toInt64) &&& (1 : Int64)) (0 : Int64)))])) _
        by_cases hc27_4 : ((((4294981120 : Int64).toUInt64 >>> ((f1 p1 p2) &&& 0x3f).toInt64.toUInt64).toInt64) &&& (1 : Int64)) = (0 : Int64)
        · refine XS.ifYes X1.here hx rfl (pc0 := 27) (pc' := 34) rfl (hb hby at_27) rfl ((if0 _ _).trans (teq ((lw_eq _ _).mpr hc27_4)).1) (by decide) (by decide) ?_
          show Steps p.tables e below (T1.setTop (mkF m 34 #[.val (.int p1), .val (.int p2), .val (.int (f1 p1 p2)), .val (.long (4294981120 : Int64)), .second, .unset] [])) _
          refine XS.iconst X1.here hx rfl (hb hby at_34) ?_
          show Steps p.tables e below (T1.setTop (mkF m 35 #[.val (.int p1), .val (.int p2), .val (.int (f1 p1 p2)), .val (.long (4294981120 : Int64)), .second, .unset] [(.int (0 : Int32))])) _
          simpa only [v0_35_0, if_neg hc11_2, if_pos hc17_3, if_pos hc27_4] using k
        · refine XS.ifNo X1.here hx rfl (hb hby at_27) rfl ((if0 _ _).trans (feq (fun q => hc27_4 ((lw_eq _ _).mp q))).1) ?_
          show Steps p.tables e below (T1.setTop (mkF m 30 #[.val (.int p1), .val (.int p2), .val (.int (f1 p1 p2)), .val (.long (4294981120 : Int64)), .second, .unset] [])) _
          refine XS.iconst X1.here hx rfl (hb hby at_30) ?_
          show Steps p.tables e below (T1.setTop (mkF m 31 #[.val (.int p1), .val (.int p2), .val (.int (f1 p1 p2)), .val (.long (4294981120 : Int64)), .second, .unset] [(.int (1 : Int32))])) _
          refine XS.goto X1.here hx rfl (pc0 := 31) (pc' := 35) rfl (hb hby at_31) (by decide) (by decide) ?_
          show Steps p.tables e below (T1.setTop (mkF m 35 #[.val (.int p1), .val (.int p2), .val (.int (f1 p1 p2)), .val (.long (4294981120 : Int64)), .second, .unset] [(.int (1 : Int32))])) _
          simpa only [v0_35_0, if_neg hc11_2, if_pos hc17_3, if_neg hc27_4] using k
      · refine XS.icmpYes X1.here hx rfl (pc0 := 17) (pc' := 34) rfl (hb hby at_17) rfl (flt hc17_3).2.1 (by decide) (by decide) ?_
        show Steps p.tables e below (T1.setTop (mkF m 34 #[.val (.int p1), .val (.int p2), .val (.int (f1 p1 p2)), .val (.long (4294981120 : Int64)), .second, .unset] [])) _
        refine XS.iconst X1.here hx rfl (hb hby at_34) ?_
        show Steps p.tables e below (T1.setTop (mkF m 35 #[.val (.int p1), .val (.int p2), .val (.int (f1 p1 p2)), .val (.long (4294981120 : Int64)), .second, .unset] [(.int (0 : Int32))])) _
        simpa only [v0_35_0, if_neg hc11_2, if_neg hc17_3] using k
  show Goes p e below (T1.setTop (mkF m 35 #[.val (.int p1), .val (.int p2), .val (.int (f1 p1 p2)), .val (.long (4294981120 : Int64)), .second, .unset] [(.int (v0_35_0 p1 p2))])) _
  refine Goes.via (fun t k => XS.istore X1.here hx rfl (hb hby at_35) rfl (l' := #[.val (.int p1), .val (.int p2), .val (.int (f1 p1 p2)), .val (.long (4294981120 : Int64)), .second, .val (.int (v0_35_0 p1 p2))]) rfl k) ?_
  show Goes p e below (T1.setTop (mkF m 37 #[.val (.int p1), .val (.int p2), .val (.int (f1 p1 p2)), .val (.long (4294981120 : Int64)), .second, .val (.int (v0_35_0 p1 p2))] [])) _
  refine Goes.via (fun t k => XS.iloadN X1.here hx rfl (hb hby at_37) rfl k) ?_
  show Goes p e below (T1.setTop (mkF m 38 #[.val (.int p1), .val (.int p2), .val (.int (f1 p1 p2)), .val (.long (4294981120 : Int64)), .second, .val (.int (v0_35_0 p1 p2))] [(.int (f1 p1 p2))])) _
  obtain ⟨_, _, ⟨T5, L5, k5, n5⟩, -, X5, ⟨Lc5, hQ5, l5, y5, z5⟩, st5⟩ := Jvm.LawKit.callS X1 hx (y := (⟨"com/example/sapsucker/sapsucker/util/Whitespace", "isAsciiWhitespace", "(I)Z"⟩ : MethodName)) hown (mvT hZ (hw _ (List.mem_of_getElem? (i := 5) rfl))) (mvT hZ (hw _ (List.mem_of_getElem? (i := 6) rfl))) (mvT hZ (hw _ (List.mem_of_getElem? (i := 7) rfl))) (mvT hZ (hw _ (List.mem_of_getElem? (i := 8) rfl))) (by decide) (backOf (W := 0) (rm2 l Z a0 hw [] (f1 p1 p2) h0 n0 Z0 ) hZ (hw _ (List.mem_of_getElem? (i := 8) rfl)) (hw _ (List.mem_of_getElem? (i := 7) rfl)) (by decide) (by decide)) (g := (mkF m 38 #[.val (.int p1), .val (.int p2), .val (.int (f1 p1 p2)), .val (.long (4294981120 : Int64)), .second, .val (.int (v0_35_0 p1 p2))] [(.int (f1 p1 p2))])) rfl (by rw [hml]; rfl) (argsL := [(.int (f1 p1 p2))]) (rest := []) (lenOf pd_0_1 rfl) rfl (by show 2 * 0 + _ ≤ _; exact Nat.le_of_eq rfl) (hb hby at_38) (fun _ _ => ⟨rfl, e1, (by decide : 0 + 0 ≤ _), (by decide : 0 + 0 ≤ _)⟩)
  dsimp only [Pt.U, Pt.locs, Pt.cells, Pt.slots] at X5 l5 y5 z5 st5 hQ5
  subst l5 y5 z5
  obtain ⟨rfl, N5q, er5⟩ := hQ5
  have e5 : T5.heap = h0 := er5
  have N5 := Fr.app N1 N5q
  refine Goes.via st5 ?_
  show Goes p e below (T5.setTop (mkF m 41 #[.val (.int p1), .val (.int p2), .val (.int (f1 p1 p2)), .val (.long (4294981120 : Int64)), .second, .val (.int (v0_35_0 p1 p2))] [(.int (f2 (f1 p1 p2)))])) _
  refine Goes.via (fun t k => XS.iload X5.here hx rfl (hb hby at_41) rfl k) ?_
  show Goes p e below (T5.setTop (mkF m 43 #[.val (.int p1), .val (.int p2), .val (.int (f1 p1 p2)), .val (.long (4294981120 : Int64)), .second, .val (.int (v0_35_0 p1 p2))] [(.int (v0_35_0 p1 p2)), (.int (f2 (f1 p1 p2)))])) _
  refine Goes.via (next := T5.setTop (mkF m 51 #[.val (.int p1), .val (.int p2), .val (.int (f1 p1 p2)), .val (.long (4294981120 : Int64)), .second, .val (.int (v0_35_0 p1 p2))] [(.int (v0_51_1 p1 p2))])) (fun t k => ?_) ?_
  · by_cases hc43_6 : (f2 (f1 p1 p2)) = (v0_35_0 p1 p2)
    · refine XS.icmpNo X5.here hx rfl (hb hby at_43) rfl (teq hc43_6).2 ?_
      show Steps p.tables e below (T5.setTop (mkF m 46 #[.val (.int p1), .val (.int p2), .val (.int (f1 p1 p2)), .val (.long (4294981120 : Int64)), .second, .val (.int (v0_35_0 p1 p2))] [])) _
      refine XS.iconst X5.here hx rfl (hb hby at_46) ?_
      show Steps p.tables e below (T5.setTop (mkF m 47 #[.val (.int p1), .val (.int p2), .val (.int (f1 p1 p2)), .val (.long (4294981120 : Int64)), .second, .val (.int (v0_35_0 p1 p2))] [(.int (1 : Int32))])) _
      refine XS.goto X5.here hx rfl (pc0 := 47) (pc' := 51) rfl (hb hby at_47) (by decide) (by decide) ?_
      show Steps p.tables e below (T5.setTop (mkF m 51 #[.val (.int p1), .val (.int p2), .val (.int (f1 p1 p2)), .val (.long (4294981120 : Int64)), .second, .val (.int (v0_35_0 p1 p2))] [(.int (1 : Int32))])) _
      simpa only [v0_51_1, if_pos hc43_6] using k
    · refine XS.icmpYes X5.here hx rfl (pc0 := 43) (pc' := 50) rfl (hb hby at_43) rfl (feq hc43_6).2 (by decide) (by decide) ?_
      show Steps p.tables e below (T5.setTop (mkF m 50 #[.val (.int p1), .val (.int p2), .val (.int (f1 p1 p2)), .val (.long (4294981120 : Int64)), .second, .val (.int (v0_35_0 p1 p2))] [])) _
      refine XS.iconst X5.here hx rfl (hb hby at_50) ?_
      show Steps p.tables e below (T5.setTop (mkF m 51 #[.val (.int p1), .val (.int p2), .val (.int (f1 p1 p2)), .val (.long (4294981120 : Int64)), .second, .val (.int (v0_35_0 p1 p2))] [(.int (0 : Int32))])) _
      simpa only [v0_51_1, if_neg hc43_6] using k
  show Goes p e below (T5.setTop (mkF m 51 #[.val (.int p1), .val (.int p2), .val (.int (f1 p1 p2)), .val (.long (4294981120 : Int64)), .second, .val (.int (v0_35_0 p1 p2))] [(.int (v0_51_1 p1 p2))])) _
  obtain ⟨fs, hr, hrun, hended, hW, hsame⟩ := X5.leave (v := some (.int (nar .boolean (v0_51_1 p1 p2)))) (fun h => by rw [Bd.returns] at h; cases h)
  refine ⟨_, _, ?_, hrun, hended, _, _, rfl, ?_, ⟨_, rfl⟩, hW, hsame.mono (by decide) (by decide)⟩
  · exact retN X5 hx (t := .boolean) Bd.returns (by simp) (hb hby at_51) hr
  · show Q0 Z p1 p2 h0 n0 _ T5.heap _
    rw [e5]
    exact ⟨congrArg some (congrArg _ rfl), N5, rfl⟩
theorem own_range {c : Int32} (k : Nat) (hk : k ≤ 1000) (h0 : ¬ c < 0) (h1 : c.toInt < k) : ∃ n : Fin k, c = Int32.ofNat n.val := by
  have e0 : (0 : Int32).toInt = 0 := by decide
  rw [Int32.lt_iff_toInt_lt, e0] at h0
  refine ⟨⟨c.toInt.toNat, by omega⟩, ?_⟩
  apply Int32.toInt_inj.mp
  rw [Int32.toInt_ofNat_of_lt (by omega)]
  show c.toInt = ((c.toInt.toNat : Nat) : Int)
  omega
theorem own_few : ∀ n : Fin 64, f2 (Int32.ofNat n.val) = (if ((((4294981120 : Int64).toUInt64 >>> ((Int32.ofNat n.val) &&& 0x3f).toInt64.toUInt64).toInt64) &&& (1 : Int64)) = (0 : Int64) then (0 : Int32) else (1 : Int32)) := by decide +kernel
theorem own_f2 (c : Int32) : f2 c = (if c < (0 : Int32) then (0 : Int32) else (if c < (64 : Int32) then (if ((((4294981120 : Int64).toUInt64 >>> (c &&& 0x3f).toInt64.toUInt64).toInt64) &&& (1 : Int64)) = (0 : Int64) then (0 : Int32) else (1 : Int32)) else (0 : Int32))) := by
  have ne : ∀ z : Int32, (c < (0 : Int32) ∨ ¬ c < (64 : Int32)) → ¬ z < 0 → z < 64 → ¬ c = z := by
    intro z h a b q
    subst q
    rcases h with h | h
    · exact a h
    · exact h b
  by_cases h0 : c < (0 : Int32)
  · rw [if_pos h0]
    have n := fun z => ne z (Or.inl h0)
    simp only [f2, v2_35_0, if_neg (n 9 (by decide) (by decide)), if_neg (n 10 (by decide) (by decide)), if_neg (n 12 (by decide) (by decide)), if_neg (n 13 (by decide) (by decide)), if_neg (n 32 (by decide) (by decide))]
    decide
  · rw [if_neg h0]
    by_cases h1 : c < (64 : Int32)
    · rw [if_pos h1]
      have e1 : (64 : Int32).toInt = 64 := by decide
      obtain ⟨n, rfl⟩ := own_range 64 (by decide) h0 (by rw [Int32.lt_iff_toInt_lt, e1] at h1; exact h1)
      exact own_few n
    · rw [if_neg h1]
      have n := fun z => ne z (Or.inr h1)
      simp only [f2, v2_35_0, if_neg (n 9 (by decide) (by decide)), if_neg (n 10 (by decide) (by decide)), if_neg (n 12 (by decide) (by decide)), if_neg (n 13 (by decide) (by decide)), if_neg (n 32 (by decide) (by decide))]
      decide
theorem one_1 (i0 i1 : Int32) : f0 i0 i1 = 1 := by
  have h : f2 (f1 i0 i1) = v0_35_0 i0 i1 := own_f2 (f1 i0 i1)
  simp only [f0, v0_51_1, if_pos h]
  decide
set_option maxRecDepth 65536 in
set_option maxHeartbeats 40000000 in
theorem comes_1 {Post : Tables → Env → Array Value → State → Outcome → State → Prop} (hpost : ∀ tb e args s v u, (limb_1_1.after args s (.returned v) u = true ∧ limb_1_2.after args s (.returned v) u = true ∧ True) → FrameEnd s (.returned v) u (Jvm.fieldLocs frame_1_writes args s ++ Jvm.arrayLocs frame_1_arrays args s ++ Jvm.staticLocs frame_1_statics s) 0 0 → Post tb e args s (.returned v) u) :
    ArmFor flags0 classFile x code maxLocals ret World_1 tables_1 room_1 Calls_1 rest_1 Pre_1 Post := by
  intro l hfl _ _ p e ha hc hk s m args below hf hA hF happ hP
  obtain ⟨hcalls, hrest, hpre⟩ := hP
  obtain ⟨-, -, -, hnamed, -, -, -, hat⟩ := (Spec.applies_iff hf).mp happ
  obtain ⟨hg, hn⟩ := and_e (Cond.before_iff.mp (show (Jvm.Cond.and given_1 narrow_1).before args s = true from hpre))
  obtain ⟨g0, r0⟩ := and_e hg
  obtain ⟨w0, w1, rfl⟩ : ∃ w0 w1 : Value, args = #[w0, w1] := by
    have hs : args.size = 2 := by simpa [Cond.value, given_1] using g0
    obtain ⟨L⟩ := args
    match L, hs with
    | [w0, w1], _ => exact ⟨w0, w1, rfl⟩
  have hw := fun d (hd : d ∈ tables_1) => atoms_spec (ws := Jvm.Cond.code x code maxLocals ret :: tables_1) hat d (List.mem_cons_of_mem _ hd)
  obtain ⟨g1, r1⟩ := and_e r0
  have g2 := r1
  obtain ⟨i0, ei0⟩ := is_v g1
  obtain rfl : w0 = (.int i0) := Option.some.inj ei0
  obtain ⟨i1, ei1⟩ := is_v g2
  obtain rfl : w1 = (.int i1) := Option.some.inj ei1
  obtain ⟨n, o, h1, h2, h3, v, L, rfl, hQ, hq⟩ := rm0 l s _ hw tables_1 i0 i1  s.heap s.heap.size (Nat.le_refl _)  p e ha hc hk s m _ below hf ((Spec.applies_iff_loose hf).mp happ).1 ⟨rfl, State.Warmed39.refl s, rfl⟩ trivial
  obtain ⟨hv, N⟩ : v = some (.int 1) ∧ Fr s.heap.size L := ⟨by rw [hQ.1, one_1 i0 i1], hQ.2.1⟩
  subst hv
  refine ⟨n, _, h1, h2, h3, hpost _ _ _ _ _ _ ⟨Cond.after_iff.mpr rfl, Cond.after_iff.mpr (eq_i res_at (Term.int_eval (1)) rfl), trivial⟩ ⟨hq.1, hq.2.1, (hq.2.2.sift fun y hy => Or.inr (N y hy)).mono (by decide) (by decide)⟩⟩
theorem main_1_1 : Claimed_1_1 := comes_1 fun _ _ _ _ _ _ h hF => ⟨h.1, hF⟩
theorem main_1_2 : Claimed_1_2 := comes_1 fun _ _ _ _ _ _ h hF => ⟨h.2.1, hF⟩
end Jvm.Pilot.@@N@@
namespace Jvm.Pilot.@@N@@
open Jvm Jvm.ClassFile Sem Op Lib Jvm.Free Jvm.Stand Jvm.Pilot.@@N@@.Jvm.D
/-! MADE BY PROGRAM (witnessworld.py) out of the Statement's table words and the real class files: 9 classes; the members and pool entries that the words name. The judged class is class 1, her method 2. -/
namespace start1
open Jvm.ClassFile
def u (s : String) : CpInfo := .utf8 (stringToUtf16 s)
/-- a pool by its gaps: so many unusable entries, then the entry; so many at the end -/
def gap : Nat → List CpInfo → List CpInfo
  | 0, r => r
  | n + 1, r => .unusable :: gap n r
def poolList (es : List (Nat × CpInfo)) (last : Nat) : List CpInfo := es.foldr (fun e r => gap e.1 (e.2 :: r)) (gap last [])
def pool (es : List (Nat × CpInfo)) (last : Nat) : Array CpInfo := ⟨poolList es last⟩
def fileOf (pool : Array CpInfo) (this : Nat) (attrs : Array Attribute := #[]) (ms : Array MethodInfo := #[]) (fl : Nat := 33) (sup : Nat := 0) (ifs : Array Nat := #[]) (fds : Array FieldInfo := #[]) : ClassFile where
  minorVersion := 0
  majorVersion := 65
  constantPool := pool
  accessFlags := fl
  thisClass := this
  superClass := sup
  interfaces := ifs
  fields := fds
  methods := ms
  attributes := attrs
def plain (name : String) (sup : Option ClassId) : Class where
  name := name
  kind := .ordinary
  loader := none
  accessFlags := 33
  super := sup
  interfaces := #[]
  cf := none
  fields := #[]
  methods := #[]
  instanceTypes := #[]
  staticTypes := #[]
  resolved := #[]
  callSites := []
  init := .initialized
  statics := none
  mirror := none

def pool0 : Array CpInfo := pool [(5, u "<init>"), (0, u "()V"), (1, .class_ 10), (1, u "java/lang/Object")] 113

def k0m0 : Method := { name := "<init>", desc := "()V", sig := { parameters := [], returnType := none }, accessFlags := 1, code := none }
/-- java/lang/Object -/
def k0 : Class := { plain "java/lang/Object" none with
  accessFlags := 33
  interfaces := #[]
  cf := some (fileOf pool0 8 #[] #[{ accessFlags := 1, nameIndex := 5, descriptorIndex := 6, attributes := #[] }] 33 0 #[] #[])
  fields := #[]
  methods := #[k0m0]
  instanceTypes := #[]
  staticTypes := #[]
  resolved := Array.replicate 124 none
  statics := none }

def pool1 : Array CpInfo := pool [(2, .class_ 4), (1, u "java/lang/Object"), (0, u "<init>"), (0, u "()V"), (0, .methodref 8 9), (0, .class_ 10), (0, .nameAndType 11 12), (0, u "com/example/sapsucker/sapsucker/util/WhitespaceIsAsciiWhitespacePinLaw"), (0, u "pick"), (0, u "(II)I"), (0, .long 4294981120), (1, .methodref 16 17), (0, .class_ 18), (0, .nameAndType 19 20), (0, u "com/example/sapsucker/sapsucker/util/Whitespace"), (0, u "isAsciiWhitespace"), (0, u "(I)Z"), (3, u "law"), (0, u "(II)Z")] 2

def k1m0 : Method := { name := "<init>", desc := "()V", sig := { parameters := [], returnType := none }, accessFlags := 2, code := none }
def k1c1 : Code := { maxStack := 3, maxLocals := 3, code := method_2_code, exceptionTable := #[], attributes := #[] }
def k1m1 : Method := { name := "pick", desc := "(II)I", sig := { parameters := [.int, .int], returnType := some .int }, accessFlags := 10, code := some k1c1 }
def k1c2 : Code := { maxStack := 4, maxLocals := 6, code := code, exceptionTable := #[], attributes := #[] }
def k1m2 : Method := { name := "law", desc := "(II)Z", sig := { parameters := [.int, .int], returnType := some .boolean }, accessFlags := 9, code := some k1c2 }
/-- com/example/sapsucker/sapsucker/util/WhitespaceIsAsciiWhitespacePinLaw -/
def k1 : Class := { plain "com/example/sapsucker/sapsucker/util/WhitespaceIsAsciiWhitespacePinLaw" (some 0) with
  accessFlags := 49
  interfaces := #[]
  cf := some (fileOf pool1 8 #[] #[{ accessFlags := 2, nameIndex := 5, descriptorIndex := 6, attributes := #[] }, { accessFlags := 10, nameIndex := 11, descriptorIndex := 12, attributes := #[] }, { accessFlags := 9, nameIndex := 24, descriptorIndex := 25, attributes := #[] }] 49 2 #[] #[])
  fields := #[]
  methods := #[k1m0, k1m1, k1m2]
  instanceTypes := #[]
  staticTypes := #[]
  resolved := Array.replicate 28 none
  statics := none }

def pool2 : Array CpInfo := pool [(2, .class_ 4), (1, u "java/lang/Object"), (0, u "<init>"), (0, u "()V"), (0, .class_ 8), (0, u "com/example/sapsucker/sapsucker/util/Whitespace"), (5, u "(I)Z"), (51, u "ASCII_END"), (0, u "I"), (5, u "isAsciiWhitespace")] 4

def k2m0 : Method := { name := "<init>", desc := "()V", sig := { parameters := [], returnType := none }, accessFlags := 2, code := none }
def k2c1 : Code := { maxStack := 2, maxLocals := 1, code := prog_23_method_3_code, exceptionTable := #[], attributes := #[] }
def k2m1 : Method := { name := "isAsciiWhitespace", desc := "(I)Z", sig := { parameters := [.int], returnType := some .boolean }, accessFlags := 9, code := some k2c1 }
/-- com/example/sapsucker/sapsucker/util/Whitespace -/
def k2 : Class := { plain "com/example/sapsucker/sapsucker/util/Whitespace" (some 0) with
  accessFlags := 49
  interfaces := #[]
  cf := some (fileOf pool2 7 #[] #[{ accessFlags := 2, nameIndex := 5, descriptorIndex := 6, attributes := #[] }, { accessFlags := 9, nameIndex := 73, descriptorIndex := 14, attributes := #[] }] 49 2 #[] #[{ accessFlags := 26, nameIndex := 66, descriptorIndex := 67, attributes := #[] }])
  fields := #[{ name := "ASCII_END", type := .int, accessFlags := 26, slot := 0, constantValue := 0 }]
  methods := #[k2m0, k2m1]
  instanceTypes := #[]
  staticTypes := #[.int]
  resolved := Array.replicate 78 none
  statics := none }

def pool3 : Array CpInfo := pool [(1, u "java/lang/Cloneable"), (0, .class_ 1), (0, u "java/lang/Object"), (0, .class_ 3)] 3

/-- java/lang/Cloneable -/
def k3 : Class := { plain "java/lang/Cloneable" (some 0) with
  accessFlags := 1537
  interfaces := #[]
  cf := some (fileOf pool3 2 #[] #[] 1537 4 #[] #[])
  fields := #[]
  methods := #[]
  instanceTypes := #[]
  staticTypes := #[]
  resolved := Array.replicate 8 none
  statics := none }

def pool4 : Array CpInfo := pool [(1, u "java/io/Serializable"), (0, .class_ 1), (0, u "java/lang/Object"), (0, .class_ 3)] 3

/-- java/io/Serializable -/
def k4 : Class := { plain "java/io/Serializable" (some 0) with
  accessFlags := 1537
  interfaces := #[]
  cf := some (fileOf pool4 2 #[] #[] 1537 4 #[] #[])
  fields := #[]
  methods := #[]
  instanceTypes := #[]
  staticTypes := #[]
  resolved := Array.replicate 8 none
  statics := none }

/-- the primitive byte -/
def k5 : Class := { plain "byte" none with kind := .primitive 'B', accessFlags := 0x411 }
/-- [B -/
def k6 : Class := { plain "[B" (some 0) with kind := .array 5 .byte, interfaces := #[3, 4], accessFlags := 1041 }

/-- the primitive int -/
def k7 : Class := { plain "int" none with kind := .primitive 'I', accessFlags := 0x411 }
/-- [I -/
def k8 : Class := { plain "[I" (some 0) with kind := .array 7 .int, interfaces := #[3, 4], accessFlags := 1041 }

def heap : Heap := #[]
def classes : Array Class := #[k0, k1, k2, k3, k4, k5, k6, k7, k8]
def interned : List (Array UInt16 × Addr) := []
def slotsUsed : Nat := 0
def theMethod : MethodId := ⟨1, 2⟩
def args0 : Array Value := #[.int 5, .int 7]
def aboutOver (below : List Frame) : State where
  vm := { classes := classes, interned := interned.toArray }
  heap := heap
  slotsUsed := slotsUsed
  threads := #[{ frames := .invoking theMethod args0 :: below }]
def below0 : List Frame := [.native { method := ⟨0, 0⟩, args := #[] }]
def about1 : State := aboutOver below0
def p0 : Program := .bare "" "" ""
def e0 : Env := launch0.env 0 0 0
theorem w_frames : about1.frames = Frame.invoking theMethod args0 :: below0 := rfl
set_option maxRecDepth 65536 in
theorem w_args : argsFit about1.vm theMethod args0 = true := by decide +kernel
set_option maxRecDepth 65536 in
theorem w_heap : heapFits about1 = true := by decide +kernel
set_option maxRecDepth 65536 in
theorem w_runnable : about1.curStatus? = some .runnable := by decide +kernel
set_option maxRecDepth 65536 in
theorem w_alone : about1.alone = true := by decide +kernel
set_option maxRecDepth 65536 in
theorem w_named : about1.methodNamed? x = some theMethod := by decide +kernel
set_option maxRecDepth 65536 in
theorem w_hears : about1.hears theMethod below0 = true := by decide +kernel
set_option maxRecDepth 65536 in
theorem w_ripe : about1.ripe theMethod args0 below0 = true := by decide +kernel
theorem w_running : about1.status = .running := rfl
set_option maxRecDepth 65536 in
theorem w_room : about1.hasRoom e0.platform room_1 = true :=
  launch0.hasRoom_least _ room_1 (by decide +kernel) (by decide +kernel) (by decide +kernel) (by decide +kernel) (by decide +kernel) (by decide +kernel)
theorem allAtoms_all (ts : List Jvm.Cond) (a : Array Jvm.Value) (st : Jvm.State) : (allAtoms ts).before a st = ts.all (fun c => c.before a st) := by
  induction ts with
  | nil => rfl
  | cons c t ih =>
    show (Jvm.Cond.and c (allAtoms t)).before a st = _
    rw [Jvm.Cond.before_and, ih, List.all_cons]
def words1 : List Jvm.Cond := Jvm.Cond.code x code maxLocals ret :: tables_1
/-- a 'code' word, met by the world's own term for the bytes: nothing is compared byte by byte -/
theorem code_word {y : MethodName} {bytes : ByteArray} {mx : Nat} {rt : Option FieldType} {a : Array Value} {s : State} {m : MethodId} {meth : Method} {c : Code} (h1 : s.methodNamed? y = some m) (h2 : s.vm.method? m = some meth) (h3 : meth.code = some c) (h4 : c.code = bytes)
    (h5 : (c.maxLocals == mx && c.exceptionTable.isEmpty && decide (c.maxStack ≤ mostOperands) && decide (meth.sig.returnType = rt) && !meth.locks && decide (parseMethodDescriptor y.desc = some meth.sig)) = true) : (Jvm.Cond.code y bytes mx rt).before a s = true := by
  simp only [Bool.and_eq_true, beq_iff_eq, Bool.not_eq_true', decide_eq_true_eq] at h5
  obtain ⟨⟨⟨⟨⟨g1, g2⟩, g3⟩, g4⟩, g5⟩, g6⟩ := h5
  simp [Cond.before, Cond.holds, Cond.value, h1, h2, h3, h4, g1, g2, g3, g4, g5, g6]
def isCode : Jvm.Cond → Bool
  | .code _ _ _ _ => true
  | _ => false
theorem all_split {L : List Jvm.Cond} {P : Jvm.Cond → Bool} (h1 : L.all (fun c => isCode c || P c) = true) (h2 : ∀ c ∈ L.filter isCode, P c = true) : L.all P = true := by
  refine List.all_eq_true.mpr fun c hc => ?_
  have h := List.all_eq_true.mp h1 c hc
  rcases Bool.eq_false_or_eq_true (isCode c) with hi | hi
  · exact h2 c (List.mem_filter.mpr ⟨hc, hi⟩)
  · simpa [hi] using h
set_option maxRecDepth 65536 in
theorem w_c0 : (Jvm.Cond.code x code maxLocals ret).before args0 about1 = true := code_word (m := ⟨1, 2⟩) (meth := k1m2) (c := k1c2) (by decide +kernel) rfl rfl rfl (by decide +kernel)
set_option maxRecDepth 65536 in
theorem w_c1 : (Jvm.Cond.code ({ cls := "com/example/sapsucker/sapsucker/util/WhitespaceIsAsciiWhitespacePinLaw", name := "pick", desc := "(II)I" } : Jvm.MethodName) method_2_code (3 : Nat) (Option.some Jvm.ClassFile.FieldType.int)).before args0 about1 = true := code_word (m := ⟨1, 1⟩) (meth := k1m1) (c := k1c1) (by decide +kernel) rfl rfl rfl (by decide +kernel)
set_option maxRecDepth 65536 in
theorem w_c2 : (Jvm.Cond.code ({ cls := "com/example/sapsucker/sapsucker/util/Whitespace", name := "isAsciiWhitespace", desc := "(I)Z" } : Jvm.MethodName) prog_23_method_3_code (1 : Nat) (Option.some Jvm.ClassFile.FieldType.boolean)).before args0 about1 = true := code_word (m := ⟨2, 1⟩) (meth := k2m1) (c := k2c1) (by decide +kernel) rfl rfl rfl (by decide +kernel)
def codes1 : List Jvm.Cond := [Jvm.Cond.code x code maxLocals ret, Jvm.Cond.code ({ cls := "com/example/sapsucker/sapsucker/util/WhitespaceIsAsciiWhitespacePinLaw", name := "pick", desc := "(II)I" } : Jvm.MethodName) method_2_code (3 : Nat) (Option.some Jvm.ClassFile.FieldType.int), Jvm.Cond.code ({ cls := "com/example/sapsucker/sapsucker/util/Whitespace", name := "isAsciiWhitespace", desc := "(I)Z" } : Jvm.MethodName) prog_23_method_3_code (1 : Nat) (Option.some Jvm.ClassFile.FieldType.boolean)]
set_option maxRecDepth 65536 in
theorem codes_eq : words1.filter isCode = codes1 := rfl
theorem w_codes : ∀ c ∈ words1.filter isCode, c.before args0 about1 = true := by
  rw [codes_eq]
  intro c hc
  simp only [codes1, List.mem_cons, List.not_mem_nil, or_false] at hc
  rcases hc with rfl | rfl | rfl
  · exact w_c0
  · exact w_c1
  · exact w_c2
set_option maxRecDepth 65536 in
theorem w_t1 : words1.all (fun c => isCode c || c.before args0 about1) = true := by decide +kernel
theorem w_tables : (allAtoms (Jvm.Cond.code x code maxLocals ret :: tables_1)).before args0 about1 = true := by
  rw [allAtoms_all]
  show words1.all (fun c => c.before args0 about1) = true
  refine all_split ?_ w_codes
  rw [w_t1]
set_option maxRecDepth 65536 in
theorem w_case : (Jvm.Cond.and given_1 narrow_1).before args0 about1 = true := by decide +kernel
theorem w_applies : (headSpec (Jvm.Cond.code x code maxLocals ret :: tables_1) room_1).applies x e0.platform about1 = true :=
  (Spec.applies_iff w_frames).mpr ⟨w_running, w_runnable, w_alone, w_named, w_hears, w_ripe, w_room, w_tables⟩
theorem atStart : AtStart classFile x code maxLocals ret World_1 tables_1 room_1 Calls_1 rest_1 Pre_1 launch0 p0 e0 about1 theMethod args0 below0 :=
  ⟨lists_1, trivial, launch0.admits_env _ _ _, launch0.least_env, fairChoices_fair.cas, fairChoices_fair.clock, w_frames, w_args, w_heap, w_applies, trivial, trivial, w_case⟩
end start1
theorem witness_1 : WitnessClaimed_1 := ⟨start1.p0, start1.e0, start1.about1, start1.theMethod, start1.args0, start1.below0, start1.atStart⟩
end Jvm.Pilot.@@N@@
