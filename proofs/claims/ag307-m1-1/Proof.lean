import JvmDerived
import JvmDerived.Pilot.@@N@@Statement
import JvmDerived.Pilot.@@N@@Code
set_option linter.unusedVariables false
set_option linter.unusedSimpArgs false
namespace Jvm.RoadKit
open Sem ClassFile Op Lib Jvm.Stand Jvm.Free Jvm.LawKit
section New
variable {p : Program} {l : Launch} {e : Env} {R : Room} {s : State} {m : MethodId} {args : Array Value} {below : List Frame} {meth : Method} {c : Code} {T : State} {locs : List Loc} {cells slots : Nat}
theorem retI (X : Stand p l e R s m args below meth c T locs cells slots) (hx : p.tables.exec = Jvm.exec) {pc : Nat} {Ls : Array Slot} {z : Int32} {rest : List Value} (hret : meth.sig.returnType = some .int) (hd : decode c.code pc = .ok (.ireturn, 1)) {fs : List Frame}
    (hl : ∀ (f : JFrame) (acts : List Action), f.method = m → f.locked = none → f.entered = [] → (doReturn e (T.setTop f) acts (some (.int z))).1 = T.setFrames fs) : Steps p.tables e below (T.setTop (mkF m pc Ls (.int z :: rest))) (T.setFrames fs) := by
  have hm' : T.vm.method? m = some meth := X.method'
  have hn : narrow .int (.int z) = .int z := rfl
  show Steps p.tables e below (T.setTop { method := m, pc := pc, locals := Ls, stack := _ :: rest, locked := none }) _
  jvm_step X.here [X.here.top, hx, hd, hm', hret, hn]
  first | (intro acts; rw [hl _ acts rfl rfl rfl]) | rw [hl _ _ rfl rfl rfl]
  exact Steps.refl _
/-- from here the invocation comes to an end of which R holds -/
def Goes (p : Program) (e : Env) (below : List Frame) (cur : State) (R : State → Outcome → Prop) : Prop := ∃ s₂ o, Steps p.tables e below cur s₂ ∧ s₂.status = .running ∧ Ended s₂ below o ∧ R s₂ o
theorem Goes.via {cur next : State} {R : State → Outcome → Prop} (k : ∀ t, Steps p.tables e below next t → Steps p.tables e below cur t) (h : Goes p e below next R) : Goes p e below cur R := by
  obtain ⟨s₂, o, h1, h2⟩ := h
  exact ⟨s₂, o, k _ h1, h2⟩
end New
end Jvm.RoadKit
namespace Jvm.Pilot.@@N@@
open Jvm Jvm.ClassFile Sem Op Lib Jvm.Free Jvm.Stand Jvm.LawKit Jvm.RoadKit Bundle Jvm.Pilot.@@N@@.Jvm.D
theorem d1_0 : decode method_2_code 0 = .ok (.iload_n 0, 1) := by decide +kernel
theorem d1_1 : decode method_2_code 1 = .ok (.ifCond .ne 7, 3) := by decide +kernel
theorem d1_4 : decode method_2_code 4 = .ok (.getstatic 7, 3) := by decide +kernel
theorem d1_7 : decode method_2_code 7 = .ok (.areturn, 1) := by decide +kernel
theorem d1_8 : decode method_2_code 8 = .ok (.iload_n 0, 1) := by decide +kernel
theorem d1_9 : decode method_2_code 9 = .ok (.iconst 1, 1) := by decide +kernel
theorem d1_10 : decode method_2_code 10 = .ok (.if_icmp .ne 7, 3) := by decide +kernel
theorem d1_13 : decode method_2_code 13 = .ok (.getstatic 13, 3) := by decide +kernel
theorem d1_16 : decode method_2_code 16 = .ok (.areturn, 1) := by decide +kernel
theorem d1_17 : decode method_2_code 17 = .ok (.iload_n 0, 1) := by decide +kernel
theorem d1_18 : decode method_2_code 18 = .ok (.iconst 2, 1) := by decide +kernel
theorem d1_19 : decode method_2_code 19 = .ok (.if_icmp .ne 7, 3) := by decide +kernel
theorem d1_22 : decode method_2_code 22 = .ok (.getstatic 16, 3) := by decide +kernel
theorem d1_25 : decode method_2_code 25 = .ok (.areturn, 1) := by decide +kernel
theorem d1_26 : decode method_2_code 26 = .ok (.iload_n 0, 1) := by decide +kernel
theorem d1_27 : decode method_2_code 27 = .ok (.iconst 3, 1) := by decide +kernel
theorem d1_28 : decode method_2_code 28 = .ok (.if_icmp .ne 7, 3) := by decide +kernel
theorem d1_31 : decode method_2_code 31 = .ok (.getstatic 19, 3) := by decide +kernel
theorem d1_34 : decode method_2_code 34 = .ok (.areturn, 1) := by decide +kernel
theorem d1_35 : decode method_2_code 35 = .ok (.iload_n 0, 1) := by decide +kernel
theorem d1_36 : decode method_2_code 36 = .ok (.iconst 4, 1) := by decide +kernel
theorem d1_37 : decode method_2_code 37 = .ok (.if_icmp .ne 7, 3) := by decide +kernel
theorem d1_40 : decode method_2_code 40 = .ok (.getstatic 22, 3) := by decide +kernel
theorem d1_43 : decode method_2_code 43 = .ok (.areturn, 1) := by decide +kernel
theorem d1_44 : decode method_2_code 44 = .ok (.iload_n 0, 1) := by decide +kernel
theorem d1_45 : decode method_2_code 45 = .ok (.iconst 5, 1) := by decide +kernel
theorem d1_46 : decode method_2_code 46 = .ok (.if_icmp .ne 7, 3) := by decide +kernel
theorem d1_49 : decode method_2_code 49 = .ok (.getstatic 25, 3) := by decide +kernel
theorem d1_52 : decode method_2_code 52 = .ok (.areturn, 1) := by decide +kernel
theorem d1_53 : decode method_2_code 53 = .ok (.iload_n 0, 1) := by decide +kernel
theorem d1_54 : decode method_2_code 54 = .ok (.bipush 6, 2) := by decide +kernel
theorem d1_56 : decode method_2_code 56 = .ok (.if_icmp .ne 7, 3) := by decide +kernel
theorem d1_59 : decode method_2_code 59 = .ok (.getstatic 28, 3) := by decide +kernel
theorem d1_62 : decode method_2_code 62 = .ok (.areturn, 1) := by decide +kernel
theorem d1_63 : decode method_2_code 63 = .ok (.getstatic 31, 3) := by decide +kernel
theorem d1_66 : decode method_2_code 66 = .ok (.areturn, 1) := by decide +kernel
theorem pn_1 : plainName "com/example/lean_lease/leanlease/wire/OptionFormatFitsPinLaw" = true := by first | (simp [plainName, overriddenIn]; done) | decide +kernel
theorem ef_1 (m : MethodId) (x0 : Int32) : entryFrame m #[(.int x0)] 1 = mkF m 0 #[.val (.int x0)] [] := by first | (simp [entryFrame, mkF, argsToLocals, Value.category]; done) | rfl
def f1 (p1 : Int32) (r_ADDRESS : Addr) (r_ADDRESS_LIST : Addr) (r_UINT8 : Addr) (r_UINT16 : Addr) (r_UINT32 : Addr) (r_CODE_LIST : Addr) (r_TEXT : Addr) (r_BYTES : Addr) : Addr :=
  if p1 = (0 : Int32) then r_ADDRESS else
  if p1 = (1 : Int32) then r_ADDRESS_LIST else
  if p1 = (2 : Int32) then r_UINT8 else
  if p1 = (3 : Int32) then r_UINT16 else
  if p1 = (4 : Int32) then r_UINT32 else
  if p1 = (5 : Int32) then r_CODE_LIST else
  if p1 = (6 : Int32) then r_TEXT else
  r_BYTES
def Q1 (Z : State) (p1 : Int32) (r_ADDRESS : Addr) (r_ADDRESS_LIST : Addr) (r_UINT8 : Addr) (r_UINT16 : Addr) (r_UINT32 : Addr) (r_CODE_LIST : Addr) (r_TEXT : Addr) (r_BYTES : Addr) (h0 : Heap) (n0 : Nat) (v : Option Value) (h : Heap) (L : List Loc) : Prop := v = some (.ref (f1 p1 r_ADDRESS r_ADDRESS_LIST r_UINT8 r_UINT16 r_UINT32 r_CODE_LIST r_TEXT r_BYTES)) ∧ Fr n0 L ∧ h = h0
set_option maxRecDepth 65536 in
set_option maxHeartbeats 40000000 in
theorem rm1 (l : Launch) (Z : State) (a0 : Array Value) (hw : ∀ d ∈ tables_1, d.before a0 Z = true) (ws : List Jvm.Cond) (p1 : Int32) (r_ADDRESS : Addr) (r_ADDRESS_LIST : Addr) (r_UINT8 : Addr) (r_UINT16 : Addr) (r_UINT32 : Addr) (r_CODE_LIST : Addr) (r_TEXT : Addr) (r_BYTES : Addr) (h0 : Heap) (n0 : Nat) (Z0 : n0 ≤ h0.size) (S_ADDRESS : Sta Z h0 "com/example/lean_lease/leanlease/wire/OptionFormat" "ADDRESS" "Lcom/example/lean_lease/leanlease/wire/OptionFormat;" (.ref r_ADDRESS)) (S_ADDRESS_LIST : Sta Z h0 "com/example/lean_lease/leanlease/wire/OptionFormat" "ADDRESS_LIST" "Lcom/example/lean_lease/leanlease/wire/OptionFormat;" (.ref r_ADDRESS_LIST)) (S_UINT8 : Sta Z h0 "com/example/lean_lease/leanlease/wire/OptionFormat" "UINT8" "Lcom/example/lean_lease/leanlease/wire/OptionFormat;" (.ref r_UINT8)) (S_UINT16 : Sta Z h0 "com/example/lean_lease/leanlease/wire/OptionFormat" "UINT16" "Lcom/example/lean_lease/leanlease/wire/OptionFormat;" (.ref r_UINT16)) (S_UINT32 : Sta Z h0 "com/example/lean_lease/leanlease/wire/OptionFormat" "UINT32" "Lcom/example/lean_lease/leanlease/wire/OptionFormat;" (.ref r_UINT32)) (S_CODE_LIST : Sta Z h0 "com/example/lean_lease/leanlease/wire/OptionFormat" "CODE_LIST" "Lcom/example/lean_lease/leanlease/wire/OptionFormat;" (.ref r_CODE_LIST)) (S_TEXT : Sta Z h0 "com/example/lean_lease/leanlease/wire/OptionFormat" "TEXT" "Lcom/example/lean_lease/leanlease/wire/OptionFormat;" (.ref r_TEXT)) (S_BYTES : Sta Z h0 "com/example/lean_lease/leanlease/wire/OptionFormat" "BYTES" "Lcom/example/lean_lease/leanlease/wire/OptionFormat;" (.ref r_BYTES)) :
    MetFree l (⟨"com/example/lean_lease/leanlease/wire/OptionFormatFitsPinLaw", "pick", "(I)Lcom/example/lean_lease/leanlease/wire/OptionFormat;"⟩ : MethodName) (head1 (Jvm.Cond.code (⟨"com/example/lean_lease/leanlease/wire/OptionFormatFitsPinLaw", "pick", "(I)Lcom/example/lean_lease/leanlease/wire/OptionFormat;"⟩ : MethodName) method_2_code 1 (some (.object "com/example/lean_lease/leanlease/wire/OptionFormat")) :: ws) ({ frames := 0, cells := 0, slots := 0, locals := 0 } : Room)) (fun a U => a = #[(.int p1)] ∧ Z.Warmed39 U.vm ∧ U.heap = h0) (fun _ _ _ _ _ => True) (fun _ U o U' => ∃ v L, o = .returned v ∧ Q1 Z p1 r_ADDRESS r_ADDRESS_LIST r_UINT8 r_UINT16 r_UINT32 r_CODE_LIST r_TEXT r_BYTES h0 n0 v U'.heap L ∧ FrameEnd U o U' L ({ frames := 0, cells := 0, slots := 0, locals := 0 } : Room).cells ({ frames := 0, cells := 0, slots := 0, locals := 0 } : Room).slots) := by
  refine MetFree.of_bodySF (plainFor_of_name pn_1) hisR ?_
  intro p e s m args below meth c s₁ Bd hml0 hP hK
  obtain ⟨rfl, hZ, hh⟩ := hP
  have hx := Bd.exec
  have hby := Bd.bytes
  have hml : c.maxLocals = 1 := hml0
  have hown : s.vm.findClass "com/example/lean_lease/leanlease/wire/OptionFormatFitsPinLaw" = some m.cls := findClass_of_methodNamed Bd.named
  have hnm := (name_of_methodNamed Bd.named Bd.method).1
  have X0 : Stand p l e ({ frames := 0, cells := 0, slots := 0, locals := 0 } : Room) s m #[(.int p1)] below meth c s₁ [] 0 0 := Stand.of_body Bd
  have e0 : s₁.heap = h0 := by rw [← hh, Bd.state]; rfl
  have N0 := Fr.nil n0
  refine Goes.via (next := s₁.setTop (mkF m 0 #[.val (.int p1)] [])) (fun t k => castTop (ef_1 m p1) k) ?_
  refine Goes.via (fun t k => XS.iloadN X0.here hx rfl (hb hby d1_0) rfl k) ?_
  show Goes p e below (s₁.setTop (mkF m 1 #[.val (.int p1)] [(.int p1)])) _
  by_cases hc1_1 : p1 = (0 : Int32)
  · refine Goes.via (fun t k => XS.ifNo X0.here hx rfl (hb hby d1_1) rfl ((if0 _ _).trans (teq hc1_1).2) k) ?_
    show Goes p e below (s₁.setTop (mkF m 4 #[.val (.int p1)] [])) _
    obtain ⟨T2, X2, e2, st2⟩ := getS2 X0 hx hZ hown (host := "") (Or.inl (hw _ (List.mem_of_getElem? (i := 4) rfl))) Via.refl e0 S_ADDRESS (g := (mkF m 4 #[.val (.int p1)] [])) rfl (hb hby d1_4)
    refine Goes.via st2 ?_
    show Goes p e below (T2.setTop (mkF m 7 #[.val (.int p1)] [(.ref r_ADDRESS)])) _
    obtain ⟨fs, hr, hrun, hended, hW, hsame⟩ := X2.leave (v := some (.ref r_ADDRESS)) (fun h => by rw [Bd.returns] at h; cases h)
    refine ⟨_, _, ?_, hrun, hended, _, _, rfl, ?_, ⟨_, rfl⟩, hW, hsame.mono (by decide) (by decide)⟩
    · exact retOut X2 hx (t := (.object "com/example/lean_lease/leanlease/wire/OptionFormat")) Bd.returns rfl (Or.inr (Or.inr (Or.inr (Or.inr ⟨rfl, rfl, rfl⟩)))) (hb hby d1_7) hr
    · show Q1 Z p1 r_ADDRESS r_ADDRESS_LIST r_UINT8 r_UINT16 r_UINT32 r_CODE_LIST r_TEXT r_BYTES h0 n0 _ T2.heap _
      rw [e2]
      exact ⟨congrArg some (congrArg _ (by simp only [f1, if_pos hc1_1])), N0, rfl⟩
  · refine Goes.via (fun t k => XS.ifYes X0.here hx rfl (pc0 := 1) (pc' := 8) rfl (hb hby d1_1) rfl ((if0 _ _).trans (feq hc1_1).2) (by decide) (by decide) k) ?_
    show Goes p e below (s₁.setTop (mkF m 8 #[.val (.int p1)] [])) _
    refine Goes.via (fun t k => XS.iloadN X0.here hx rfl (hb hby d1_8) rfl k) ?_
    show Goes p e below (s₁.setTop (mkF m 9 #[.val (.int p1)] [(.int p1)])) _
    refine Goes.via (fun t k => XS.iconst X0.here hx rfl (hb hby d1_9) k) ?_
    show Goes p e below (s₁.setTop (mkF m 10 #[.val (.int p1)] [(.int (1 : Int32)), (.int p1)])) _
    by_cases hc10_3 : p1 = (1 : Int32)
    · refine Goes.via (fun t k => XS.icmpNo X0.here hx rfl (hb hby d1_10) rfl (teq hc10_3).2 k) ?_
      show Goes p e below (s₁.setTop (mkF m 13 #[.val (.int p1)] [])) _
      obtain ⟨T4, X4, e4, st4⟩ := getS2 X0 hx hZ hown (host := "") (Or.inl (hw _ (List.mem_of_getElem? (i := 17) rfl))) Via.refl e0 S_ADDRESS_LIST (g := (mkF m 13 #[.val (.int p1)] [])) rfl (hb hby d1_13)
      refine Goes.via st4 ?_
      show Goes p e below (T4.setTop (mkF m 16 #[.val (.int p1)] [(.ref r_ADDRESS_LIST)])) _
      obtain ⟨fs, hr, hrun, hended, hW, hsame⟩ := X4.leave (v := some (.ref r_ADDRESS_LIST)) (fun h => by rw [Bd.returns] at h; cases h)
      refine ⟨_, _, ?_, hrun, hended, _, _, rfl, ?_, ⟨_, rfl⟩, hW, hsame.mono (by decide) (by decide)⟩
      · exact retOut X4 hx (t := (.object "com/example/lean_lease/leanlease/wire/OptionFormat")) Bd.returns rfl (Or.inr (Or.inr (Or.inr (Or.inr ⟨rfl, rfl, rfl⟩)))) (hb hby d1_16) hr
      · show Q1 Z p1 r_ADDRESS r_ADDRESS_LIST r_UINT8 r_UINT16 r_UINT32 r_CODE_LIST r_TEXT r_BYTES h0 n0 _ T4.heap _
        rw [e4]
        exact ⟨congrArg some (congrArg _ (by simp only [f1, if_neg hc1_1, if_pos hc10_3])), N0, rfl⟩
    · refine Goes.via (fun t k => XS.icmpYes X0.here hx rfl (pc0 := 10) (pc' := 17) rfl (hb hby d1_10) rfl (feq hc10_3).2 (by decide) (by decide) k) ?_
      show Goes p e below (s₁.setTop (mkF m 17 #[.val (.int p1)] [])) _
      refine Goes.via (fun t k => XS.iloadN X0.here hx rfl (hb hby d1_17) rfl k) ?_
      show Goes p e below (s₁.setTop (mkF m 18 #[.val (.int p1)] [(.int p1)])) _
      refine Goes.via (fun t k => XS.iconst X0.here hx rfl (hb hby d1_18) k) ?_
      show Goes p e below (s₁.setTop (mkF m 19 #[.val (.int p1)] [(.int (2 : Int32)), (.int p1)])) _
      by_cases hc19_5 : p1 = (2 : Int32)
      · refine Goes.via (fun t k => XS.icmpNo X0.here hx rfl (hb hby d1_19) rfl (teq hc19_5).2 k) ?_
        show Goes p e below (s₁.setTop (mkF m 22 #[.val (.int p1)] [])) _
        obtain ⟨T6, X6, e6, st6⟩ := getS2 X0 hx hZ hown (host := "") (Or.inl (hw _ (List.mem_of_getElem? (i := 27) rfl))) Via.refl e0 S_UINT8 (g := (mkF m 22 #[.val (.int p1)] [])) rfl (hb hby d1_22)
        refine Goes.via st6 ?_
        show Goes p e below (T6.setTop (mkF m 25 #[.val (.int p1)] [(.ref r_UINT8)])) _
        obtain ⟨fs, hr, hrun, hended, hW, hsame⟩ := X6.leave (v := some (.ref r_UINT8)) (fun h => by rw [Bd.returns] at h; cases h)
        refine ⟨_, _, ?_, hrun, hended, _, _, rfl, ?_, ⟨_, rfl⟩, hW, hsame.mono (by decide) (by decide)⟩
        · exact retOut X6 hx (t := (.object "com/example/lean_lease/leanlease/wire/OptionFormat")) Bd.returns rfl (Or.inr (Or.inr (Or.inr (Or.inr ⟨rfl, rfl, rfl⟩)))) (hb hby d1_25) hr
        · show Q1 Z p1 r_ADDRESS r_ADDRESS_LIST r_UINT8 r_UINT16 r_UINT32 r_CODE_LIST r_TEXT r_BYTES h0 n0 _ T6.heap _
          rw [e6]
          exact ⟨congrArg some (congrArg _ (by simp only [f1, if_neg hc1_1, if_neg hc10_3, if_pos hc19_5])), N0, rfl⟩
      · refine Goes.via (fun t k => XS.icmpYes X0.here hx rfl (pc0 := 19) (pc' := 26) rfl (hb hby d1_19) rfl (feq hc19_5).2 (by decide) (by decide) k) ?_
        show Goes p e below (s₁.setTop (mkF m 26 #[.val (.int p1)] [])) _
        refine Goes.via (fun t k => XS.iloadN X0.here hx rfl (hb hby d1_26) rfl k) ?_
        show Goes p e below (s₁.setTop (mkF m 27 #[.val (.int p1)] [(.int p1)])) _
        refine Goes.via (fun t k => XS.iconst X0.here hx rfl (hb hby d1_27) k) ?_
        show Goes p e below (s₁.setTop (mkF m 28 #[.val (.int p1)] [(.int (3 : Int32)), (.int p1)])) _
        by_cases hc28_7 : p1 = (3 : Int32)
        · refine Goes.via (fun t k => XS.icmpNo X0.here hx rfl (hb hby d1_28) rfl (teq hc28_7).2 k) ?_
          show Goes p e below (s₁.setTop (mkF m 31 #[.val (.int p1)] [])) _
          obtain ⟨T8, X8, e8, st8⟩ := getS2 X0 hx hZ hown (host := "") (Or.inl (hw _ (List.mem_of_getElem? (i := 29) rfl))) Via.refl e0 S_UINT16 (g := (mkF m 31 #[.val (.int p1)] [])) rfl (hb hby d1_31)
          refine Goes.via st8 ?_
          show Goes p e below (T8.setTop (mkF m 34 #[.val (.int p1)] [(.ref r_UINT16)])) _
          obtain ⟨fs, hr, hrun, hended, hW, hsame⟩ := X8.leave (v := some (.ref r_UINT16)) (fun h => by rw [Bd.returns] at h; cases h)
          refine ⟨_, _, ?_, hrun, hended, _, _, rfl, ?_, ⟨_, rfl⟩, hW, hsame.mono (by decide) (by decide)⟩
          · exact retOut X8 hx (t := (.object "com/example/lean_lease/leanlease/wire/OptionFormat")) Bd.returns rfl (Or.inr (Or.inr (Or.inr (Or.inr ⟨rfl, rfl, rfl⟩)))) (hb hby d1_34) hr
          · show Q1 Z p1 r_ADDRESS r_ADDRESS_LIST r_UINT8 r_UINT16 r_UINT32 r_CODE_LIST r_TEXT r_BYTES h0 n0 _ T8.heap _
            rw [e8]
            exact ⟨congrArg some (congrArg _ (by simp only [f1, if_neg hc1_1, if_neg hc10_3, if_neg hc19_5, if_pos hc28_7])), N0, rfl⟩
        · refine Goes.via (fun t k => XS.icmpYes X0.here hx rfl (pc0 := 28) (pc' := 35) rfl (hb hby d1_28) rfl (feq hc28_7).2 (by decide) (by decide) k) ?_
          show Goes p e below (s₁.setTop (mkF m 35 #[.val (.int p1)] [])) _
          refine Goes.via (fun t k => XS.iloadN X0.here hx rfl (hb hby d1_35) rfl k) ?_
          show Goes p e below (s₁.setTop (mkF m 36 #[.val (.int p1)] [(.int p1)])) _
          refine Goes.via (fun t k => XS.iconst X0.here hx rfl (hb hby d1_36) k) ?_
          show Goes p e below (s₁.setTop (mkF m 37 #[.val (.int p1)] [(.int (4 : Int32)), (.int p1)])) _
          by_cases hc37_9 : p1 = (4 : Int32)
          · refine Goes.via (fun t k => XS.icmpNo X0.here hx rfl (hb hby d1_37) rfl (teq hc37_9).2 k) ?_
            show Goes p e below (s₁.setTop (mkF m 40 #[.val (.int p1)] [])) _
            obtain ⟨T10, X10, e10, st10⟩ := getS2 X0 hx hZ hown (host := "") (Or.inl (hw _ (List.mem_of_getElem? (i := 23) rfl))) Via.refl e0 S_UINT32 (g := (mkF m 40 #[.val (.int p1)] [])) rfl (hb hby d1_40)
            refine Goes.via st10 ?_
            show Goes p e below (T10.setTop (mkF m 43 #[.val (.int p1)] [(.ref r_UINT32)])) _
            obtain ⟨fs, hr, hrun, hended, hW, hsame⟩ := X10.leave (v := some (.ref r_UINT32)) (fun h => by rw [Bd.returns] at h; cases h)
            refine ⟨_, _, ?_, hrun, hended, _, _, rfl, ?_, ⟨_, rfl⟩, hW, hsame.mono (by decide) (by decide)⟩
            · exact retOut X10 hx (t := (.object "com/example/lean_lease/leanlease/wire/OptionFormat")) Bd.returns rfl (Or.inr (Or.inr (Or.inr (Or.inr ⟨rfl, rfl, rfl⟩)))) (hb hby d1_43) hr
            · show Q1 Z p1 r_ADDRESS r_ADDRESS_LIST r_UINT8 r_UINT16 r_UINT32 r_CODE_LIST r_TEXT r_BYTES h0 n0 _ T10.heap _
              rw [e10]
              exact ⟨congrArg some (congrArg _ (by simp only [f1, if_neg hc1_1, if_neg hc10_3, if_neg hc19_5, if_neg hc28_7, if_pos hc37_9])), N0, rfl⟩
          · refine Goes.via (fun t k => XS.icmpYes X0.here hx rfl (pc0 := 37) (pc' := 44) rfl (hb hby d1_37) rfl (feq hc37_9).2 (by decide) (by decide) k) ?_
            show Goes p e below (s₁.setTop (mkF m 44 #[.val (.int p1)] [])) _
            refine Goes.via (fun t k => XS.iloadN X0.here hx rfl (hb hby d1_44) rfl k) ?_
            show Goes p e below (s₁.setTop (mkF m 45 #[.val (.int p1)] [(.int p1)])) _
            refine Goes.via (fun t k => XS.iconst X0.here hx rfl (hb hby d1_45) k) ?_
            show Goes p e below (s₁.setTop (mkF m 46 #[.val (.int p1)] [(.int (5 : Int32)), (.int p1)])) _
            by_cases hc46_11 : p1 = (5 : Int32)
            · refine Goes.via (fun t k => XS.icmpNo X0.here hx rfl (hb hby d1_46) rfl (teq hc46_11).2 k) ?_
              show Goes p e below (s₁.setTop (mkF m 49 #[.val (.int p1)] [])) _
              obtain ⟨T12, X12, e12, st12⟩ := getS2 X0 hx hZ hown (host := "") (Or.inl (hw _ (List.mem_of_getElem? (i := 31) rfl))) Via.refl e0 S_CODE_LIST (g := (mkF m 49 #[.val (.int p1)] [])) rfl (hb hby d1_49)
              refine Goes.via st12 ?_
              show Goes p e below (T12.setTop (mkF m 52 #[.val (.int p1)] [(.ref r_CODE_LIST)])) _
              obtain ⟨fs, hr, hrun, hended, hW, hsame⟩ := X12.leave (v := some (.ref r_CODE_LIST)) (fun h => by rw [Bd.returns] at h; cases h)
              refine ⟨_, _, ?_, hrun, hended, _, _, rfl, ?_, ⟨_, rfl⟩, hW, hsame.mono (by decide) (by decide)⟩
              · exact retOut X12 hx (t := (.object "com/example/lean_lease/leanlease/wire/OptionFormat")) Bd.returns rfl (Or.inr (Or.inr (Or.inr (Or.inr ⟨rfl, rfl, rfl⟩)))) (hb hby d1_52) hr
              · show Q1 Z p1 r_ADDRESS r_ADDRESS_LIST r_UINT8 r_UINT16 r_UINT32 r_CODE_LIST r_TEXT r_BYTES h0 n0 _ T12.heap _
                rw [e12]
                exact ⟨congrArg some (congrArg _ (by simp only [f1, if_neg hc1_1, if_neg hc10_3, if_neg hc19_5, if_neg hc28_7, if_neg hc37_9, if_pos hc46_11])), N0, rfl⟩
            · refine Goes.via (fun t k => XS.icmpYes X0.here hx rfl (pc0 := 46) (pc' := 53) rfl (hb hby d1_46) rfl (feq hc46_11).2 (by decide) (by decide) k) ?_
              show Goes p e below (s₁.setTop (mkF m 53 #[.val (.int p1)] [])) _
              refine Goes.via (fun t k => XS.iloadN X0.here hx rfl (hb hby d1_53) rfl k) ?_
              show Goes p e below (s₁.setTop (mkF m 54 #[.val (.int p1)] [(.int p1)])) _
              refine Goes.via (fun t k => XS.bipush X0.here hx rfl (hb hby d1_54) k) ?_
              show Goes p e below (s₁.setTop (mkF m 56 #[.val (.int p1)] [(.int (6 : Int32)), (.int p1)])) _
              by_cases hc56_13 : p1 = (6 : Int32)
              · refine Goes.via (fun t k => XS.icmpNo X0.here hx rfl (hb hby d1_56) rfl (teq hc56_13).2 k) ?_
                show Goes p e below (s₁.setTop (mkF m 59 #[.val (.int p1)] [])) _
                obtain ⟨T14, X14, e14, st14⟩ := getS2 X0 hx hZ hown (host := "") (Or.inl (hw _ (List.mem_of_getElem? (i := 33) rfl))) Via.refl e0 S_TEXT (g := (mkF m 59 #[.val (.int p1)] [])) rfl (hb hby d1_59)
                refine Goes.via st14 ?_
                show Goes p e below (T14.setTop (mkF m 62 #[.val (.int p1)] [(.ref r_TEXT)])) _
                obtain ⟨fs, hr, hrun, hended, hW, hsame⟩ := X14.leave (v := some (.ref r_TEXT)) (fun h => by rw [Bd.returns] at h; cases h)
                refine ⟨_, _, ?_, hrun, hended, _, _, rfl, ?_, ⟨_, rfl⟩, hW, hsame.mono (by decide) (by decide)⟩
                · exact retOut X14 hx (t := (.object "com/example/lean_lease/leanlease/wire/OptionFormat")) Bd.returns rfl (Or.inr (Or.inr (Or.inr (Or.inr ⟨rfl, rfl, rfl⟩)))) (hb hby d1_62) hr
                · show Q1 Z p1 r_ADDRESS r_ADDRESS_LIST r_UINT8 r_UINT16 r_UINT32 r_CODE_LIST r_TEXT r_BYTES h0 n0 _ T14.heap _
                  rw [e14]
                  exact ⟨congrArg some (congrArg _ (by simp only [f1, if_neg hc1_1, if_neg hc10_3, if_neg hc19_5, if_neg hc28_7, if_neg hc37_9, if_neg hc46_11, if_pos hc56_13])), N0, rfl⟩
              · refine Goes.via (fun t k => XS.icmpYes X0.here hx rfl (pc0 := 56) (pc' := 63) rfl (hb hby d1_56) rfl (feq hc56_13).2 (by decide) (by decide) k) ?_
                show Goes p e below (s₁.setTop (mkF m 63 #[.val (.int p1)] [])) _
                obtain ⟨T15, X15, e15, st15⟩ := getS2 X0 hx hZ hown (host := "") (Or.inl (hw _ (List.mem_of_getElem? (i := 25) rfl))) Via.refl e0 S_BYTES (g := (mkF m 63 #[.val (.int p1)] [])) rfl (hb hby d1_63)
                refine Goes.via st15 ?_
                show Goes p e below (T15.setTop (mkF m 66 #[.val (.int p1)] [(.ref r_BYTES)])) _
                obtain ⟨fs, hr, hrun, hended, hW, hsame⟩ := X15.leave (v := some (.ref r_BYTES)) (fun h => by rw [Bd.returns] at h; cases h)
                refine ⟨_, _, ?_, hrun, hended, _, _, rfl, ?_, ⟨_, rfl⟩, hW, hsame.mono (by decide) (by decide)⟩
                · exact retOut X15 hx (t := (.object "com/example/lean_lease/leanlease/wire/OptionFormat")) Bd.returns rfl (Or.inr (Or.inr (Or.inr (Or.inr ⟨rfl, rfl, rfl⟩)))) (hb hby d1_66) hr
                · show Q1 Z p1 r_ADDRESS r_ADDRESS_LIST r_UINT8 r_UINT16 r_UINT32 r_CODE_LIST r_TEXT r_BYTES h0 n0 _ T15.heap _
                  rw [e15]
                  exact ⟨congrArg some (congrArg _ (by simp only [f1, if_neg hc1_1, if_neg hc10_3, if_neg hc19_5, if_neg hc28_7, if_neg hc37_9, if_neg hc46_11, if_neg hc56_13])), N0, rfl⟩
def own_mn (p1 : Int32) : Int32 := if p1 = (0 : Int32) then (4 : Int32) else if p1 = (1 : Int32) then (4 : Int32) else if p1 = (2 : Int32) then (1 : Int32) else if p1 = (3 : Int32) then (2 : Int32) else if p1 = (4 : Int32) then (4 : Int32) else if p1 = (5 : Int32) then (1 : Int32) else if p1 = (6 : Int32) then (1 : Int32) else (0 : Int32)
def own_mx (p1 : Int32) : Int32 := if p1 = (0 : Int32) then (4 : Int32) else if p1 = (1 : Int32) then (2147483647 : Int32) else if p1 = (2 : Int32) then (1 : Int32) else if p1 = (3 : Int32) then (2 : Int32) else if p1 = (4 : Int32) then (4 : Int32) else if p1 = (5 : Int32) then (2147483647 : Int32) else if p1 = (6 : Int32) then (2147483647 : Int32) else (2147483647 : Int32)
def own_un (p1 : Int32) : Int32 := if p1 = (0 : Int32) then (4 : Int32) else if p1 = (1 : Int32) then (4 : Int32) else if p1 = (2 : Int32) then (1 : Int32) else if p1 = (3 : Int32) then (2 : Int32) else if p1 = (4 : Int32) then (4 : Int32) else if p1 = (5 : Int32) then (1 : Int32) else if p1 = (6 : Int32) then (1 : Int32) else (1 : Int32)
theorem own_un0 (p1 : Int32) : own_un p1 ≠ 0 := by
  simp only [own_un]
  repeat' split
  all_goals decide
theorem own_pick_mn (P : Addr → Int32 → Prop) (p1 : Int32) {r_ADDRESS r_ADDRESS_LIST r_UINT8 r_UINT16 r_UINT32 r_CODE_LIST r_TEXT r_BYTES : Addr} (h_ADDRESS : P r_ADDRESS 4) (h_ADDRESS_LIST : P r_ADDRESS_LIST 4) (h_UINT8 : P r_UINT8 1) (h_UINT16 : P r_UINT16 2) (h_UINT32 : P r_UINT32 4) (h_CODE_LIST : P r_CODE_LIST 1) (h_TEXT : P r_TEXT 1) (h_BYTES : P r_BYTES 0) : P (f1 p1 r_ADDRESS r_ADDRESS_LIST r_UINT8 r_UINT16 r_UINT32 r_CODE_LIST r_TEXT r_BYTES) (own_mn p1) := by
  simp only [f1, own_mn]
  by_cases q0 : p1 = (0 : Int32)
  · simp only [if_pos q0]; exact h_ADDRESS
  · simp only [if_neg q0]
    by_cases q1 : p1 = (1 : Int32)
    · simp only [if_pos q1]; exact h_ADDRESS_LIST
    · simp only [if_neg q1]
      by_cases q2 : p1 = (2 : Int32)
      · simp only [if_pos q2]; exact h_UINT8
      · simp only [if_neg q2]
        by_cases q3 : p1 = (3 : Int32)
        · simp only [if_pos q3]; exact h_UINT16
        · simp only [if_neg q3]
          by_cases q4 : p1 = (4 : Int32)
          · simp only [if_pos q4]; exact h_UINT32
          · simp only [if_neg q4]
            by_cases q5 : p1 = (5 : Int32)
            · simp only [if_pos q5]; exact h_CODE_LIST
            · simp only [if_neg q5]
              by_cases q6 : p1 = (6 : Int32)
              · simp only [if_pos q6]; exact h_TEXT
              · simp only [if_neg q6]
                exact h_BYTES
theorem own_pick_mx (P : Addr → Int32 → Prop) (p1 : Int32) {r_ADDRESS r_ADDRESS_LIST r_UINT8 r_UINT16 r_UINT32 r_CODE_LIST r_TEXT r_BYTES : Addr} (h_ADDRESS : P r_ADDRESS 4) (h_ADDRESS_LIST : P r_ADDRESS_LIST 2147483647) (h_UINT8 : P r_UINT8 1) (h_UINT16 : P r_UINT16 2) (h_UINT32 : P r_UINT32 4) (h_CODE_LIST : P r_CODE_LIST 2147483647) (h_TEXT : P r_TEXT 2147483647) (h_BYTES : P r_BYTES 2147483647) : P (f1 p1 r_ADDRESS r_ADDRESS_LIST r_UINT8 r_UINT16 r_UINT32 r_CODE_LIST r_TEXT r_BYTES) (own_mx p1) := by
  simp only [f1, own_mx]
  by_cases q0 : p1 = (0 : Int32)
  · simp only [if_pos q0]; exact h_ADDRESS
  · simp only [if_neg q0]
    by_cases q1 : p1 = (1 : Int32)
    · simp only [if_pos q1]; exact h_ADDRESS_LIST
    · simp only [if_neg q1]
      by_cases q2 : p1 = (2 : Int32)
      · simp only [if_pos q2]; exact h_UINT8
      · simp only [if_neg q2]
        by_cases q3 : p1 = (3 : Int32)
        · simp only [if_pos q3]; exact h_UINT16
        · simp only [if_neg q3]
          by_cases q4 : p1 = (4 : Int32)
          · simp only [if_pos q4]; exact h_UINT32
          · simp only [if_neg q4]
            by_cases q5 : p1 = (5 : Int32)
            · simp only [if_pos q5]; exact h_CODE_LIST
            · simp only [if_neg q5]
              by_cases q6 : p1 = (6 : Int32)
              · simp only [if_pos q6]; exact h_TEXT
              · simp only [if_neg q6]
                exact h_BYTES
theorem own_pick_un (P : Addr → Int32 → Prop) (p1 : Int32) {r_ADDRESS r_ADDRESS_LIST r_UINT8 r_UINT16 r_UINT32 r_CODE_LIST r_TEXT r_BYTES : Addr} (h_ADDRESS : P r_ADDRESS 4) (h_ADDRESS_LIST : P r_ADDRESS_LIST 4) (h_UINT8 : P r_UINT8 1) (h_UINT16 : P r_UINT16 2) (h_UINT32 : P r_UINT32 4) (h_CODE_LIST : P r_CODE_LIST 1) (h_TEXT : P r_TEXT 1) (h_BYTES : P r_BYTES 1) : P (f1 p1 r_ADDRESS r_ADDRESS_LIST r_UINT8 r_UINT16 r_UINT32 r_CODE_LIST r_TEXT r_BYTES) (own_un p1) := by
  simp only [f1, own_un]
  by_cases q0 : p1 = (0 : Int32)
  · simp only [if_pos q0]; exact h_ADDRESS
  · simp only [if_neg q0]
    by_cases q1 : p1 = (1 : Int32)
    · simp only [if_pos q1]; exact h_ADDRESS_LIST
    · simp only [if_neg q1]
      by_cases q2 : p1 = (2 : Int32)
      · simp only [if_pos q2]; exact h_UINT8
      · simp only [if_neg q2]
        by_cases q3 : p1 = (3 : Int32)
        · simp only [if_pos q3]; exact h_UINT16
        · simp only [if_neg q3]
          by_cases q4 : p1 = (4 : Int32)
          · simp only [if_pos q4]; exact h_UINT32
          · simp only [if_neg q4]
            by_cases q5 : p1 = (5 : Int32)
            · simp only [if_pos q5]; exact h_CODE_LIST
            · simp only [if_neg q5]
              by_cases q6 : p1 = (6 : Int32)
              · simp only [if_pos q6]; exact h_TEXT
              · simp only [if_neg q6]
                exact h_BYTES
theorem own_pick (P : Addr → Prop) (p1 : Int32) {r_ADDRESS r_ADDRESS_LIST r_UINT8 r_UINT16 r_UINT32 r_CODE_LIST r_TEXT r_BYTES : Addr} (h_ADDRESS : P r_ADDRESS) (h_ADDRESS_LIST : P r_ADDRESS_LIST) (h_UINT8 : P r_UINT8) (h_UINT16 : P r_UINT16) (h_UINT32 : P r_UINT32) (h_CODE_LIST : P r_CODE_LIST) (h_TEXT : P r_TEXT) (h_BYTES : P r_BYTES) : P (f1 p1 r_ADDRESS r_ADDRESS_LIST r_UINT8 r_UINT16 r_UINT32 r_CODE_LIST r_TEXT r_BYTES) := by
  simp only [f1]
  repeat' split
  all_goals assumption
theorem d2_0 : decode prog_47_method_4_code 0 = .ok (.iload_n 1, 1) := by decide +kernel
theorem d2_1 : decode prog_47_method_4_code 1 = .ok (.aload_n 0, 1) := by decide +kernel
theorem d2_2 : decode prog_47_method_4_code 2 = .ok (.getfield 47, 3) := by decide +kernel
theorem d2_5 : decode prog_47_method_4_code 5 = .ok (.if_icmp .lt 24, 3) := by decide +kernel
theorem d2_8 : decode prog_47_method_4_code 8 = .ok (.iload_n 1, 1) := by decide +kernel
theorem d2_9 : decode prog_47_method_4_code 9 = .ok (.aload_n 0, 1) := by decide +kernel
theorem d2_10 : decode prog_47_method_4_code 10 = .ok (.getfield 51, 3) := by decide +kernel
theorem d2_13 : decode prog_47_method_4_code 13 = .ok (.if_icmp .gt 16, 3) := by decide +kernel
theorem d2_16 : decode prog_47_method_4_code 16 = .ok (.iload_n 1, 1) := by decide +kernel
theorem d2_17 : decode prog_47_method_4_code 17 = .ok (.aload_n 0, 1) := by decide +kernel
theorem d2_18 : decode prog_47_method_4_code 18 = .ok (.getfield 54, 3) := by decide +kernel
theorem d2_21 : decode prog_47_method_4_code 21 = .ok (.irem, 1) := by decide +kernel
theorem d2_22 : decode prog_47_method_4_code 22 = .ok (.ifCond .ne 7, 3) := by decide +kernel
theorem d2_25 : decode prog_47_method_4_code 25 = .ok (.iconst 1, 1) := by decide +kernel
theorem d2_26 : decode prog_47_method_4_code 26 = .ok (.goto 4, 3) := by decide +kernel
theorem d2_29 : decode prog_47_method_4_code 29 = .ok (.iconst 0, 1) := by decide +kernel
theorem d2_30 : decode prog_47_method_4_code 30 = .ok (.ireturn, 1) := by decide +kernel
theorem pn_2 : plainName "com/example/lean_lease/leanlease/wire/OptionFormat" = true := by first | (simp [plainName, overriddenIn]; done) | decide +kernel
theorem ef_2 (m : MethodId) (x0 : Addr) (x1 : Int32) : entryFrame m #[(.ref x0), (.int x1)] 2 = mkF m 0 #[.val (.ref x0), .val (.int x1)] [] := by first | (simp [entryFrame, mkF, argsToLocals, Value.category]; done) | rfl
def v2_30_0 (p2 : Int32) (un : Int32) : Int32 := (if (p2 % un) = (0 : Int32) then (1 : Int32) else (0 : Int32))
def f2 (a1 : Addr) (p2 : Int32) (mn : Int32) (mx : Int32) (un : Int32) : Int32 :=
  if p2 < mn then (0 : Int32) else
  if mx < p2 then (0 : Int32) else
  (nar .boolean (v2_30_0 p2 un))
def Q2 (Z : State) (a1 : Addr) (p2 : Int32) (mn : Int32) (mx : Int32) (un : Int32) (h0 : Heap) (n0 : Nat) (v : Option Value) (h : Heap) (L : List Loc) : Prop := v = some (.int (f2 a1 p2 mn mx un)) ∧ Fr n0 L ∧ h = h0
set_option maxRecDepth 65536 in
set_option maxHeartbeats 40000000 in
theorem rm2 (l : Launch) (Z : State) (a0 : Array Value) (hw : ∀ d ∈ tables_1, d.before a0 Z = true) (ws : List Jvm.Cond) (a1 : Addr) (p2 : Int32) (mn : Int32) (mx : Int32) (un : Int32) (h0 : Heap) (n0 : Nat) (Z0 : n0 ≤ h0.size) (F_mn : Fld Z h0 a1 "com/example/lean_lease/leanlease/wire/OptionFormat" "minLength" "I" (.int mn)) (F_mx : Fld Z h0 a1 "com/example/lean_lease/leanlease/wire/OptionFormat" "maxLength" "I" (.int mx)) (F_un : Fld Z h0 a1 "com/example/lean_lease/leanlease/wire/OptionFormat" "unit" "I" (.int un)) (hu : un ≠ 0) :
    MetFree l (⟨"com/example/lean_lease/leanlease/wire/OptionFormat", "fits", "(I)Z"⟩ : MethodName) (head1 (Jvm.Cond.code (⟨"com/example/lean_lease/leanlease/wire/OptionFormat", "fits", "(I)Z"⟩ : MethodName) prog_47_method_4_code 2 (some .boolean) :: ws) ({ frames := 0, cells := 0, slots := 0, locals := 0 } : Room)) (fun a U => a = #[(.ref a1), (.int p2)] ∧ Z.Warmed39 U.vm ∧ U.heap = h0) (fun _ _ _ _ _ => True) (fun _ U o U' => ∃ v L, o = .returned v ∧ Q2 Z a1 p2 mn mx un h0 n0 v U'.heap L ∧ FrameEnd U o U' L ({ frames := 0, cells := 0, slots := 0, locals := 0 } : Room).cells ({ frames := 0, cells := 0, slots := 0, locals := 0 } : Room).slots) := by
  refine MetFree.of_bodySF (plainFor_of_name pn_2) hisR ?_
  intro p e s m args below meth c s₁ Bd hml0 hP hK
  obtain ⟨rfl, hZ, hh⟩ := hP
  have hx := Bd.exec
  have hby := Bd.bytes
  have hml : c.maxLocals = 2 := hml0
  have hown : s.vm.findClass "com/example/lean_lease/leanlease/wire/OptionFormat" = some m.cls := findClass_of_methodNamed Bd.named
  have hnm := (name_of_methodNamed Bd.named Bd.method).1
  have X0 : Stand p l e ({ frames := 0, cells := 0, slots := 0, locals := 0 } : Room) s m #[(.ref a1), (.int p2)] below meth c s₁ [] 0 0 := Stand.of_body Bd
  have e0 : s₁.heap = h0 := by rw [← hh, Bd.state]; rfl
  have N0 := Fr.nil n0
  refine Goes.via (next := s₁.setTop (mkF m 0 #[.val (.ref a1), .val (.int p2)] [])) (fun t k => castTop (ef_2 m a1 p2) k) ?_
  refine Goes.via (fun t k => XS.iloadN X0.here hx rfl (hb hby d2_0) rfl k) ?_
  show Goes p e below (s₁.setTop (mkF m 1 #[.val (.ref a1), .val (.int p2)] [(.int p2)])) _
  refine Goes.via (fun t k => XS.aloadN X0.here hx rfl (hb hby d2_1) rfl rfl k) ?_
  show Goes p e below (s₁.setTop (mkF m 2 #[.val (.ref a1), .val (.int p2)] [(.ref a1), (.int p2)])) _
  obtain ⟨T1, X1, e1, st1⟩ := getF X0 hx hZ hown (host := "") (Or.inl (hw _ (List.mem_of_getElem? (i := 12) rfl))) Via.refl e0 F_mn (g := (mkF m 2 #[.val (.ref a1), .val (.int p2)] [(.ref a1), (.int p2)])) rfl rfl (hb hby d2_2)
  refine Goes.via st1 ?_
  show Goes p e below (T1.setTop (mkF m 5 #[.val (.ref a1), .val (.int p2)] [(.int mn), (.int p2)])) _
  by_cases hc5_2 : p2 < mn
  · refine Goes.via (fun t k => XS.icmpYes X1.here hx rfl (pc0 := 5) (pc' := 29) rfl (hb hby d2_5) rfl (tlt hc5_2).1 (by decide) (by decide) k) ?_
    show Goes p e below (T1.setTop (mkF m 29 #[.val (.ref a1), .val (.int p2)] [])) _
    refine Goes.via (fun t k => XS.iconst X1.here hx rfl (hb hby d2_29) k) ?_
    show Goes p e below (T1.setTop (mkF m 30 #[.val (.ref a1), .val (.int p2)] [(.int (0 : Int32))])) _
    obtain ⟨fs, hr, hrun, hended, hW, hsame⟩ := X1.leave (v := some (.int (0 : Int32))) (fun h => by rw [Bd.returns] at h; cases h)
    refine ⟨_, _, ?_, hrun, hended, _, _, rfl, ?_, ⟨_, rfl⟩, hW, hsame.mono (by decide) (by decide)⟩
    · exact retN X1 hx (t := .boolean) Bd.returns (by simp) (hb hby d2_30) hr
    · show Q2 Z a1 p2 mn mx un h0 n0 _ T1.heap _
      rw [e1]
      exact ⟨congrArg some (congrArg _ (by simp only [f2, if_pos hc5_2])), N0, rfl⟩
  · refine Goes.via (fun t k => XS.icmpNo X1.here hx rfl (hb hby d2_5) rfl (flt hc5_2).1 k) ?_
    show Goes p e below (T1.setTop (mkF m 8 #[.val (.ref a1), .val (.int p2)] [])) _
    refine Goes.via (fun t k => XS.iloadN X1.here hx rfl (hb hby d2_8) rfl k) ?_
    show Goes p e below (T1.setTop (mkF m 9 #[.val (.ref a1), .val (.int p2)] [(.int p2)])) _
    refine Goes.via (fun t k => XS.aloadN X1.here hx rfl (hb hby d2_9) rfl rfl k) ?_
    show Goes p e below (T1.setTop (mkF m 10 #[.val (.ref a1), .val (.int p2)] [(.ref a1), (.int p2)])) _
    obtain ⟨T3, X3, e3, st3⟩ := getF X1 hx hZ hown (host := "") (Or.inl (hw _ (List.mem_of_getElem? (i := 19) rfl))) Via.refl e1 F_mx (g := (mkF m 10 #[.val (.ref a1), .val (.int p2)] [(.ref a1), (.int p2)])) rfl rfl (hb hby d2_10)
    refine Goes.via st3 ?_
    show Goes p e below (T3.setTop (mkF m 13 #[.val (.ref a1), .val (.int p2)] [(.int mx), (.int p2)])) _
    by_cases hc13_4 : mx < p2
    · refine Goes.via (fun t k => XS.icmpYes X3.here hx rfl (pc0 := 13) (pc' := 29) rfl (hb hby d2_13) rfl (tlt hc13_4).2.2.1 (by decide) (by decide) k) ?_
      show Goes p e below (T3.setTop (mkF m 29 #[.val (.ref a1), .val (.int p2)] [])) _
      refine Goes.via (fun t k => XS.iconst X3.here hx rfl (hb hby d2_29) k) ?_
      show Goes p e below (T3.setTop (mkF m 30 #[.val (.ref a1), .val (.int p2)] [(.int (0 : Int32))])) _
      obtain ⟨fs, hr, hrun, hended, hW, hsame⟩ := X3.leave (v := some (.int (0 : Int32))) (fun h => by rw [Bd.returns] at h; cases h)
      refine ⟨_, _, ?_, hrun, hended, _, _, rfl, ?_, ⟨_, rfl⟩, hW, hsame.mono (by decide) (by decide)⟩
      · exact retN X3 hx (t := .boolean) Bd.returns (by simp) (hb hby d2_30) hr
      · show Q2 Z a1 p2 mn mx un h0 n0 _ T3.heap _
        rw [e3]
        exact ⟨congrArg some (congrArg _ (by simp only [f2, if_neg hc5_2, if_pos hc13_4])), N0, rfl⟩
    · refine Goes.via (fun t k => XS.icmpNo X3.here hx rfl (hb hby d2_13) rfl (flt hc13_4).2.2.1 k) ?_
      show Goes p e below (T3.setTop (mkF m 16 #[.val (.ref a1), .val (.int p2)] [])) _
      refine Goes.via (fun t k => XS.iloadN X3.here hx rfl (hb hby d2_16) rfl k) ?_
      show Goes p e below (T3.setTop (mkF m 17 #[.val (.ref a1), .val (.int p2)] [(.int p2)])) _
      refine Goes.via (fun t k => XS.aloadN X3.here hx rfl (hb hby d2_17) rfl rfl k) ?_
      show Goes p e below (T3.setTop (mkF m 18 #[.val (.ref a1), .val (.int p2)] [(.ref a1), (.int p2)])) _
      obtain ⟨T5, X5, e5, st5⟩ := getF X3 hx hZ hown (host := "") (Or.inl (hw _ (List.mem_of_getElem? (i := 21) rfl))) Via.refl e3 F_un (g := (mkF m 18 #[.val (.ref a1), .val (.int p2)] [(.ref a1), (.int p2)])) rfl rfl (hb hby d2_18)
      refine Goes.via st5 ?_
      show Goes p e below (T5.setTop (mkF m 21 #[.val (.ref a1), .val (.int p2)] [(.int un), (.int p2)])) _
      refine Goes.via (fun t k => iremM X5 hx rfl (hb hby d2_21) rfl hu k) ?_
      show Goes p e below (T5.setTop (mkF m 22 #[.val (.ref a1), .val (.int p2)] [(.int (p2 % un))])) _
      refine Goes.via (next := T5.setTop (mkF m 30 #[.val (.ref a1), .val (.int p2)] [(.int (v2_30_0 p2 un))])) (fun t k => ?_) ?_
      · by_cases hc22_6 : (p2 % un) = (0 : Int32)
        · refine XS.ifNo X5.here hx rfl (hb hby d2_22) rfl ((if0 _ _).trans (teq hc22_6).2) ?_
          show Steps p.tables e below (T5.setTop (mkF m 25 #[.val (.ref a1), .val (.int p2)] [])) _
          refine XS.iconst X5.here hx rfl (hb hby d2_25) ?_
          show Steps p.tables e below (T5.setTop (mkF m 26 #[.val (.ref a1), .val (.int p2)] [(.int (1 : Int32))])) _
          refine XS.goto X5.here hx rfl (pc0 := 26) (pc' := 30) rfl (hb hby d2_26) (by decide) (by decide) ?_
          show Steps p.tables e below (T5.setTop (mkF m 30 #[.val (.ref a1), .val (.int p2)] [(.int (1 : Int32))])) _
          simpa only [v2_30_0, if_pos hc22_6] using k
        · refine XS.ifYes X5.here hx rfl (pc0 := 22) (pc' := 29) rfl (hb hby d2_22) rfl ((if0 _ _).trans (feq hc22_6).2) (by decide) (by decide) ?_
          show Steps p.tables e below (T5.setTop (mkF m 29 #[.val (.ref a1), .val (.int p2)] [])) _
          refine XS.iconst X5.here hx rfl (hb hby d2_29) ?_
          show Steps p.tables e below (T5.setTop (mkF m 30 #[.val (.ref a1), .val (.int p2)] [(.int (0 : Int32))])) _
          simpa only [v2_30_0, if_neg hc22_6] using k
      show Goes p e below (T5.setTop (mkF m 30 #[.val (.ref a1), .val (.int p2)] [(.int (v2_30_0 p2 un))])) _
      obtain ⟨fs, hr, hrun, hended, hW, hsame⟩ := X5.leave (v := some (.int (nar .boolean (v2_30_0 p2 un)))) (fun h => by rw [Bd.returns] at h; cases h)
      refine ⟨_, _, ?_, hrun, hended, _, _, rfl, ?_, ⟨_, rfl⟩, hW, hsame.mono (by decide) (by decide)⟩
      · exact retN X5 hx (t := .boolean) Bd.returns (by simp) (hb hby d2_30) hr
      · show Q2 Z a1 p2 mn mx un h0 n0 _ T5.heap _
        rw [e5]
        exact ⟨congrArg some (congrArg _ (by simp only [f2, if_neg hc5_2, if_neg hc13_4])), N0, rfl⟩
theorem d3_0 : decode method_3_code 0 = .ok (.iload_n 0, 1) := by decide +kernel
theorem d3_1 : decode method_3_code 1 = .ok (.ifCond .eq 8, 3) := by decide +kernel
theorem d3_4 : decode method_3_code 4 = .ok (.iload_n 0, 1) := by decide +kernel
theorem d3_5 : decode method_3_code 5 = .ok (.iconst 4, 1) := by decide +kernel
theorem d3_6 : decode method_3_code 6 = .ok (.if_icmp .ne 14, 3) := by decide +kernel
theorem d3_9 : decode method_3_code 9 = .ok (.iload_n 1, 1) := by decide +kernel
theorem d3_10 : decode method_3_code 10 = .ok (.iconst 4, 1) := by decide +kernel
theorem d3_11 : decode method_3_code 11 = .ok (.if_icmp .ne 7, 3) := by decide +kernel
theorem d3_14 : decode method_3_code 14 = .ok (.iconst 1, 1) := by decide +kernel
theorem d3_15 : decode method_3_code 15 = .ok (.goto 4, 3) := by decide +kernel
theorem d3_18 : decode method_3_code 18 = .ok (.iconst 0, 1) := by decide +kernel
theorem d3_19 : decode method_3_code 19 = .ok (.ireturn, 1) := by decide +kernel
theorem d3_20 : decode method_3_code 20 = .ok (.iload_n 0, 1) := by decide +kernel
theorem d3_21 : decode method_3_code 21 = .ok (.iconst 1, 1) := by decide +kernel
theorem d3_22 : decode method_3_code 22 = .ok (.if_icmp .ne 19, 3) := by decide +kernel
theorem d3_25 : decode method_3_code 25 = .ok (.iload_n 1, 1) := by decide +kernel
theorem d3_26 : decode method_3_code 26 = .ok (.ifCond .le 13, 3) := by decide +kernel
theorem d3_29 : decode method_3_code 29 = .ok (.iload_n 1, 1) := by decide +kernel
theorem d3_30 : decode method_3_code 30 = .ok (.iconst 3, 1) := by decide +kernel
theorem d3_31 : decode method_3_code 31 = .ok (.iand, 1) := by decide +kernel
theorem d3_32 : decode method_3_code 32 = .ok (.ifCond .ne 7, 3) := by decide +kernel
theorem d3_35 : decode method_3_code 35 = .ok (.iconst 1, 1) := by decide +kernel
theorem d3_36 : decode method_3_code 36 = .ok (.goto 4, 3) := by decide +kernel
theorem d3_39 : decode method_3_code 39 = .ok (.iconst 0, 1) := by decide +kernel
theorem d3_40 : decode method_3_code 40 = .ok (.ireturn, 1) := by decide +kernel
theorem d3_41 : decode method_3_code 41 = .ok (.iload_n 0, 1) := by decide +kernel
theorem d3_42 : decode method_3_code 42 = .ok (.iconst 2, 1) := by decide +kernel
theorem d3_43 : decode method_3_code 43 = .ok (.if_icmp .ne 14, 3) := by decide +kernel
theorem d3_46 : decode method_3_code 46 = .ok (.iload_n 1, 1) := by decide +kernel
theorem d3_47 : decode method_3_code 47 = .ok (.iconst 1, 1) := by decide +kernel
theorem d3_48 : decode method_3_code 48 = .ok (.if_icmp .ne 7, 3) := by decide +kernel
theorem d3_51 : decode method_3_code 51 = .ok (.iconst 1, 1) := by decide +kernel
theorem d3_52 : decode method_3_code 52 = .ok (.goto 4, 3) := by decide +kernel
theorem d3_55 : decode method_3_code 55 = .ok (.iconst 0, 1) := by decide +kernel
theorem d3_56 : decode method_3_code 56 = .ok (.ireturn, 1) := by decide +kernel
theorem d3_57 : decode method_3_code 57 = .ok (.iload_n 0, 1) := by decide +kernel
theorem d3_58 : decode method_3_code 58 = .ok (.iconst 3, 1) := by decide +kernel
theorem d3_59 : decode method_3_code 59 = .ok (.if_icmp .ne 14, 3) := by decide +kernel
theorem d3_62 : decode method_3_code 62 = .ok (.iload_n 1, 1) := by decide +kernel
theorem d3_63 : decode method_3_code 63 = .ok (.iconst 2, 1) := by decide +kernel
theorem d3_64 : decode method_3_code 64 = .ok (.if_icmp .ne 7, 3) := by decide +kernel
theorem d3_67 : decode method_3_code 67 = .ok (.iconst 1, 1) := by decide +kernel
theorem d3_68 : decode method_3_code 68 = .ok (.goto 4, 3) := by decide +kernel
theorem d3_71 : decode method_3_code 71 = .ok (.iconst 0, 1) := by decide +kernel
theorem d3_72 : decode method_3_code 72 = .ok (.ireturn, 1) := by decide +kernel
theorem d3_73 : decode method_3_code 73 = .ok (.iload_n 0, 1) := by decide +kernel
theorem d3_74 : decode method_3_code 74 = .ok (.iconst 5, 1) := by decide +kernel
theorem d3_75 : decode method_3_code 75 = .ok (.if_icmp .eq 9, 3) := by decide +kernel
theorem d3_78 : decode method_3_code 78 = .ok (.iload_n 0, 1) := by decide +kernel
theorem d3_79 : decode method_3_code 79 = .ok (.bipush 6, 2) := by decide +kernel
theorem d3_81 : decode method_3_code 81 = .ok (.if_icmp .ne 14, 3) := by decide +kernel
theorem d3_84 : decode method_3_code 84 = .ok (.iload_n 1, 1) := by decide +kernel
theorem d3_85 : decode method_3_code 85 = .ok (.iconst 1, 1) := by decide +kernel
theorem d3_86 : decode method_3_code 86 = .ok (.if_icmp .lt 7, 3) := by decide +kernel
theorem d3_89 : decode method_3_code 89 = .ok (.iconst 1, 1) := by decide +kernel
theorem d3_90 : decode method_3_code 90 = .ok (.goto 4, 3) := by decide +kernel
theorem d3_93 : decode method_3_code 93 = .ok (.iconst 0, 1) := by decide +kernel
theorem d3_94 : decode method_3_code 94 = .ok (.ireturn, 1) := by decide +kernel
theorem d3_95 : decode method_3_code 95 = .ok (.iload_n 1, 1) := by decide +kernel
theorem d3_96 : decode method_3_code 96 = .ok (.ifCond .lt 7, 3) := by decide +kernel
theorem d3_99 : decode method_3_code 99 = .ok (.iconst 1, 1) := by decide +kernel
theorem d3_100 : decode method_3_code 100 = .ok (.goto 4, 3) := by decide +kernel
theorem d3_103 : decode method_3_code 103 = .ok (.iconst 0, 1) := by decide +kernel
theorem d3_104 : decode method_3_code 104 = .ok (.ireturn, 1) := by decide +kernel
theorem pn_3 : plainName "com/example/lean_lease/leanlease/wire/OptionFormatFitsPinLaw" = true := by first | (simp [plainName, overriddenIn]; done) | decide +kernel
theorem ef_3 (m : MethodId) (x0 : Int32) (x1 : Int32) : entryFrame m #[(.int x0), (.int x1)] 2 = mkF m 0 #[.val (.int x0), .val (.int x1)] [] := by first | (simp [entryFrame, mkF, argsToLocals, Value.category]; done) | rfl
def v3_19_0 (p2 : Int32) : Int32 := (if p2 = (4 : Int32) then (1 : Int32) else (0 : Int32))
def v3_40_1 (p2 : Int32) : Int32 := (if (0 : Int32) < p2 then (if (p2 &&& (3 : Int32)) = (0 : Int32) then (1 : Int32) else (0 : Int32)) else (0 : Int32))
def v3_56_2 (p2 : Int32) : Int32 := (if p2 = (1 : Int32) then (1 : Int32) else (0 : Int32))
def v3_72_3 (p2 : Int32) : Int32 := (if p2 = (2 : Int32) then (1 : Int32) else (0 : Int32))
def v3_94_4 (p2 : Int32) : Int32 := (if p2 < (1 : Int32) then (0 : Int32) else (1 : Int32))
def v3_104_5 (p2 : Int32) : Int32 := (if p2 < (0 : Int32) then (0 : Int32) else (1 : Int32))
def f3 (p1 : Int32) (p2 : Int32) : Int32 :=
  if p1 = (0 : Int32) then (nar .boolean (v3_19_0 p2)) else
  if p1 = (4 : Int32) then (nar .boolean (v3_19_0 p2)) else
  if p1 = (1 : Int32) then (nar .boolean (v3_40_1 p2)) else
  if p1 = (2 : Int32) then (nar .boolean (v3_56_2 p2)) else
  if p1 = (3 : Int32) then (nar .boolean (v3_72_3 p2)) else
  if p1 = (5 : Int32) then (nar .boolean (v3_94_4 p2)) else
  if p1 = (6 : Int32) then (nar .boolean (v3_94_4 p2)) else
  (nar .boolean (v3_104_5 p2))
def Q3 (Z : State) (p1 : Int32) (p2 : Int32) (h0 : Heap) (n0 : Nat) (v : Option Value) (h : Heap) (L : List Loc) : Prop := v = some (.int (f3 p1 p2)) ∧ Fr n0 L ∧ h = h0
set_option maxRecDepth 65536 in
set_option maxHeartbeats 40000000 in
theorem rm3 (l : Launch) (Z : State) (a0 : Array Value) (hw : ∀ d ∈ tables_1, d.before a0 Z = true) (ws : List Jvm.Cond) (p1 : Int32) (p2 : Int32) (h0 : Heap) (n0 : Nat) (Z0 : n0 ≤ h0.size) :
    MetFree l (⟨"com/example/lean_lease/leanlease/wire/OptionFormatFitsPinLaw", "expected", "(II)Z"⟩ : MethodName) (head1 (Jvm.Cond.code (⟨"com/example/lean_lease/leanlease/wire/OptionFormatFitsPinLaw", "expected", "(II)Z"⟩ : MethodName) method_3_code 2 (some .boolean) :: ws) ({ frames := 0, cells := 0, slots := 0, locals := 0 } : Room)) (fun a U => a = #[(.int p1), (.int p2)] ∧ Z.Warmed39 U.vm ∧ U.heap = h0) (fun _ _ _ _ _ => True) (fun _ U o U' => ∃ v L, o = .returned v ∧ Q3 Z p1 p2 h0 n0 v U'.heap L ∧ FrameEnd U o U' L ({ frames := 0, cells := 0, slots := 0, locals := 0 } : Room).cells ({ frames := 0, cells := 0, slots := 0, locals := 0 } : Room).slots) := by
  refine MetFree.of_bodySF (plainFor_of_name pn_3) hisR ?_
  intro p e s m args below meth c s₁ Bd hml0 hP hK
  obtain ⟨rfl, hZ, hh⟩ := hP
  have hx := Bd.exec
  have hby := Bd.bytes
  have hml : c.maxLocals = 2 := hml0
  have hown : s.vm.findClass "com/example/lean_lease/leanlease/wire/OptionFormatFitsPinLaw" = some m.cls := findClass_of_methodNamed Bd.named
  have hnm := (name_of_methodNamed Bd.named Bd.method).1
  have X0 : Stand p l e ({ frames := 0, cells := 0, slots := 0, locals := 0 } : Room) s m #[(.int p1), (.int p2)] below meth c s₁ [] 0 0 := Stand.of_body Bd
  have e0 : s₁.heap = h0 := by rw [← hh, Bd.state]; rfl
  have N0 := Fr.nil n0
  refine Goes.via (next := s₁.setTop (mkF m 0 #[.val (.int p1), .val (.int p2)] [])) (fun t k => castTop (ef_3 m p1 p2) k) ?_
  refine Goes.via (fun t k => XS.iloadN X0.here hx rfl (hb hby d3_0) rfl k) ?_
  show Goes p e below (s₁.setTop (mkF m 1 #[.val (.int p1), .val (.int p2)] [(.int p1)])) _
  by_cases hc1_1 : p1 = (0 : Int32)
  · refine Goes.via (fun t k => XS.ifYes X0.here hx rfl (pc0 := 1) (pc' := 9) rfl (hb hby d3_1) rfl ((if0 _ _).trans (teq hc1_1).1) (by decide) (by decide) k) ?_
    show Goes p e below (s₁.setTop (mkF m 9 #[.val (.int p1), .val (.int p2)] [])) _
    refine Goes.via (fun t k => XS.iloadN X0.here hx rfl (hb hby d3_9) rfl k) ?_
    show Goes p e below (s₁.setTop (mkF m 10 #[.val (.int p1), .val (.int p2)] [(.int p2)])) _
    refine Goes.via (fun t k => XS.iconst X0.here hx rfl (hb hby d3_10) k) ?_
    show Goes p e below (s₁.setTop (mkF m 11 #[.val (.int p1), .val (.int p2)] [(.int (4 : Int32)), (.int p2)])) _
    refine Goes.via (next := s₁.setTop (mkF m 19 #[.val (.int p1), .val (.int p2)] [(.int (v3_19_0 p2))])) (fun t k => ?_) ?_
    · by_cases hc11_2 : p2 = (4 : Int32)
      · refine XS.icmpNo X0.here hx rfl (hb hby d3_11) rfl (teq hc11_2).2 ?_
        show Steps p.tables e below (s₁.setTop (mkF m 14 #[.val (.int p1), .val (.int p2)] [])) _
        refine XS.iconst X0.here hx rfl (hb hby d3_14) ?_
        show Steps p.tables e below (s₁.setTop (mkF m 15 #[.val (.int p1), .val (.int p2)] [(.int (1 : Int32))])) _
        refine XS.goto X0.here hx rfl (pc0 := 15) (pc' := 19) rfl (hb hby d3_15) (by decide) (by decide) ?_
        show Steps p.tables e below (s₁.setTop (mkF m 19 #[.val (.int p1), .val (.int p2)] [(.int (1 : Int32))])) _
        simpa only [v3_19_0, if_pos hc11_2] using k
      · refine XS.icmpYes X0.here hx rfl (pc0 := 11) (pc' := 18) rfl (hb hby d3_11) rfl (feq hc11_2).2 (by decide) (by decide) ?_
        show Steps p.tables e below (s₁.setTop (mkF m 18 #[.val (.int p1), .val (.int p2)] [])) _
        refine XS.iconst X0.here hx rfl (hb hby d3_18) ?_
        show Steps p.tables e below (s₁.setTop (mkF m 19 #[.val (.int p1), .val (.int p2)] [(.int (0 : Int32))])) _
        simpa only [v3_19_0, if_neg hc11_2] using k
    show Goes p e below (s₁.setTop (mkF m 19 #[.val (.int p1), .val (.int p2)] [(.int (v3_19_0 p2))])) _
    obtain ⟨fs, hr, hrun, hended, hW, hsame⟩ := X0.leave (v := some (.int (nar .boolean (v3_19_0 p2)))) (fun h => by rw [Bd.returns] at h; cases h)
    refine ⟨_, _, ?_, hrun, hended, _, _, rfl, ?_, ⟨_, rfl⟩, hW, hsame.mono (by decide) (by decide)⟩
    · exact retN X0 hx (t := .boolean) Bd.returns (by simp) (hb hby d3_19) hr
    · show Q3 Z p1 p2 h0 n0 _ s₁.heap _
      rw [e0]
      exact ⟨congrArg some (congrArg _ (by simp only [f3, if_pos hc1_1])), N0, rfl⟩
  · refine Goes.via (fun t k => XS.ifNo X0.here hx rfl (hb hby d3_1) rfl ((if0 _ _).trans (feq hc1_1).1) k) ?_
    show Goes p e below (s₁.setTop (mkF m 4 #[.val (.int p1), .val (.int p2)] [])) _
    refine Goes.via (fun t k => XS.iloadN X0.here hx rfl (hb hby d3_4) rfl k) ?_
    show Goes p e below (s₁.setTop (mkF m 5 #[.val (.int p1), .val (.int p2)] [(.int p1)])) _
    refine Goes.via (fun t k => XS.iconst X0.here hx rfl (hb hby d3_5) k) ?_
    show Goes p e below (s₁.setTop (mkF m 6 #[.val (.int p1), .val (.int p2)] [(.int (4 : Int32)), (.int p1)])) _
    by_cases hc6_3 : p1 = (4 : Int32)
    · refine Goes.via (fun t k => XS.icmpNo X0.here hx rfl (hb hby d3_6) rfl (teq hc6_3).2 k) ?_
      show Goes p e below (s₁.setTop (mkF m 9 #[.val (.int p1), .val (.int p2)] [])) _
      refine Goes.via (fun t k => XS.iloadN X0.here hx rfl (hb hby d3_9) rfl k) ?_
      show Goes p e below (s₁.setTop (mkF m 10 #[.val (.int p1), .val (.int p2)] [(.int p2)])) _
      refine Goes.via (fun t k => XS.iconst X0.here hx rfl (hb hby d3_10) k) ?_
      show Goes p e below (s₁.setTop (mkF m 11 #[.val (.int p1), .val (.int p2)] [(.int (4 : Int32)), (.int p2)])) _
      refine Goes.via (next := s₁.setTop (mkF m 19 #[.val (.int p1), .val (.int p2)] [(.int (v3_19_0 p2))])) (fun t k => ?_) ?_
      · by_cases hc11_4 : p2 = (4 : Int32)
        · refine XS.icmpNo X0.here hx rfl (hb hby d3_11) rfl (teq hc11_4).2 ?_
          show Steps p.tables e below (s₁.setTop (mkF m 14 #[.val (.int p1), .val (.int p2)] [])) _
          refine XS.iconst X0.here hx rfl (hb hby d3_14) ?_
          show Steps p.tables e below (s₁.setTop (mkF m 15 #[.val (.int p1), .val (.int p2)] [(.int (1 : Int32))])) _
          refine XS.goto X0.here hx rfl (pc0 := 15) (pc' := 19) rfl (hb hby d3_15) (by decide) (by decide) ?_
          show Steps p.tables e below (s₁.setTop (mkF m 19 #[.val (.int p1), .val (.int p2)] [(.int (1 : Int32))])) _
          simpa only [v3_19_0, if_pos hc11_4] using k
        · refine XS.icmpYes X0.here hx rfl (pc0 := 11) (pc' := 18) rfl (hb hby d3_11) rfl (feq hc11_4).2 (by decide) (by decide) ?_
          show Steps p.tables e below (s₁.setTop (mkF m 18 #[.val (.int p1), .val (.int p2)] [])) _
          refine XS.iconst X0.here hx rfl (hb hby d3_18) ?_
          show Steps p.tables e below (s₁.setTop (mkF m 19 #[.val (.int p1), .val (.int p2)] [(.int (0 : Int32))])) _
          simpa only [v3_19_0, if_neg hc11_4] using k
      show Goes p e below (s₁.setTop (mkF m 19 #[.val (.int p1), .val (.int p2)] [(.int (v3_19_0 p2))])) _
      obtain ⟨fs, hr, hrun, hended, hW, hsame⟩ := X0.leave (v := some (.int (nar .boolean (v3_19_0 p2)))) (fun h => by rw [Bd.returns] at h; cases h)
      refine ⟨_, _, ?_, hrun, hended, _, _, rfl, ?_, ⟨_, rfl⟩, hW, hsame.mono (by decide) (by decide)⟩
      · exact retN X0 hx (t := .boolean) Bd.returns (by simp) (hb hby d3_19) hr
      · show Q3 Z p1 p2 h0 n0 _ s₁.heap _
        rw [e0]
        exact ⟨congrArg some (congrArg _ (by simp only [f3, if_neg hc1_1, if_pos hc6_3])), N0, rfl⟩
    · refine Goes.via (fun t k => XS.icmpYes X0.here hx rfl (pc0 := 6) (pc' := 20) rfl (hb hby d3_6) rfl (feq hc6_3).2 (by decide) (by decide) k) ?_
      show Goes p e below (s₁.setTop (mkF m 20 #[.val (.int p1), .val (.int p2)] [])) _
      refine Goes.via (fun t k => XS.iloadN X0.here hx rfl (hb hby d3_20) rfl k) ?_
      show Goes p e below (s₁.setTop (mkF m 21 #[.val (.int p1), .val (.int p2)] [(.int p1)])) _
      refine Goes.via (fun t k => XS.iconst X0.here hx rfl (hb hby d3_21) k) ?_
      show Goes p e below (s₁.setTop (mkF m 22 #[.val (.int p1), .val (.int p2)] [(.int (1 : Int32)), (.int p1)])) _
      by_cases hc22_5 : p1 = (1 : Int32)
      · refine Goes.via (fun t k => XS.icmpNo X0.here hx rfl (hb hby d3_22) rfl (teq hc22_5).2 k) ?_
        show Goes p e below (s₁.setTop (mkF m 25 #[.val (.int p1), .val (.int p2)] [])) _
        refine Goes.via (fun t k => XS.iloadN X0.here hx rfl (hb hby d3_25) rfl k) ?_
        show Goes p e below (s₁.setTop (mkF m 26 #[.val (.int p1), .val (.int p2)] [(.int p2)])) _
        refine Goes.via (next := s₁.setTop (mkF m 40 #[.val (.int p1), .val (.int p2)] [(.int (v3_40_1 p2))])) (fun t k => ?_) ?_
        · by_cases hc26_6 : (0 : Int32) < p2
          · refine XS.ifNo X0.here hx rfl (hb hby d3_26) rfl ((if0 _ _).trans (tlt hc26_6).2.2.2) ?_
            show Steps p.tables e below (s₁.setTop (mkF m 29 #[.val (.int p1), .val (.int p2)] [])) _
            refine XS.iloadN X0.here hx rfl (hb hby d3_29) rfl ?_
            show Steps p.tables e below (s₁.setTop (mkF m 30 #[.val (.int p1), .val (.int p2)] [(.int p2)])) _
            refine XS.iconst X0.here hx rfl (hb hby d3_30) ?_
            show Steps p.tables e below (s₁.setTop (mkF m 31 #[.val (.int p1), .val (.int p2)] [(.int (3 : Int32)), (.int p2)])) _
            refine XS.iand X0.here hx rfl (hb hby d3_31) rfl ?_
            show Steps p.tables e below (s₁.setTop (mkF m 32 #[.val (.int p1), .val (.int p2)] [(.int (p2 &&& (3 : Int32)))])) _
            by_cases hc32_7 : (p2 &&& (3 : Int32)) = (0 : Int32)
            · refine XS.ifNo X0.here hx rfl (hb hby d3_32) rfl ((if0 _ _).trans (teq hc32_7).2) ?_
              show Steps p.tables e below (s₁.setTop (mkF m 35 #[.val (.int p1), .val (.int p2)] [])) _
              refine XS.iconst X0.here hx rfl (hb hby d3_35) ?_
              show Steps p.tables e below (s₁.setTop (mkF m 36 #[.val (.int p1), .val (.int p2)] [(.int (1 : Int32))])) _
              refine XS.goto X0.here hx rfl (pc0 := 36) (pc' := 40) rfl (hb hby d3_36) (by decide) (by decide) ?_
              show Steps p.tables e below (s₁.setTop (mkF m 40 #[.val (.int p1), .val (.int p2)] [(.int (1 : Int32))])) _
              simpa only [v3_40_1, if_pos hc26_6, if_pos hc32_7] using k
            · refine XS.ifYes X0.here hx rfl (pc0 := 32) (pc' := 39) rfl (hb hby d3_32) rfl ((if0 _ _).trans (feq hc32_7).2) (by decide) (by decide) ?_
              show Steps p.tables e below (s₁.setTop (mkF m 39 #[.val (.int p1), .val (.int p2)] [])) _
              refine XS.iconst X0.here hx rfl (hb hby d3_39) ?_
              show Steps p.tables e below (s₁.setTop (mkF m 40 #[.val (.int p1), .val (.int p2)] [(.int (0 : Int32))])) _
              simpa only [v3_40_1, if_pos hc26_6, if_neg hc32_7] using k
          · refine XS.ifYes X0.here hx rfl (pc0 := 26) (pc' := 39) rfl (hb hby d3_26) rfl ((if0 _ _).trans (flt hc26_6).2.2.2) (by decide) (by decide) ?_
            show Steps p.tables e below (s₁.setTop (mkF m 39 #[.val (.int p1), .val (.int p2)] [])) _
            refine XS.iconst X0.here hx rfl (hb hby d3_39) ?_
            show Steps p.tables e below (s₁.setTop (mkF m 40 #[.val (.int p1), .val (.int p2)] [(.int (0 : Int32))])) _
            simpa only [v3_40_1, if_neg hc26_6] using k
        show Goes p e below (s₁.setTop (mkF m 40 #[.val (.int p1), .val (.int p2)] [(.int (v3_40_1 p2))])) _
        obtain ⟨fs, hr, hrun, hended, hW, hsame⟩ := X0.leave (v := some (.int (nar .boolean (v3_40_1 p2)))) (fun h => by rw [Bd.returns] at h; cases h)
        refine ⟨_, _, ?_, hrun, hended, _, _, rfl, ?_, ⟨_, rfl⟩, hW, hsame.mono (by decide) (by decide)⟩
        · exact retN X0 hx (t := .boolean) Bd.returns (by simp) (hb hby d3_40) hr
        · show Q3 Z p1 p2 h0 n0 _ s₁.heap _
          rw [e0]
          exact ⟨congrArg some (congrArg _ (by simp only [f3, if_neg hc1_1, if_neg hc6_3, if_pos hc22_5])), N0, rfl⟩
      · refine Goes.via (fun t k => XS.icmpYes X0.here hx rfl (pc0 := 22) (pc' := 41) rfl (hb hby d3_22) rfl (feq hc22_5).2 (by decide) (by decide) k) ?_
        show Goes p e below (s₁.setTop (mkF m 41 #[.val (.int p1), .val (.int p2)] [])) _
        refine Goes.via (fun t k => XS.iloadN X0.here hx rfl (hb hby d3_41) rfl k) ?_
        show Goes p e below (s₁.setTop (mkF m 42 #[.val (.int p1), .val (.int p2)] [(.int p1)])) _
        refine Goes.via (fun t k => XS.iconst X0.here hx rfl (hb hby d3_42) k) ?_
        show Goes p e below (s₁.setTop (mkF m 43 #[.val (.int p1), .val (.int p2)] [(.int (2 : Int32)), (.int p1)])) _
        by_cases hc43_8 : p1 = (2 : Int32)
        · refine Goes.via (fun t k => XS.icmpNo X0.here hx rfl (hb hby d3_43) rfl (teq hc43_8).2 k) ?_
          show Goes p e below (s₁.setTop (mkF m 46 #[.val (.int p1), .val (.int p2)] [])) _
          refine Goes.via (fun t k => XS.iloadN X0.here hx rfl (hb hby d3_46) rfl k) ?_
          show Goes p e below (s₁.setTop (mkF m 47 #[.val (.int p1), .val (.int p2)] [(.int p2)])) _
          refine Goes.via (fun t k => XS.iconst X0.here hx rfl (hb hby d3_47) k) ?_
          show Goes p e below (s₁.setTop (mkF m 48 #[.val (.int p1), .val (.int p2)] [(.int (1 : Int32)), (.int p2)])) _
          refine Goes.via (next := s₁.setTop (mkF m 56 #[.val (.int p1), .val (.int p2)] [(.int (v3_56_2 p2))])) (fun t k => ?_) ?_
          · by_cases hc48_9 : p2 = (1 : Int32)
            · refine XS.icmpNo X0.here hx rfl (hb hby d3_48) rfl (teq hc48_9).2 ?_
              show Steps p.tables e below (s₁.setTop (mkF m 51 #[.val (.int p1), .val (.int p2)] [])) _
              refine XS.iconst X0.here hx rfl (hb hby d3_51) ?_
              show Steps p.tables e below (s₁.setTop (mkF m 52 #[.val (.int p1), .val (.int p2)] [(.int (1 : Int32))])) _
              refine XS.goto X0.here hx rfl (pc0 := 52) (pc' := 56) rfl (hb hby d3_52) (by decide) (by decide) ?_
              show Steps p.tables e below (s₁.setTop (mkF m 56 #[.val (.int p1), .val (.int p2)] [(.int (1 : Int32))])) _
              simpa only [v3_56_2, if_pos hc48_9] using k
            · refine XS.icmpYes X0.here hx rfl (pc0 := 48) (pc' := 55) rfl (hb hby d3_48) rfl (feq hc48_9).2 (by decide) (by decide) ?_
              show Steps p.tables e below (s₁.setTop (mkF m 55 #[.val (.int p1), .val (.int p2)] [])) _
              refine XS.iconst X0.here hx rfl (hb hby d3_55) ?_
              show Steps p.tables e below (s₁.setTop (mkF m 56 #[.val (.int p1), .val (.int p2)] [(.int (0 : Int32))])) _
              simpa only [v3_56_2, if_neg hc48_9] using k
          show Goes p e below (s₁.setTop (mkF m 56 #[.val (.int p1), .val (.int p2)] [(.int (v3_56_2 p2))])) _
          obtain ⟨fs, hr, hrun, hended, hW, hsame⟩ := X0.leave (v := some (.int (nar .boolean (v3_56_2 p2)))) (fun h => by rw [Bd.returns] at h; cases h)
          refine ⟨_, _, ?_, hrun, hended, _, _, rfl, ?_, ⟨_, rfl⟩, hW, hsame.mono (by decide) (by decide)⟩
          · exact retN X0 hx (t := .boolean) Bd.returns (by simp) (hb hby d3_56) hr
          · show Q3 Z p1 p2 h0 n0 _ s₁.heap _
            rw [e0]
            exact ⟨congrArg some (congrArg _ (by simp only [f3, if_neg hc1_1, if_neg hc6_3, if_neg hc22_5, if_pos hc43_8])), N0, rfl⟩
        · refine Goes.via (fun t k => XS.icmpYes X0.here hx rfl (pc0 := 43) (pc' := 57) rfl (hb hby d3_43) rfl (feq hc43_8).2 (by decide) (by decide) k) ?_
          show Goes p e below (s₁.setTop (mkF m 57 #[.val (.int p1), .val (.int p2)] [])) _
          refine Goes.via (fun t k => XS.iloadN X0.here hx rfl (hb hby d3_57) rfl k) ?_
          show Goes p e below (s₁.setTop (mkF m 58 #[.val (.int p1), .val (.int p2)] [(.int p1)])) _
          refine Goes.via (fun t k => XS.iconst X0.here hx rfl (hb hby d3_58) k) ?_
          show Goes p e below (s₁.setTop (mkF m 59 #[.val (.int p1), .val (.int p2)] [(.int (3 : Int32)), (.int p1)])) _
          by_cases hc59_10 : p1 = (3 : Int32)
          · refine Goes.via (fun t k => XS.icmpNo X0.here hx rfl (hb hby d3_59) rfl (teq hc59_10).2 k) ?_
            show Goes p e below (s₁.setTop (mkF m 62 #[.val (.int p1), .val (.int p2)] [])) _
            refine Goes.via (fun t k => XS.iloadN X0.here hx rfl (hb hby d3_62) rfl k) ?_
            show Goes p e below (s₁.setTop (mkF m 63 #[.val (.int p1), .val (.int p2)] [(.int p2)])) _
            refine Goes.via (fun t k => XS.iconst X0.here hx rfl (hb hby d3_63) k) ?_
            show Goes p e below (s₁.setTop (mkF m 64 #[.val (.int p1), .val (.int p2)] [(.int (2 : Int32)), (.int p2)])) _
            refine Goes.via (next := s₁.setTop (mkF m 72 #[.val (.int p1), .val (.int p2)] [(.int (v3_72_3 p2))])) (fun t k => ?_) ?_
            · by_cases hc64_11 : p2 = (2 : Int32)
              · refine XS.icmpNo X0.here hx rfl (hb hby d3_64) rfl (teq hc64_11).2 ?_
                show Steps p.tables e below (s₁.setTop (mkF m 67 #[.val (.int p1), .val (.int p2)] [])) _
                refine XS.iconst X0.here hx rfl (hb hby d3_67) ?_
                show Steps p.tables e below (s₁.setTop (mkF m 68 #[.val (.int p1), .val (.int p2)] [(.int (1 : Int32))])) _
                refine XS.goto X0.here hx rfl (pc0 := 68) (pc' := 72) rfl (hb hby d3_68) (by decide) (by decide) ?_
                show Steps p.tables e below (s₁.setTop (mkF m 72 #[.val (.int p1), .val (.int p2)] [(.int (1 : Int32))])) _
                simpa only [v3_72_3, if_pos hc64_11] using k
              · refine XS.icmpYes X0.here hx rfl (pc0 := 64) (pc' := 71) rfl (hb hby d3_64) rfl (feq hc64_11).2 (by decide) (by decide) ?_
                show Steps p.tables e below (s₁.setTop (mkF m 71 #[.val (.int p1), .val (.int p2)] [])) _
                refine XS.iconst X0.here hx rfl (hb hby d3_71) ?_
                show Steps p.tables e below (s₁.setTop (mkF m 72 #[.val (.int p1), .val (.int p2)] [(.int (0 : Int32))])) _
                simpa only [v3_72_3, if_neg hc64_11] using k
            show Goes p e below (s₁.setTop (mkF m 72 #[.val (.int p1), .val (.int p2)] [(.int (v3_72_3 p2))])) _
            obtain ⟨fs, hr, hrun, hended, hW, hsame⟩ := X0.leave (v := some (.int (nar .boolean (v3_72_3 p2)))) (fun h => by rw [Bd.returns] at h; cases h)
            refine ⟨_, _, ?_, hrun, hended, _, _, rfl, ?_, ⟨_, rfl⟩, hW, hsame.mono (by decide) (by decide)⟩
            · exact retN X0 hx (t := .boolean) Bd.returns (by simp) (hb hby d3_72) hr
            · show Q3 Z p1 p2 h0 n0 _ s₁.heap _
              rw [e0]
              exact ⟨congrArg some (congrArg _ (by simp only [f3, if_neg hc1_1, if_neg hc6_3, if_neg hc22_5, if_neg hc43_8, if_pos hc59_10])), N0, rfl⟩
          · refine Goes.via (fun t k => XS.icmpYes X0.here hx rfl (pc0 := 59) (pc' := 73) rfl (hb hby d3_59) rfl (feq hc59_10).2 (by decide) (by decide) k) ?_
            show Goes p e below (s₁.setTop (mkF m 73 #[.val (.int p1), .val (.int p2)] [])) _
            refine Goes.via (fun t k => XS.iloadN X0.here hx rfl (hb hby d3_73) rfl k) ?_
            show Goes p e below (s₁.setTop (mkF m 74 #[.val (.int p1), .val (.int p2)] [(.int p1)])) _
            refine Goes.via (fun t k => XS.iconst X0.here hx rfl (hb hby d3_74) k) ?_
            show Goes p e below (s₁.setTop (mkF m 75 #[.val (.int p1), .val (.int p2)] [(.int (5 : Int32)), (.int p1)])) _
            by_cases hc75_12 : p1 = (5 : Int32)
            · refine Goes.via (fun t k => XS.icmpYes X0.here hx rfl (pc0 := 75) (pc' := 84) rfl (hb hby d3_75) rfl (teq hc75_12).1 (by decide) (by decide) k) ?_
              show Goes p e below (s₁.setTop (mkF m 84 #[.val (.int p1), .val (.int p2)] [])) _
              refine Goes.via (fun t k => XS.iloadN X0.here hx rfl (hb hby d3_84) rfl k) ?_
              show Goes p e below (s₁.setTop (mkF m 85 #[.val (.int p1), .val (.int p2)] [(.int p2)])) _
              refine Goes.via (fun t k => XS.iconst X0.here hx rfl (hb hby d3_85) k) ?_
              show Goes p e below (s₁.setTop (mkF m 86 #[.val (.int p1), .val (.int p2)] [(.int (1 : Int32)), (.int p2)])) _
              refine Goes.via (next := s₁.setTop (mkF m 94 #[.val (.int p1), .val (.int p2)] [(.int (v3_94_4 p2))])) (fun t k => ?_) ?_
              · by_cases hc86_13 : p2 < (1 : Int32)
                · refine XS.icmpYes X0.here hx rfl (pc0 := 86) (pc' := 93) rfl (hb hby d3_86) rfl (tlt hc86_13).1 (by decide) (by decide) ?_
                  show Steps p.tables e below (s₁.setTop (mkF m 93 #[.val (.int p1), .val (.int p2)] [])) _
                  refine XS.iconst X0.here hx rfl (hb hby d3_93) ?_
                  show Steps p.tables e below (s₁.setTop (mkF m 94 #[.val (.int p1), .val (.int p2)] [(.int (0 : Int32))])) _
                  simpa only [v3_94_4, if_pos hc86_13] using k
                · refine XS.icmpNo X0.here hx rfl (hb hby d3_86) rfl (flt hc86_13).1 ?_
                  show Steps p.tables e below (s₁.setTop (mkF m 89 #[.val (.int p1), .val (.int p2)] [])) _
                  refine XS.iconst X0.here hx rfl (hb hby d3_89) ?_
                  show Steps p.tables e below (s₁.setTop (mkF m 90 #[.val (.int p1), .val (.int p2)] [(.int (1 : Int32))])) _
                  refine XS.goto X0.here hx rfl (pc0 := 90) (pc' := 94) rfl (hb hby d3_90) (by decide) (by decide) ?_
                  show Steps p.tables e below (s₁.setTop (mkF m 94 #[.val (.int p1), .val (.int p2)] [(.int (1 : Int32))])) _
                  simpa only [v3_94_4, if_neg hc86_13] using k
              show Goes p e below (s₁.setTop (mkF m 94 #[.val (.int p1), .val (.int p2)] [(.int (v3_94_4 p2))])) _
              obtain ⟨fs, hr, hrun, hended, hW, hsame⟩ := X0.leave (v := some (.int (nar .boolean (v3_94_4 p2)))) (fun h => by rw [Bd.returns] at h; cases h)
              refine ⟨_, _, ?_, hrun, hended, _, _, rfl, ?_, ⟨_, rfl⟩, hW, hsame.mono (by decide) (by decide)⟩
              · exact retN X0 hx (t := .boolean) Bd.returns (by simp) (hb hby d3_94) hr
              · show Q3 Z p1 p2 h0 n0 _ s₁.heap _
                rw [e0]
                exact ⟨congrArg some (congrArg _ (by simp only [f3, if_neg hc1_1, if_neg hc6_3, if_neg hc22_5, if_neg hc43_8, if_neg hc59_10, if_pos hc75_12])), N0, rfl⟩
            · refine Goes.via (fun t k => XS.icmpNo X0.here hx rfl (hb hby d3_75) rfl (feq hc75_12).1 k) ?_
              show Goes p e below (s₁.setTop (mkF m 78 #[.val (.int p1), .val (.int p2)] [])) _
              refine Goes.via (fun t k => XS.iloadN X0.here hx rfl (hb hby d3_78) rfl k) ?_
              show Goes p e below (s₁.setTop (mkF m 79 #[.val (.int p1), .val (.int p2)] [(.int p1)])) _
              refine Goes.via (fun t k => XS.bipush X0.here hx rfl (hb hby d3_79) k) ?_
              show Goes p e below (s₁.setTop (mkF m 81 #[.val (.int p1), .val (.int p2)] [(.int (6 : Int32)), (.int p1)])) _
              by_cases hc81_14 : p1 = (6 : Int32)
              · refine Goes.via (fun t k => XS.icmpNo X0.here hx rfl (hb hby d3_81) rfl (teq hc81_14).2 k) ?_
                show Goes p e below (s₁.setTop (mkF m 84 #[.val (.int p1), .val (.int p2)] [])) _
                refine Goes.via (fun t k => XS.iloadN X0.here hx rfl (hb hby d3_84) rfl k) ?_
                show Goes p e below (s₁.setTop (mkF m 85 #[.val (.int p1), .val (.int p2)] [(.int p2)])) _
                refine Goes.via (fun t k => XS.iconst X0.here hx rfl (hb hby d3_85) k) ?_
                show Goes p e below (s₁.setTop (mkF m 86 #[.val (.int p1), .val (.int p2)] [(.int (1 : Int32)), (.int p2)])) _
                refine Goes.via (next := s₁.setTop (mkF m 94 #[.val (.int p1), .val (.int p2)] [(.int (v3_94_4 p2))])) (fun t k => ?_) ?_
                · by_cases hc86_15 : p2 < (1 : Int32)
                  · refine XS.icmpYes X0.here hx rfl (pc0 := 86) (pc' := 93) rfl (hb hby d3_86) rfl (tlt hc86_15).1 (by decide) (by decide) ?_
                    show Steps p.tables e below (s₁.setTop (mkF m 93 #[.val (.int p1), .val (.int p2)] [])) _
                    refine XS.iconst X0.here hx rfl (hb hby d3_93) ?_
                    show Steps p.tables e below (s₁.setTop (mkF m 94 #[.val (.int p1), .val (.int p2)] [(.int (0 : Int32))])) _
                    simpa only [v3_94_4, if_pos hc86_15] using k
                  · refine XS.icmpNo X0.here hx rfl (hb hby d3_86) rfl (flt hc86_15).1 ?_
                    show Steps p.tables e below (s₁.setTop (mkF m 89 #[.val (.int p1), .val (.int p2)] [])) _
                    refine XS.iconst X0.here hx rfl (hb hby d3_89) ?_
                    show Steps p.tables e below (s₁.setTop (mkF m 90 #[.val (.int p1), .val (.int p2)] [(.int (1 : Int32))])) _
                    refine XS.goto X0.here hx rfl (pc0 := 90) (pc' := 94) rfl (hb hby d3_90) (by decide) (by decide) ?_
                    show Steps p.tables e below (s₁.setTop (mkF m 94 #[.val (.int p1), .val (.int p2)] [(.int (1 : Int32))])) _
                    simpa only [v3_94_4, if_neg hc86_15] using k
                show Goes p e below (s₁.setTop (mkF m 94 #[.val (.int p1), .val (.int p2)] [(.int (v3_94_4 p2))])) _
                obtain ⟨fs, hr, hrun, hended, hW, hsame⟩ := X0.leave (v := some (.int (nar .boolean (v3_94_4 p2)))) (fun h => by rw [Bd.returns] at h; cases h)
                refine ⟨_, _, ?_, hrun, hended, _, _, rfl, ?_, ⟨_, rfl⟩, hW, hsame.mono (by decide) (by decide)⟩
                · exact retN X0 hx (t := .boolean) Bd.returns (by simp) (hb hby d3_94) hr
                · show Q3 Z p1 p2 h0 n0 _ s₁.heap _
                  rw [e0]
                  exact ⟨congrArg some (congrArg _ (by simp only [f3, if_neg hc1_1, if_neg hc6_3, if_neg hc22_5, if_neg hc43_8, if_neg hc59_10, if_neg hc75_12, if_pos hc81_14])), N0, rfl⟩
              · refine Goes.via (fun t k => XS.icmpYes X0.here hx rfl (pc0 := 81) (pc' := 95) rfl (hb hby d3_81) rfl (feq hc81_14).2 (by decide) (by decide) k) ?_
                show Goes p e below (s₁.setTop (mkF m 95 #[.val (.int p1), .val (.int p2)] [])) _
                refine Goes.via (fun t k => XS.iloadN X0.here hx rfl (hb hby d3_95) rfl k) ?_
                show Goes p e below (s₁.setTop (mkF m 96 #[.val (.int p1), .val (.int p2)] [(.int p2)])) _
                refine Goes.via (next := s₁.setTop (mkF m 104 #[.val (.int p1), .val (.int p2)] [(.int (v3_104_5 p2))])) (fun t k => ?_) ?_
                · by_cases hc96_16 : p2 < (0 : Int32)
                  · refine XS.ifYes X0.here hx rfl (pc0 := 96) (pc' := 103) rfl (hb hby d3_96) rfl ((if0 _ _).trans (tlt hc96_16).1) (by decide) (by decide) ?_
                    show Steps p.tables e below (s₁.setTop (mkF m 103 #[.val (.int p1), .val (.int p2)] [])) _
                    refine XS.iconst X0.here hx rfl (hb hby d3_103) ?_
                    show Steps p.tables e below (s₁.setTop (mkF m 104 #[.val (.int p1), .val (.int p2)] [(.int (0 : Int32))])) _
                    simpa only [v3_104_5, if_pos hc96_16] using k
                  · refine XS.ifNo X0.here hx rfl (hb hby d3_96) rfl ((if0 _ _).trans (flt hc96_16).1) ?_
                    show Steps p.tables e below (s₁.setTop (mkF m 99 #[.val (.int p1), .val (.int p2)] [])) _
                    refine XS.iconst X0.here hx rfl (hb hby d3_99) ?_
                    show Steps p.tables e below (s₁.setTop (mkF m 100 #[.val (.int p1), .val (.int p2)] [(.int (1 : Int32))])) _
                    refine XS.goto X0.here hx rfl (pc0 := 100) (pc' := 104) rfl (hb hby d3_100) (by decide) (by decide) ?_
                    show Steps p.tables e below (s₁.setTop (mkF m 104 #[.val (.int p1), .val (.int p2)] [(.int (1 : Int32))])) _
                    simpa only [v3_104_5, if_neg hc96_16] using k
                show Goes p e below (s₁.setTop (mkF m 104 #[.val (.int p1), .val (.int p2)] [(.int (v3_104_5 p2))])) _
                obtain ⟨fs, hr, hrun, hended, hW, hsame⟩ := X0.leave (v := some (.int (nar .boolean (v3_104_5 p2)))) (fun h => by rw [Bd.returns] at h; cases h)
                refine ⟨_, _, ?_, hrun, hended, _, _, rfl, ?_, ⟨_, rfl⟩, hW, hsame.mono (by decide) (by decide)⟩
                · exact retN X0 hx (t := .boolean) Bd.returns (by simp) (hb hby d3_104) hr
                · show Q3 Z p1 p2 h0 n0 _ s₁.heap _
                  rw [e0]
                  exact ⟨congrArg some (congrArg _ (by simp only [f3, if_neg hc1_1, if_neg hc6_3, if_neg hc22_5, if_neg hc43_8, if_neg hc59_10, if_neg hc75_12, if_neg hc81_14])), N0, rfl⟩
theorem pn_0 : plainName "com/example/lean_lease/leanlease/wire/OptionFormatFitsPinLaw" = true := by first | (simp [plainName, overriddenIn]; done) | decide +kernel
theorem pd_0_0 : parseMethodDescriptor "(I)Lcom/example/lean_lease/leanlease/wire/OptionFormat;" = some ⟨[.int], some (.object "com/example/lean_lease/leanlease/wire/OptionFormat")⟩ := by decide +kernel
theorem pd_0_1 : parseMethodDescriptor "(I)Z" = some ⟨[.int], some .boolean⟩ := by decide +kernel
theorem pd_0_2 : parseMethodDescriptor "(II)Z" = some ⟨[.int, .int], some .boolean⟩ := by decide +kernel
theorem ef_0 (m : MethodId) (x0 : Int32) (x1 : Int32) (x2 : Int32) : entryFrame m #[(.int x0), (.int x1), (.int x2)] maxLocals = mkF m 0 #[.val (.int x0), .val (.int x1), .val (.int x2), .unset, .unset, .unset] [] := by first | (simp [entryFrame, mkF, argsToLocals, Value.category, maxLocals]; done) | rfl
def v0_50_0 (p1 : Int32) (p2 : Int32) (r_ADDRESS : Addr) (r_ADDRESS_LIST : Addr) (r_UINT8 : Addr) (r_UINT16 : Addr) (r_UINT32 : Addr) (r_CODE_LIST : Addr) (r_TEXT : Addr) (r_BYTES : Addr) : Int32 := (if (f2 (f1 (p1 &&& (7 : Int32)) r_ADDRESS r_ADDRESS_LIST r_UINT8 r_UINT16 r_UINT32 r_CODE_LIST r_TEXT r_BYTES) ((p2 % (11 : Int32)) - (2 : Int32)) (own_mn (p1 &&& (7 : Int32))) (own_mx (p1 &&& (7 : Int32))) (own_un (p1 &&& (7 : Int32)))) = (f3 (p1 &&& (7 : Int32)) ((p2 % (11 : Int32)) - (2 : Int32))) then (1 : Int32) else (0 : Int32))
def v0_50_1 (p1 : Int32) (p2 : Int32) (r_ADDRESS : Addr) (r_ADDRESS_LIST : Addr) (r_UINT8 : Addr) (r_UINT16 : Addr) (r_UINT32 : Addr) (r_CODE_LIST : Addr) (r_TEXT : Addr) (r_BYTES : Addr) : Int32 := (if (f2 (f1 (p1 &&& (7 : Int32)) r_ADDRESS r_ADDRESS_LIST r_UINT8 r_UINT16 r_UINT32 r_CODE_LIST r_TEXT r_BYTES) p2 (own_mn (p1 &&& (7 : Int32))) (own_mx (p1 &&& (7 : Int32))) (own_un (p1 &&& (7 : Int32)))) = (f3 (p1 &&& (7 : Int32)) p2) then (1 : Int32) else (0 : Int32))
def f0 (p1 : Int32) (p2 : Int32) (p3 : Int32) (r_ADDRESS : Addr) (r_ADDRESS_LIST : Addr) (r_UINT8 : Addr) (r_UINT16 : Addr) (r_UINT32 : Addr) (r_CODE_LIST : Addr) (r_TEXT : Addr) (r_BYTES : Addr) : Int32 :=
  if (p3 &&& (1 : Int32)) = (0 : Int32) then (nar .boolean (v0_50_0 p1 p2 r_ADDRESS r_ADDRESS_LIST r_UINT8 r_UINT16 r_UINT32 r_CODE_LIST r_TEXT r_BYTES)) else
  (nar .boolean (v0_50_1 p1 p2 r_ADDRESS r_ADDRESS_LIST r_UINT8 r_UINT16 r_UINT32 r_CODE_LIST r_TEXT r_BYTES))
def Q0 (Z : State) (p1 : Int32) (p2 : Int32) (p3 : Int32) (r_ADDRESS : Addr) (r_ADDRESS_LIST : Addr) (r_UINT8 : Addr) (r_UINT16 : Addr) (r_UINT32 : Addr) (r_CODE_LIST : Addr) (r_TEXT : Addr) (r_BYTES : Addr) (h0 : Heap) (n0 : Nat) (v : Option Value) (h : Heap) (L : List Loc) : Prop := v = some (.int (f0 p1 p2 p3 r_ADDRESS r_ADDRESS_LIST r_UINT8 r_UINT16 r_UINT32 r_CODE_LIST r_TEXT r_BYTES)) ∧ Fr n0 L ∧ h = h0
set_option maxRecDepth 65536 in
set_option maxHeartbeats 40000000 in
theorem rm0 (l : Launch) (Z : State) (a0 : Array Value) (hw : ∀ d ∈ tables_1, d.before a0 Z = true) (ws : List Jvm.Cond) (p1 : Int32) (p2 : Int32) (p3 : Int32) (r_ADDRESS : Addr) (r_ADDRESS_LIST : Addr) (r_UINT8 : Addr) (r_UINT16 : Addr) (r_UINT32 : Addr) (r_CODE_LIST : Addr) (r_TEXT : Addr) (r_BYTES : Addr) (h0 : Heap) (n0 : Nat) (Z0 : n0 ≤ h0.size) (S_ADDRESS : Sta Z h0 "com/example/lean_lease/leanlease/wire/OptionFormat" "ADDRESS" "Lcom/example/lean_lease/leanlease/wire/OptionFormat;" (.ref r_ADDRESS)) (S_ADDRESS_LIST : Sta Z h0 "com/example/lean_lease/leanlease/wire/OptionFormat" "ADDRESS_LIST" "Lcom/example/lean_lease/leanlease/wire/OptionFormat;" (.ref r_ADDRESS_LIST)) (S_UINT8 : Sta Z h0 "com/example/lean_lease/leanlease/wire/OptionFormat" "UINT8" "Lcom/example/lean_lease/leanlease/wire/OptionFormat;" (.ref r_UINT8)) (S_UINT16 : Sta Z h0 "com/example/lean_lease/leanlease/wire/OptionFormat" "UINT16" "Lcom/example/lean_lease/leanlease/wire/OptionFormat;" (.ref r_UINT16)) (S_UINT32 : Sta Z h0 "com/example/lean_lease/leanlease/wire/OptionFormat" "UINT32" "Lcom/example/lean_lease/leanlease/wire/OptionFormat;" (.ref r_UINT32)) (S_CODE_LIST : Sta Z h0 "com/example/lean_lease/leanlease/wire/OptionFormat" "CODE_LIST" "Lcom/example/lean_lease/leanlease/wire/OptionFormat;" (.ref r_CODE_LIST)) (S_TEXT : Sta Z h0 "com/example/lean_lease/leanlease/wire/OptionFormat" "TEXT" "Lcom/example/lean_lease/leanlease/wire/OptionFormat;" (.ref r_TEXT)) (S_BYTES : Sta Z h0 "com/example/lean_lease/leanlease/wire/OptionFormat" "BYTES" "Lcom/example/lean_lease/leanlease/wire/OptionFormat;" (.ref r_BYTES)) (E_ADDRESS : Exa Z h0 r_ADDRESS "com/example/lean_lease/leanlease/wire/OptionFormat") (E_ADDRESS_LIST : Exa Z h0 r_ADDRESS_LIST "com/example/lean_lease/leanlease/wire/OptionFormat") (E_UINT8 : Exa Z h0 r_UINT8 "com/example/lean_lease/leanlease/wire/OptionFormat") (E_UINT16 : Exa Z h0 r_UINT16 "com/example/lean_lease/leanlease/wire/OptionFormat") (E_UINT32 : Exa Z h0 r_UINT32 "com/example/lean_lease/leanlease/wire/OptionFormat") (E_CODE_LIST : Exa Z h0 r_CODE_LIST "com/example/lean_lease/leanlease/wire/OptionFormat") (E_TEXT : Exa Z h0 r_TEXT "com/example/lean_lease/leanlease/wire/OptionFormat") (E_BYTES : Exa Z h0 r_BYTES "com/example/lean_lease/leanlease/wire/OptionFormat") (F_ADDRESS_mn : Fld Z h0 r_ADDRESS "com/example/lean_lease/leanlease/wire/OptionFormat" "minLength" "I" (.int 4)) (F_ADDRESS_mx : Fld Z h0 r_ADDRESS "com/example/lean_lease/leanlease/wire/OptionFormat" "maxLength" "I" (.int 4)) (F_ADDRESS_un : Fld Z h0 r_ADDRESS "com/example/lean_lease/leanlease/wire/OptionFormat" "unit" "I" (.int 4)) (F_ADDRESS_LIST_mn : Fld Z h0 r_ADDRESS_LIST "com/example/lean_lease/leanlease/wire/OptionFormat" "minLength" "I" (.int 4)) (F_ADDRESS_LIST_mx : Fld Z h0 r_ADDRESS_LIST "com/example/lean_lease/leanlease/wire/OptionFormat" "maxLength" "I" (.int 2147483647)) (F_ADDRESS_LIST_un : Fld Z h0 r_ADDRESS_LIST "com/example/lean_lease/leanlease/wire/OptionFormat" "unit" "I" (.int 4)) (F_UINT8_mn : Fld Z h0 r_UINT8 "com/example/lean_lease/leanlease/wire/OptionFormat" "minLength" "I" (.int 1)) (F_UINT8_mx : Fld Z h0 r_UINT8 "com/example/lean_lease/leanlease/wire/OptionFormat" "maxLength" "I" (.int 1)) (F_UINT8_un : Fld Z h0 r_UINT8 "com/example/lean_lease/leanlease/wire/OptionFormat" "unit" "I" (.int 1)) (F_UINT16_mn : Fld Z h0 r_UINT16 "com/example/lean_lease/leanlease/wire/OptionFormat" "minLength" "I" (.int 2)) (F_UINT16_mx : Fld Z h0 r_UINT16 "com/example/lean_lease/leanlease/wire/OptionFormat" "maxLength" "I" (.int 2)) (F_UINT16_un : Fld Z h0 r_UINT16 "com/example/lean_lease/leanlease/wire/OptionFormat" "unit" "I" (.int 2)) (F_UINT32_mn : Fld Z h0 r_UINT32 "com/example/lean_lease/leanlease/wire/OptionFormat" "minLength" "I" (.int 4)) (F_UINT32_mx : Fld Z h0 r_UINT32 "com/example/lean_lease/leanlease/wire/OptionFormat" "maxLength" "I" (.int 4)) (F_UINT32_un : Fld Z h0 r_UINT32 "com/example/lean_lease/leanlease/wire/OptionFormat" "unit" "I" (.int 4)) (F_CODE_LIST_mn : Fld Z h0 r_CODE_LIST "com/example/lean_lease/leanlease/wire/OptionFormat" "minLength" "I" (.int 1)) (F_CODE_LIST_mx : Fld Z h0 r_CODE_LIST "com/example/lean_lease/leanlease/wire/OptionFormat" "maxLength" "I" (.int 2147483647)) (F_CODE_LIST_un : Fld Z h0 r_CODE_LIST "com/example/lean_lease/leanlease/wire/OptionFormat" "unit" "I" (.int 1)) (F_TEXT_mn : Fld Z h0 r_TEXT "com/example/lean_lease/leanlease/wire/OptionFormat" "minLength" "I" (.int 1)) (F_TEXT_mx : Fld Z h0 r_TEXT "com/example/lean_lease/leanlease/wire/OptionFormat" "maxLength" "I" (.int 2147483647)) (F_TEXT_un : Fld Z h0 r_TEXT "com/example/lean_lease/leanlease/wire/OptionFormat" "unit" "I" (.int 1)) (F_BYTES_mn : Fld Z h0 r_BYTES "com/example/lean_lease/leanlease/wire/OptionFormat" "minLength" "I" (.int 0)) (F_BYTES_mx : Fld Z h0 r_BYTES "com/example/lean_lease/leanlease/wire/OptionFormat" "maxLength" "I" (.int 2147483647)) (F_BYTES_un : Fld Z h0 r_BYTES "com/example/lean_lease/leanlease/wire/OptionFormat" "unit" "I" (.int 1)) :
    MetFree l x (head1 (Jvm.Cond.code x code maxLocals ret :: ws) room_1) (fun a U => a = #[(.int p1), (.int p2), (.int p3)] ∧ Z.Warmed39 U.vm ∧ U.heap = h0) (fun _ _ _ _ _ => True) (fun _ U o U' => ∃ v L, o = .returned v ∧ Q0 Z p1 p2 p3 r_ADDRESS r_ADDRESS_LIST r_UINT8 r_UINT16 r_UINT32 r_CODE_LIST r_TEXT r_BYTES h0 n0 v U'.heap L ∧ FrameEnd U o U' L room_1.cells room_1.slots) := by
  refine MetFree.of_bodySF (plainFor_of_name pn_0) hisR ?_
  intro p e s m args below meth c s₁ Bd hml0 hP hK
  obtain ⟨rfl, hZ, hh⟩ := hP
  have hx := Bd.exec
  have hby := Bd.bytes
  have hml : c.maxLocals = 6 := hml0
  have hown : s.vm.findClass "com/example/lean_lease/leanlease/wire/OptionFormatFitsPinLaw" = some m.cls := findClass_of_methodNamed Bd.named
  have hnm := (name_of_methodNamed Bd.named Bd.method).1
  have X0 : Stand p l e room_1 s m #[(.int p1), (.int p2), (.int p3)] below meth c s₁ [] 0 0 := Stand.of_body Bd
  have e0 : s₁.heap = h0 := by rw [← hh, Bd.state]; rfl
  have N0 := Fr.nil n0
  refine Goes.via (next := s₁.setTop (mkF m 0 #[.val (.int p1), .val (.int p2), .val (.int p3), .unset, .unset, .unset] [])) (fun t k => castTop (ef_0 m p1 p2 p3) k) ?_
  refine Goes.via (fun t k => XS.iloadN X0.here hx rfl (hb hby at_0) rfl k) ?_
  show Goes p e below (s₁.setTop (mkF m 1 #[.val (.int p1), .val (.int p2), .val (.int p3), .unset, .unset, .unset] [(.int p1)])) _
  refine Goes.via (fun t k => XS.bipush X0.here hx rfl (hb hby at_1) k) ?_
  show Goes p e below (s₁.setTop (mkF m 3 #[.val (.int p1), .val (.int p2), .val (.int p3), .unset, .unset, .unset] [(.int (7 : Int32)), (.int p1)])) _
  refine Goes.via (fun t k => XS.iand X0.here hx rfl (hb hby at_3) rfl k) ?_
  show Goes p e below (s₁.setTop (mkF m 4 #[.val (.int p1), .val (.int p2), .val (.int p3), .unset, .unset, .unset] [(.int (p1 &&& (7 : Int32)))])) _
  refine Goes.via (fun t k => XS.istoreN X0.here hx rfl (hb hby at_4) rfl (l' := #[.val (.int p1), .val (.int p2), .val (.int p3), .val (.int (p1 &&& (7 : Int32))), .unset, .unset]) rfl k) ?_
  show Goes p e below (s₁.setTop (mkF m 5 #[.val (.int p1), .val (.int p2), .val (.int p3), .val (.int (p1 &&& (7 : Int32))), .unset, .unset] [])) _
  refine Goes.via (fun t k => XS.iloadN X0.here hx rfl (hb hby at_5) rfl k) ?_
  show Goes p e below (s₁.setTop (mkF m 6 #[.val (.int p1), .val (.int p2), .val (.int p3), .val (.int (p1 &&& (7 : Int32))), .unset, .unset] [(.int p3)])) _
  refine Goes.via (fun t k => XS.iconst X0.here hx rfl (hb hby at_6) k) ?_
  show Goes p e below (s₁.setTop (mkF m 7 #[.val (.int p1), .val (.int p2), .val (.int p3), .val (.int (p1 &&& (7 : Int32))), .unset, .unset] [(.int (1 : Int32)), (.int p3)])) _
  refine Goes.via (fun t k => XS.iand X0.here hx rfl (hb hby at_7) rfl k) ?_
  show Goes p e below (s₁.setTop (mkF m 8 #[.val (.int p1), .val (.int p2), .val (.int p3), .val (.int (p1 &&& (7 : Int32))), .unset, .unset] [(.int (p3 &&& (1 : Int32)))])) _
  by_cases hc8_1 : (p3 &&& (1 : Int32)) = (0 : Int32)
  · refine Goes.via (fun t k => XS.ifYes X0.here hx rfl (pc0 := 8) (pc' := 15) rfl (hb hby at_8) rfl ((if0 _ _).trans (teq hc8_1).1) (by decide) (by decide) k) ?_
    show Goes p e below (s₁.setTop (mkF m 15 #[.val (.int p1), .val (.int p2), .val (.int p3), .val (.int (p1 &&& (7 : Int32))), .unset, .unset] [])) _
    refine Goes.via (fun t k => XS.iloadN X0.here hx rfl (hb hby at_15) rfl k) ?_
    show Goes p e below (s₁.setTop (mkF m 16 #[.val (.int p1), .val (.int p2), .val (.int p3), .val (.int (p1 &&& (7 : Int32))), .unset, .unset] [(.int p2)])) _
    refine Goes.via (fun t k => XS.bipush X0.here hx rfl (hb hby at_16) k) ?_
    show Goes p e below (s₁.setTop (mkF m 18 #[.val (.int p1), .val (.int p2), .val (.int p3), .val (.int (p1 &&& (7 : Int32))), .unset, .unset] [(.int (11 : Int32)), (.int p2)])) _
    refine Goes.via (fun t k => iremM X0 hx rfl (hb hby at_18) rfl (by decide) k) ?_
    show Goes p e below (s₁.setTop (mkF m 19 #[.val (.int p1), .val (.int p2), .val (.int p3), .val (.int (p1 &&& (7 : Int32))), .unset, .unset] [(.int (p2 % (11 : Int32)))])) _
    refine Goes.via (fun t k => XS.iconst X0.here hx rfl (hb hby at_19) k) ?_
    show Goes p e below (s₁.setTop (mkF m 20 #[.val (.int p1), .val (.int p2), .val (.int p3), .val (.int (p1 &&& (7 : Int32))), .unset, .unset] [(.int (2 : Int32)), (.int (p2 % (11 : Int32)))])) _
    refine Goes.via (fun t k => XS.isub X0.here hx rfl (hb hby at_20) rfl k) ?_
    show Goes p e below (s₁.setTop (mkF m 21 #[.val (.int p1), .val (.int p2), .val (.int p3), .val (.int (p1 &&& (7 : Int32))), .unset, .unset] [(.int ((p2 % (11 : Int32)) - (2 : Int32)))])) _
    refine Goes.via (fun t k => XS.istore X0.here hx rfl (hb hby at_21) rfl (l' := #[.val (.int p1), .val (.int p2), .val (.int p3), .val (.int (p1 &&& (7 : Int32))), .val (.int ((p2 % (11 : Int32)) - (2 : Int32))), .unset]) rfl k) ?_
    show Goes p e below (s₁.setTop (mkF m 23 #[.val (.int p1), .val (.int p2), .val (.int p3), .val (.int (p1 &&& (7 : Int32))), .val (.int ((p2 % (11 : Int32)) - (2 : Int32))), .unset] [])) _
    refine Goes.via (fun t k => XS.iloadN X0.here hx rfl (hb hby at_23) rfl k) ?_
    show Goes p e below (s₁.setTop (mkF m 24 #[.val (.int p1), .val (.int p2), .val (.int p3), .val (.int (p1 &&& (7 : Int32))), .val (.int ((p2 % (11 : Int32)) - (2 : Int32))), .unset] [(.int (p1 &&& (7 : Int32)))])) _
    obtain ⟨_, _, ⟨T2, L2, k2, n2⟩, -, X2, ⟨Lc2, hQ2, l2, y2, z2⟩, st2⟩ := Jvm.LawKit.callS X0 hx (y := (⟨"com/example/lean_lease/leanlease/wire/OptionFormatFitsPinLaw", "pick", "(I)Lcom/example/lean_lease/leanlease/wire/OptionFormat;"⟩ : MethodName)) hown (mvT hZ (hw _ (List.mem_of_getElem? (i := 0) rfl))) (mvT hZ (hw _ (List.mem_of_getElem? (i := 1) rfl))) (mvT hZ (hw _ (List.mem_of_getElem? (i := 2) rfl))) (mvT hZ (hw _ (List.mem_of_getElem? (i := 3) rfl))) (by decide) (backOf (W := 0) (rm1 l Z a0 hw [] (p1 &&& (7 : Int32)) r_ADDRESS r_ADDRESS_LIST r_UINT8 r_UINT16 r_UINT32 r_CODE_LIST r_TEXT r_BYTES h0 n0 Z0 S_ADDRESS S_ADDRESS_LIST S_UINT8 S_UINT16 S_UINT32 S_CODE_LIST S_TEXT S_BYTES) hZ (hw _ (List.mem_of_getElem? (i := 3) rfl)) (hw _ (List.mem_of_getElem? (i := 2) rfl)) (by decide) (by decide)) (g := (mkF m 24 #[.val (.int p1), .val (.int p2), .val (.int p3), .val (.int (p1 &&& (7 : Int32))), .val (.int ((p2 % (11 : Int32)) - (2 : Int32))), .unset] [(.int (p1 &&& (7 : Int32)))])) rfl (by rw [hml]; rfl) (argsL := [(.int (p1 &&& (7 : Int32)))]) (rest := []) (lenOf pd_0_0 rfl) rfl (by show 2 * 0 + _ ≤ _; exact Nat.le_of_eq rfl) (hb hby at_24) (fun _ _ => ⟨rfl, e0, (by decide : 0 + 0 ≤ _), (by decide : 0 + 0 ≤ _)⟩)
    dsimp only [Pt.U, Pt.locs, Pt.cells, Pt.slots] at X2 l2 y2 z2 st2 hQ2
    subst l2 y2 z2
    obtain ⟨rfl, N2q, er2⟩ := hQ2
    have e2 : T2.heap = h0 := er2
    have N2 := Fr.app N0 N2q
    have Ep2 : Exa Z h0 (f1 (p1 &&& (7 : Int32)) r_ADDRESS r_ADDRESS_LIST r_UINT8 r_UINT16 r_UINT32 r_CODE_LIST r_TEXT r_BYTES) "com/example/lean_lease/leanlease/wire/OptionFormat" := own_pick (fun z => Exa Z h0 z "com/example/lean_lease/leanlease/wire/OptionFormat") _ E_ADDRESS E_ADDRESS_LIST E_UINT8 E_UINT16 E_UINT32 E_CODE_LIST E_TEXT E_BYTES
    have Fp2_mn : Fld Z h0 (f1 (p1 &&& (7 : Int32)) r_ADDRESS r_ADDRESS_LIST r_UINT8 r_UINT16 r_UINT32 r_CODE_LIST r_TEXT r_BYTES) "com/example/lean_lease/leanlease/wire/OptionFormat" "minLength" "I" (.int (own_mn (p1 &&& (7 : Int32)))) := own_pick_mn (fun z y => Fld Z h0 z "com/example/lean_lease/leanlease/wire/OptionFormat" "minLength" "I" (.int y)) _ F_ADDRESS_mn F_ADDRESS_LIST_mn F_UINT8_mn F_UINT16_mn F_UINT32_mn F_CODE_LIST_mn F_TEXT_mn F_BYTES_mn
    have Fp2_mx : Fld Z h0 (f1 (p1 &&& (7 : Int32)) r_ADDRESS r_ADDRESS_LIST r_UINT8 r_UINT16 r_UINT32 r_CODE_LIST r_TEXT r_BYTES) "com/example/lean_lease/leanlease/wire/OptionFormat" "maxLength" "I" (.int (own_mx (p1 &&& (7 : Int32)))) := own_pick_mx (fun z y => Fld Z h0 z "com/example/lean_lease/leanlease/wire/OptionFormat" "maxLength" "I" (.int y)) _ F_ADDRESS_mx F_ADDRESS_LIST_mx F_UINT8_mx F_UINT16_mx F_UINT32_mx F_CODE_LIST_mx F_TEXT_mx F_BYTES_mx
    have Fp2_un : Fld Z h0 (f1 (p1 &&& (7 : Int32)) r_ADDRESS r_ADDRESS_LIST r_UINT8 r_UINT16 r_UINT32 r_CODE_LIST r_TEXT r_BYTES) "com/example/lean_lease/leanlease/wire/OptionFormat" "unit" "I" (.int (own_un (p1 &&& (7 : Int32)))) := own_pick_un (fun z y => Fld Z h0 z "com/example/lean_lease/leanlease/wire/OptionFormat" "unit" "I" (.int y)) _ F_ADDRESS_un F_ADDRESS_LIST_un F_UINT8_un F_UINT16_un F_UINT32_un F_CODE_LIST_un F_TEXT_un F_BYTES_un
    refine Goes.via st2 ?_
    show Goes p e below (T2.setTop (mkF m 27 #[.val (.int p1), .val (.int p2), .val (.int p3), .val (.int (p1 &&& (7 : Int32))), .val (.int ((p2 % (11 : Int32)) - (2 : Int32))), .unset] [(.ref (f1 (p1 &&& (7 : Int32)) r_ADDRESS r_ADDRESS_LIST r_UINT8 r_UINT16 r_UINT32 r_CODE_LIST r_TEXT r_BYTES))])) _
    refine Goes.via (fun t k => XS.astore X2.here hx rfl (hb hby at_27) rfl rfl (l' := #[.val (.int p1), .val (.int p2), .val (.int p3), .val (.int (p1 &&& (7 : Int32))), .val (.int ((p2 % (11 : Int32)) - (2 : Int32))), .val (.ref (f1 (p1 &&& (7 : Int32)) r_ADDRESS r_ADDRESS_LIST r_UINT8 r_UINT16 r_UINT32 r_CODE_LIST r_TEXT r_BYTES))]) rfl k) ?_
    show Goes p e below (T2.setTop (mkF m 29 #[.val (.int p1), .val (.int p2), .val (.int p3), .val (.int (p1 &&& (7 : Int32))), .val (.int ((p2 % (11 : Int32)) - (2 : Int32))), .val (.ref (f1 (p1 &&& (7 : Int32)) r_ADDRESS r_ADDRESS_LIST r_UINT8 r_UINT16 r_UINT32 r_CODE_LIST r_TEXT r_BYTES))] [])) _
    refine Goes.via (fun t k => XS.aload X2.here hx rfl (hb hby at_29) rfl rfl k) ?_
    show Goes p e below (T2.setTop (mkF m 31 #[.val (.int p1), .val (.int p2), .val (.int p3), .val (.int (p1 &&& (7 : Int32))), .val (.int ((p2 % (11 : Int32)) - (2 : Int32))), .val (.ref (f1 (p1 &&& (7 : Int32)) r_ADDRESS r_ADDRESS_LIST r_UINT8 r_UINT16 r_UINT32 r_CODE_LIST r_TEXT r_BYTES))] [(.ref (f1 (p1 &&& (7 : Int32)) r_ADDRESS r_ADDRESS_LIST r_UINT8 r_UINT16 r_UINT32 r_CODE_LIST r_TEXT r_BYTES))])) _
    refine Goes.via (fun t k => XS.iload X2.here hx rfl (hb hby at_31) rfl k) ?_
    show Goes p e below (T2.setTop (mkF m 33 #[.val (.int p1), .val (.int p2), .val (.int p3), .val (.int (p1 &&& (7 : Int32))), .val (.int ((p2 % (11 : Int32)) - (2 : Int32))), .val (.ref (f1 (p1 &&& (7 : Int32)) r_ADDRESS r_ADDRESS_LIST r_UINT8 r_UINT16 r_UINT32 r_CODE_LIST r_TEXT r_BYTES))] [(.int ((p2 % (11 : Int32)) - (2 : Int32))), (.ref (f1 (p1 &&& (7 : Int32)) r_ADDRESS r_ADDRESS_LIST r_UINT8 r_UINT16 r_UINT32 r_CODE_LIST r_TEXT r_BYTES))])) _
    obtain ⟨cq3, kq3, q3a, q3b, q3c⟩ := isOf hZ e2 Ep2
    obtain ⟨_, _, ⟨T3, L3, k3, n3⟩, -, X3, ⟨Lc3, hQ3, l3, y3, z3⟩, st3⟩ := X2.virtualBack hx (y := (⟨"com/example/lean_lease/leanlease/wire/OptionFormat", "fits", "(I)Z"⟩ : MethodName)) (z := (⟨"com/example/lean_lease/leanlease/wire/OptionFormat", "fits", "(I)Z"⟩ : MethodName)) hown (mvT hZ (hw _ (List.mem_of_getElem? (i := 7) rfl))) (mvT hZ (hw _ (List.mem_of_getElem? (i := 8) rfl))) (notFace_of_selects (args := #[]) (mvT hZ (hw _ (List.mem_of_getElem? (i := 10) rfl)))) (mvT hZ (hw _ (List.mem_of_getElem? (i := 10) rfl))) (mvT hZ (hw _ (List.mem_of_getElem? (i := 9) rfl))) (by decide) (backOf (W := 0) (rm2 l Z a0 hw [] (f1 (p1 &&& (7 : Int32)) r_ADDRESS r_ADDRESS_LIST r_UINT8 r_UINT16 r_UINT32 r_CODE_LIST r_TEXT r_BYTES) ((p2 % (11 : Int32)) - (2 : Int32)) (own_mn (p1 &&& (7 : Int32))) (own_mx (p1 &&& (7 : Int32))) (own_un (p1 &&& (7 : Int32))) h0 n0 Z0 Fp2_mn Fp2_mx Fp2_un (own_un0 _)) hZ (hw _ (List.mem_of_getElem? (i := 11) rfl)) (hw _ (List.mem_of_getElem? (i := 5) rfl)) (by decide) (by decide)) q3a q3c (g := (mkF m 33 #[.val (.int p1), .val (.int p2), .val (.int p3), .val (.int (p1 &&& (7 : Int32))), .val (.int ((p2 % (11 : Int32)) - (2 : Int32))), .val (.ref (f1 (p1 &&& (7 : Int32)) r_ADDRESS r_ADDRESS_LIST r_UINT8 r_UINT16 r_UINT32 r_CODE_LIST r_TEXT r_BYTES))] [(.int ((p2 % (11 : Int32)) - (2 : Int32))), (.ref (f1 (p1 &&& (7 : Int32)) r_ADDRESS r_ADDRESS_LIST r_UINT8 r_UINT16 r_UINT32 r_CODE_LIST r_TEXT r_BYTES))])) rfl (by rw [hml]; rfl) (Steps.refl _) (argsL := [(.int ((p2 % (11 : Int32)) - (2 : Int32)))]) (rest := []) (lenOf pd_0_1 rfl) rfl (by show 2 * 0 + _ ≤ _; exact Nat.le_of_eq rfl) (hb hby at_33) (fun _ _ => ⟨rfl, e2, (by decide : 0 + 0 ≤ _), (by decide : 0 + 0 ≤ _)⟩)
    dsimp only [Pt.U, Pt.locs, Pt.cells, Pt.slots] at X3 l3 y3 z3 st3 hQ3
    subst l3 y3 z3
    obtain ⟨rfl, N3q, er3⟩ := hQ3
    have e3 : T3.heap = h0 := er3
    have N3 := Fr.app N2 N3q
    refine Goes.via (fun t k => st3.trans k) ?_
    show Goes p e below (T3.setTop (mkF m 36 #[.val (.int p1), .val (.int p2), .val (.int p3), .val (.int (p1 &&& (7 : Int32))), .val (.int ((p2 % (11 : Int32)) - (2 : Int32))), .val (.ref (f1 (p1 &&& (7 : Int32)) r_ADDRESS r_ADDRESS_LIST r_UINT8 r_UINT16 r_UINT32 r_CODE_LIST r_TEXT r_BYTES))] [(.int (f2 (f1 (p1 &&& (7 : Int32)) r_ADDRESS r_ADDRESS_LIST r_UINT8 r_UINT16 r_UINT32 r_CODE_LIST r_TEXT r_BYTES) ((p2 % (11 : Int32)) - (2 : Int32)) (own_mn (p1 &&& (7 : Int32))) (own_mx (p1 &&& (7 : Int32))) (own_un (p1 &&& (7 : Int32)))))])) _
    refine Goes.via (fun t k => XS.iloadN X3.here hx rfl (hb hby at_36) rfl k) ?_
    show Goes p e below (T3.setTop (mkF m 37 #[.val (.int p1), .val (.int p2), .val (.int p3), .val (.int (p1 &&& (7 : Int32))), .val (.int ((p2 % (11 : Int32)) - (2 : Int32))), .val (.ref (f1 (p1 &&& (7 : Int32)) r_ADDRESS r_ADDRESS_LIST r_UINT8 r_UINT16 r_UINT32 r_CODE_LIST r_TEXT r_BYTES))] [(.int (p1 &&& (7 : Int32))), (.int (f2 (f1 (p1 &&& (7 : Int32)) r_ADDRESS r_ADDRESS_LIST r_UINT8 r_UINT16 r_UINT32 r_CODE_LIST r_TEXT r_BYTES) ((p2 % (11 : Int32)) - (2 : Int32)) (own_mn (p1 &&& (7 : Int32))) (own_mx (p1 &&& (7 : Int32))) (own_un (p1 &&& (7 : Int32)))))])) _
    refine Goes.via (fun t k => XS.iload X3.here hx rfl (hb hby at_37) rfl k) ?_
    show Goes p e below (T3.setTop (mkF m 39 #[.val (.int p1), .val (.int p2), .val (.int p3), .val (.int (p1 &&& (7 : Int32))), .val (.int ((p2 % (11 : Int32)) - (2 : Int32))), .val (.ref (f1 (p1 &&& (7 : Int32)) r_ADDRESS r_ADDRESS_LIST r_UINT8 r_UINT16 r_UINT32 r_CODE_LIST r_TEXT r_BYTES))] [(.int ((p2 % (11 : Int32)) - (2 : Int32))), (.int (p1 &&& (7 : Int32))), (.int (f2 (f1 (p1 &&& (7 : Int32)) r_ADDRESS r_ADDRESS_LIST r_UINT8 r_UINT16 r_UINT32 r_CODE_LIST r_TEXT r_BYTES) ((p2 % (11 : Int32)) - (2 : Int32)) (own_mn (p1 &&& (7 : Int32))) (own_mx (p1 &&& (7 : Int32))) (own_un (p1 &&& (7 : Int32)))))])) _
    obtain ⟨_, _, ⟨T4, L4, k4, n4⟩, -, X4, ⟨Lc4, hQ4, l4, y4, z4⟩, st4⟩ := Jvm.LawKit.callS X3 hx (y := (⟨"com/example/lean_lease/leanlease/wire/OptionFormatFitsPinLaw", "expected", "(II)Z"⟩ : MethodName)) hown (mvT hZ (hw _ (List.mem_of_getElem? (i := 14) rfl))) (mvT hZ (hw _ (List.mem_of_getElem? (i := 15) rfl))) (mvT hZ (hw _ (List.mem_of_getElem? (i := 2) rfl))) (mvT hZ (hw _ (List.mem_of_getElem? (i := 16) rfl))) (by decide) (backOf (W := 1) (rm3 l Z a0 hw [] (p1 &&& (7 : Int32)) ((p2 % (11 : Int32)) - (2 : Int32)) h0 n0 Z0 ) hZ (hw _ (List.mem_of_getElem? (i := 16) rfl)) (hw _ (List.mem_of_getElem? (i := 2) rfl)) (by decide) (by decide)) (g := (mkF m 39 #[.val (.int p1), .val (.int p2), .val (.int p3), .val (.int (p1 &&& (7 : Int32))), .val (.int ((p2 % (11 : Int32)) - (2 : Int32))), .val (.ref (f1 (p1 &&& (7 : Int32)) r_ADDRESS r_ADDRESS_LIST r_UINT8 r_UINT16 r_UINT32 r_CODE_LIST r_TEXT r_BYTES))] [(.int ((p2 % (11 : Int32)) - (2 : Int32))), (.int (p1 &&& (7 : Int32))), (.int (f2 (f1 (p1 &&& (7 : Int32)) r_ADDRESS r_ADDRESS_LIST r_UINT8 r_UINT16 r_UINT32 r_CODE_LIST r_TEXT r_BYTES) ((p2 % (11 : Int32)) - (2 : Int32)) (own_mn (p1 &&& (7 : Int32))) (own_mx (p1 &&& (7 : Int32))) (own_un (p1 &&& (7 : Int32)))))])) rfl (by rw [hml]; rfl) (argsL := [(.int (p1 &&& (7 : Int32))), (.int ((p2 % (11 : Int32)) - (2 : Int32)))]) (rest := [(.int (f2 (f1 (p1 &&& (7 : Int32)) r_ADDRESS r_ADDRESS_LIST r_UINT8 r_UINT16 r_UINT32 r_CODE_LIST r_TEXT r_BYTES) ((p2 % (11 : Int32)) - (2 : Int32)) (own_mn (p1 &&& (7 : Int32))) (own_mx (p1 &&& (7 : Int32))) (own_un (p1 &&& (7 : Int32)))))]) (lenOf pd_0_2 rfl) rfl (by show 2 * 0 + _ ≤ _; exact Nat.le_of_eq rfl) (hb hby at_39) (fun _ _ => ⟨rfl, e3, (by decide : 0 + 0 ≤ _), (by decide : 0 + 0 ≤ _)⟩)
    dsimp only [Pt.U, Pt.locs, Pt.cells, Pt.slots] at X4 l4 y4 z4 st4 hQ4
    subst l4 y4 z4
    obtain ⟨rfl, N4q, er4⟩ := hQ4
    have e4 : T4.heap = h0 := er4
    have N4 := Fr.app N3 N4q
    refine Goes.via st4 ?_
    show Goes p e below (T4.setTop (mkF m 42 #[.val (.int p1), .val (.int p2), .val (.int p3), .val (.int (p1 &&& (7 : Int32))), .val (.int ((p2 % (11 : Int32)) - (2 : Int32))), .val (.ref (f1 (p1 &&& (7 : Int32)) r_ADDRESS r_ADDRESS_LIST r_UINT8 r_UINT16 r_UINT32 r_CODE_LIST r_TEXT r_BYTES))] [(.int (f3 (p1 &&& (7 : Int32)) ((p2 % (11 : Int32)) - (2 : Int32)))), (.int (f2 (f1 (p1 &&& (7 : Int32)) r_ADDRESS r_ADDRESS_LIST r_UINT8 r_UINT16 r_UINT32 r_CODE_LIST r_TEXT r_BYTES) ((p2 % (11 : Int32)) - (2 : Int32)) (own_mn (p1 &&& (7 : Int32))) (own_mx (p1 &&& (7 : Int32))) (own_un (p1 &&& (7 : Int32)))))])) _
    refine Goes.via (next := T4.setTop (mkF m 50 #[.val (.int p1), .val (.int p2), .val (.int p3), .val (.int (p1 &&& (7 : Int32))), .val (.int ((p2 % (11 : Int32)) - (2 : Int32))), .val (.ref (f1 (p1 &&& (7 : Int32)) r_ADDRESS r_ADDRESS_LIST r_UINT8 r_UINT16 r_UINT32 r_CODE_LIST r_TEXT r_BYTES))] [(.int (v0_50_0 p1 p2 r_ADDRESS r_ADDRESS_LIST r_UINT8 r_UINT16 r_UINT32 r_CODE_LIST r_TEXT r_BYTES))])) (fun t k => ?_) ?_
    · by_cases hc42_5 : (f2 (f1 (p1 &&& (7 : Int32)) r_ADDRESS r_ADDRESS_LIST r_UINT8 r_UINT16 r_UINT32 r_CODE_LIST r_TEXT r_BYTES) ((p2 % (11 : Int32)) - (2 : Int32)) (own_mn (p1 &&& (7 : Int32))) (own_mx (p1 &&& (7 : Int32))) (own_un (p1 &&& (7 : Int32)))) = (f3 (p1 &&& (7 : Int32)) ((p2 % (11 : Int32)) - (2 : Int32)))
      · refine XS.icmpNo X4.here hx rfl (hb hby at_42) rfl (teq hc42_5).2 ?_
        show Steps p.tables e below (T4.setTop (mkF m 45 #[.val (.int p1), .val (.int p2), .val (.int p3), .val (.int (p1 &&& (7 : Int32))), .val (.int ((p2 % (11 : Int32)) - (2 : Int32))), .val (.ref (f1 (p1 &&& (7 : Int32)) r_ADDRESS r_ADDRESS_LIST r_UINT8 r_UINT16 r_UINT32 r_CODE_LIST r_TEXT r_BYTES))] [])) _
        refine XS.iconst X4.here hx rfl (hb hby at_45) ?_
        show Steps p.tables e below (T4.setTop (mkF m 46 #[.val (.int p1), .val (.int p2), .val (.int p3), .val (.int (p1 &&& (7 : Int32))), .val (.int ((p2 % (11 : Int32)) - (2 : Int32))), .val (.ref (f1 (p1 &&& (7 : Int32)) r_ADDRESS r_ADDRESS_LIST r_UINT8 r_UINT16 r_UINT32 r_CODE_LIST r_TEXT r_BYTES))] [(.int (1 : Int32))])) _
        refine XS.goto X4.here hx rfl (pc0 := 46) (pc' := 50) rfl (hb hby at_46) (by decide) (by decide) ?_
        show Steps p.tables e below (T4.setTop (mkF m 50 #[.val (.int p1), .val (.int p2), .val (.int p3), .val (.int (p1 &&& (7 : Int32))), .val (.int ((p2 % (11 : Int32)) - (2 : Int32))), .val (.ref (f1 (p1 &&& (7 : Int32)) r_ADDRESS r_ADDRESS_LIST r_UINT8 r_UINT16 r_UINT32 r_CODE_LIST r_TEXT r_BYTES))] [(.int (1 : Int32))])) _
        simpa only [v0_50_0, if_pos hc42_5] using k
      · refine XS.icmpYes X4.here hx rfl (pc0 := 42) (pc' := 49) rfl (hb hby at_42) rfl (feq hc42_5).2 (by decide) (by decide) ?_
        show Steps p.tables e below (T4.setTop (mkF m 49 #[.val (.int p1), .val (.int p2), .val (.int p3), .val (.int (p1 &&& (7 : Int32))), .val (.int ((p2 % (11 : Int32)) - (2 : Int32))), .val (.ref (f1 (p1 &&& (7 : Int32)) r_ADDRESS r_ADDRESS_LIST r_UINT8 r_UINT16 r_UINT32 r_CODE_LIST r_TEXT r_BYTES))] [])) _
        refine XS.iconst X4.here hx rfl (hb hby at_49) ?_
        show Steps p.tables e below (T4.setTop (mkF m 50 #[.val (.int p1), .val (.int p2), .val (.int p3), .val (.int (p1 &&& (7 : Int32))), .val (.int ((p2 % (11 : Int32)) - (2 : Int32))), .val (.ref (f1 (p1 &&& (7 : Int32)) r_ADDRESS r_ADDRESS_LIST r_UINT8 r_UINT16 r_UINT32 r_CODE_LIST r_TEXT r_BYTES))] [(.int (0 : Int32))])) _
        simpa only [v0_50_0, if_neg hc42_5] using k
    show Goes p e below (T4.setTop (mkF m 50 #[.val (.int p1), .val (.int p2), .val (.int p3), .val (.int (p1 &&& (7 : Int32))), .val (.int ((p2 % (11 : Int32)) - (2 : Int32))), .val (.ref (f1 (p1 &&& (7 : Int32)) r_ADDRESS r_ADDRESS_LIST r_UINT8 r_UINT16 r_UINT32 r_CODE_LIST r_TEXT r_BYTES))] [(.int (v0_50_0 p1 p2 r_ADDRESS r_ADDRESS_LIST r_UINT8 r_UINT16 r_UINT32 r_CODE_LIST r_TEXT r_BYTES))])) _
    obtain ⟨fs, hr, hrun, hended, hW, hsame⟩ := X4.leave (v := some (.int (nar .boolean (v0_50_0 p1 p2 r_ADDRESS r_ADDRESS_LIST r_UINT8 r_UINT16 r_UINT32 r_CODE_LIST r_TEXT r_BYTES)))) (fun h => by rw [Bd.returns] at h; cases h)
    refine ⟨_, _, ?_, hrun, hended, _, _, rfl, ?_, ⟨_, rfl⟩, hW, hsame.mono (by decide) (by decide)⟩
    · exact retN X4 hx (t := .boolean) Bd.returns (by simp) (hb hby at_50) hr
    · show Q0 Z p1 p2 p3 r_ADDRESS r_ADDRESS_LIST r_UINT8 r_UINT16 r_UINT32 r_CODE_LIST r_TEXT r_BYTES h0 n0 _ T4.heap _
      rw [e4]
      exact ⟨congrArg some (congrArg _ (by simp only [f0, if_pos hc8_1])), N4, rfl⟩
  · refine Goes.via (fun t k => XS.ifNo X0.here hx rfl (hb hby at_8) rfl ((if0 _ _).trans (feq hc8_1).1) k) ?_
    show Goes p e below (s₁.setTop (mkF m 11 #[.val (.int p1), .val (.int p2), .val (.int p3), .val (.int (p1 &&& (7 : Int32))), .unset, .unset] [])) _
    refine Goes.via (fun t k => XS.iloadN X0.here hx rfl (hb hby at_11) rfl k) ?_
    show Goes p e below (s₁.setTop (mkF m 12 #[.val (.int p1), .val (.int p2), .val (.int p3), .val (.int (p1 &&& (7 : Int32))), .unset, .unset] [(.int p2)])) _
    refine Goes.via (fun t k => XS.goto X0.here hx rfl (pc0 := 12) (pc' := 21) rfl (hb hby at_12) (by decide) (by decide) k) ?_
    show Goes p e below (s₁.setTop (mkF m 21 #[.val (.int p1), .val (.int p2), .val (.int p3), .val (.int (p1 &&& (7 : Int32))), .unset, .unset] [(.int p2)])) _
    refine Goes.via (fun t k => XS.istore X0.here hx rfl (hb hby at_21) rfl (l' := #[.val (.int p1), .val (.int p2), .val (.int p3), .val (.int (p1 &&& (7 : Int32))), .val (.int p2), .unset]) rfl k) ?_
    show Goes p e below (s₁.setTop (mkF m 23 #[.val (.int p1), .val (.int p2), .val (.int p3), .val (.int (p1 &&& (7 : Int32))), .val (.int p2), .unset] [])) _
    refine Goes.via (fun t k => XS.iloadN X0.here hx rfl (hb hby at_23) rfl k) ?_
    show Goes p e below (s₁.setTop (mkF m 24 #[.val (.int p1), .val (.int p2), .val (.int p3), .val (.int (p1 &&& (7 : Int32))), .val (.int p2), .unset] [(.int (p1 &&& (7 : Int32)))])) _
    obtain ⟨_, _, ⟨T6, L6, k6, n6⟩, -, X6, ⟨Lc6, hQ6, l6, y6, z6⟩, st6⟩ := Jvm.LawKit.callS X0 hx (y := (⟨"com/example/lean_lease/leanlease/wire/OptionFormatFitsPinLaw", "pick", "(I)Lcom/example/lean_lease/leanlease/wire/OptionFormat;"⟩ : MethodName)) hown (mvT hZ (hw _ (List.mem_of_getElem? (i := 0) rfl))) (mvT hZ (hw _ (List.mem_of_getElem? (i := 1) rfl))) (mvT hZ (hw _ (List.mem_of_getElem? (i := 2) rfl))) (mvT hZ (hw _ (List.mem_of_getElem? (i := 3) rfl))) (by decide) (backOf (W := 0) (rm1 l Z a0 hw [] (p1 &&& (7 : Int32)) r_ADDRESS r_ADDRESS_LIST r_UINT8 r_UINT16 r_UINT32 r_CODE_LIST r_TEXT r_BYTES h0 n0 Z0 S_ADDRESS S_ADDRESS_LIST S_UINT8 S_UINT16 S_UINT32 S_CODE_LIST S_TEXT S_BYTES) hZ (hw _ (List.mem_of_getElem? (i := 3) rfl)) (hw _ (List.mem_of_getElem? (i := 2) rfl)) (by decide) (by decide)) (g := (mkF m 24 #[.val (.int p1), .val (.int p2), .val (.int p3), .val (.int (p1 &&& (7 : Int32))), .val (.int p2), .unset] [(.int (p1 &&& (7 : Int32)))])) rfl (by rw [hml]; rfl) (argsL := [(.int (p1 &&& (7 : Int32)))]) (rest := []) (lenOf pd_0_0 rfl) rfl (by show 2 * 0 + _ ≤ _; exact Nat.le_of_eq rfl) (hb hby at_24) (fun _ _ => ⟨rfl, e0, (by decide : 0 + 0 ≤ _), (by decide : 0 + 0 ≤ _)⟩)
    dsimp only [Pt.U, Pt.locs, Pt.cells, Pt.slots] at X6 l6 y6 z6 st6 hQ6
    subst l6 y6 z6
    obtain ⟨rfl, N6q, er6⟩ := hQ6
    have e6 : T6.heap = h0 := er6
    have N6 := Fr.app N0 N6q
    have Ep6 : Exa Z h0 (f1 (p1 &&& (7 : Int32)) r_ADDRESS r_ADDRESS_LIST r_UINT8 r_UINT16 r_UINT32 r_CODE_LIST r_TEXT r_BYTES) "com/example/lean_lease/leanlease/wire/OptionFormat" := own_pick (fun z => Exa Z h0 z "com/example/lean_lease/leanlease/wire/OptionFormat") _ E_ADDRESS E_ADDRESS_LIST E_UINT8 E_UINT16 E_UINT32 E_CODE_LIST E_TEXT E_BYTES
    have Fp6_mn : Fld Z h0 (f1 (p1 &&& (7 : Int32)) r_ADDRESS r_ADDRESS_LIST r_UINT8 r_UINT16 r_UINT32 r_CODE_LIST r_TEXT r_BYTES) "com/example/lean_lease/leanlease/wire/OptionFormat" "minLength" "I" (.int (own_mn (p1 &&& (7 : Int32)))) := own_pick_mn (fun z y => Fld Z h0 z "com/example/lean_lease/leanlease/wire/OptionFormat" "minLength" "I" (.int y)) _ F_ADDRESS_mn F_ADDRESS_LIST_mn F_UINT8_mn F_UINT16_mn F_UINT32_mn F_CODE_LIST_mn F_TEXT_mn F_BYTES_mn
    have Fp6_mx : Fld Z h0 (f1 (p1 &&& (7 : Int32)) r_ADDRESS r_ADDRESS_LIST r_UINT8 r_UINT16 r_UINT32 r_CODE_LIST r_TEXT r_BYTES) "com/example/lean_lease/leanlease/wire/OptionFormat" "maxLength" "I" (.int (own_mx (p1 &&& (7 : Int32)))) := own_pick_mx (fun z y => Fld Z h0 z "com/example/lean_lease/leanlease/wire/OptionFormat" "maxLength" "I" (.int y)) _ F_ADDRESS_mx F_ADDRESS_LIST_mx F_UINT8_mx F_UINT16_mx F_UINT32_mx F_CODE_LIST_mx F_TEXT_mx F_BYTES_mx
    have Fp6_un : Fld Z h0 (f1 (p1 &&& (7 : Int32)) r_ADDRESS r_ADDRESS_LIST r_UINT8 r_UINT16 r_UINT32 r_CODE_LIST r_TEXT r_BYTES) "com/example/lean_lease/leanlease/wire/OptionFormat" "unit" "I" (.int (own_un (p1 &&& (7 : Int32)))) := own_pick_un (fun z y => Fld Z h0 z "com/example/lean_lease/leanlease/wire/OptionFormat" "unit" "I" (.int y)) _ F_ADDRESS_un F_ADDRESS_LIST_un F_UINT8_un F_UINT16_un F_UINT32_un F_CODE_LIST_un F_TEXT_un F_BYTES_un
    refine Goes.via st6 ?_
    show Goes p e below (T6.setTop (mkF m 27 #[.val (.int p1), .val (.int p2), .val (.int p3), .val (.int (p1 &&& (7 : Int32))), .val (.int p2), .unset] [(.ref (f1 (p1 &&& (7 : Int32)) r_ADDRESS r_ADDRESS_LIST r_UINT8 r_UINT16 r_UINT32 r_CODE_LIST r_TEXT r_BYTES))])) _
    refine Goes.via (fun t k => XS.astore X6.here hx rfl (hb hby at_27) rfl rfl (l' := #[.val (.int p1), .val (.int p2), .val (.int p3), .val (.int (p1 &&& (7 : Int32))), .val (.int p2), .val (.ref (f1 (p1 &&& (7 : Int32)) r_ADDRESS r_ADDRESS_LIST r_UINT8 r_UINT16 r_UINT32 r_CODE_LIST r_TEXT r_BYTES))]) rfl k) ?_
    show Goes p e below (T6.setTop (mkF m 29 #[.val (.int p1), .val (.int p2), .val (.int p3), .val (.int (p1 &&& (7 : Int32))), .val (.int p2), .val (.ref (f1 (p1 &&& (7 : Int32)) r_ADDRESS r_ADDRESS_LIST r_UINT8 r_UINT16 r_UINT32 r_CODE_LIST r_TEXT r_BYTES))] [])) _
    refine Goes.via (fun t k => XS.aload X6.here hx rfl (hb hby at_29) rfl rfl k) ?_
    show Goes p e below (T6.setTop (mkF m 31 #[.val (.int p1), .val (.int p2), .val (.int p3), .val (.int (p1 &&& (7 : Int32))), .val (.int p2), .val (.ref (f1 (p1 &&& (7 : Int32)) r_ADDRESS r_ADDRESS_LIST r_UINT8 r_UINT16 r_UINT32 r_CODE_LIST r_TEXT r_BYTES))] [(.ref (f1 (p1 &&& (7 : Int32)) r_ADDRESS r_ADDRESS_LIST r_UINT8 r_UINT16 r_UINT32 r_CODE_LIST r_TEXT r_BYTES))])) _
    refine Goes.via (fun t k => XS.iload X6.here hx rfl (hb hby at_31) rfl k) ?_
    show Goes p e below (T6.setTop (mkF m 33 #[.val (.int p1), .val (.int p2), .val (.int p3), .val (.int (p1 &&& (7 : Int32))), .val (.int p2), .val (.ref (f1 (p1 &&& (7 : Int32)) r_ADDRESS r_ADDRESS_LIST r_UINT8 r_UINT16 r_UINT32 r_CODE_LIST r_TEXT r_BYTES))] [(.int p2), (.ref (f1 (p1 &&& (7 : Int32)) r_ADDRESS r_ADDRESS_LIST r_UINT8 r_UINT16 r_UINT32 r_CODE_LIST r_TEXT r_BYTES))])) _
    obtain ⟨cq7, kq7, q7a, q7b, q7c⟩ := isOf hZ e6 Ep6
    obtain ⟨_, _, ⟨T7, L7, k7, n7⟩, -, X7, ⟨Lc7, hQ7, l7, y7, z7⟩, st7⟩ := X6.virtualBack hx (y := (⟨"com/example/lean_lease/leanlease/wire/OptionFormat", "fits", "(I)Z"⟩ : MethodName)) (z := (⟨"com/example/lean_lease/leanlease/wire/OptionFormat", "fits", "(I)Z"⟩ : MethodName)) hown (mvT hZ (hw _ (List.mem_of_getElem? (i := 7) rfl))) (mvT hZ (hw _ (List.mem_of_getElem? (i := 8) rfl))) (notFace_of_selects (args := #[]) (mvT hZ (hw _ (List.mem_of_getElem? (i := 10) rfl)))) (mvT hZ (hw _ (List.mem_of_getElem? (i := 10) rfl))) (mvT hZ (hw _ (List.mem_of_getElem? (i := 9) rfl))) (by decide) (backOf (W := 0) (rm2 l Z a0 hw [] (f1 (p1 &&& (7 : Int32)) r_ADDRESS r_ADDRESS_LIST r_UINT8 r_UINT16 r_UINT32 r_CODE_LIST r_TEXT r_BYTES) p2 (own_mn (p1 &&& (7 : Int32))) (own_mx (p1 &&& (7 : Int32))) (own_un (p1 &&& (7 : Int32))) h0 n0 Z0 Fp6_mn Fp6_mx Fp6_un (own_un0 _)) hZ (hw _ (List.mem_of_getElem? (i := 11) rfl)) (hw _ (List.mem_of_getElem? (i := 5) rfl)) (by decide) (by decide)) q7a q7c (g := (mkF m 33 #[.val (.int p1), .val (.int p2), .val (.int p3), .val (.int (p1 &&& (7 : Int32))), .val (.int p2), .val (.ref (f1 (p1 &&& (7 : Int32)) r_ADDRESS r_ADDRESS_LIST r_UINT8 r_UINT16 r_UINT32 r_CODE_LIST r_TEXT r_BYTES))] [(.int p2), (.ref (f1 (p1 &&& (7 : Int32)) r_ADDRESS r_ADDRESS_LIST r_UINT8 r_UINT16 r_UINT32 r_CODE_LIST r_TEXT r_BYTES))])) rfl (by rw [hml]; rfl) (Steps.refl _) (argsL := [(.int p2)]) (rest := []) (lenOf pd_0_1 rfl) rfl (by show 2 * 0 + _ ≤ _; exact Nat.le_of_eq rfl) (hb hby at_33) (fun _ _ => ⟨rfl, e6, (by decide : 0 + 0 ≤ _), (by decide : 0 + 0 ≤ _)⟩)
    dsimp only [Pt.U, Pt.locs, Pt.cells, Pt.slots] at X7 l7 y7 z7 st7 hQ7
    subst l7 y7 z7
    obtain ⟨rfl, N7q, er7⟩ := hQ7
    have e7 : T7.heap = h0 := er7
    have N7 := Fr.app N6 N7q
    refine Goes.via (fun t k => st7.trans k) ?_
    show Goes p e below (T7.setTop (mkF m 36 #[.val (.int p1), .val (.int p2), .val (.int p3), .val (.int (p1 &&& (7 : Int32))), .val (.int p2), .val (.ref (f1 (p1 &&& (7 : Int32)) r_ADDRESS r_ADDRESS_LIST r_UINT8 r_UINT16 r_UINT32 r_CODE_LIST r_TEXT r_BYTES))] [(.int (f2 (f1 (p1 &&& (7 : Int32)) r_ADDRESS r_ADDRESS_LIST r_UINT8 r_UINT16 r_UINT32 r_CODE_LIST r_TEXT r_BYTES) p2 (own_mn (p1 &&& (7 : Int32))) (own_mx (p1 &&& (7 : Int32))) (own_un (p1 &&& (7 : Int32)))))])) _
    refine Goes.via (fun t k => XS.iloadN X7.here hx rfl (hb hby at_36) rfl k) ?_
    show Goes p e below (T7.setTop (mkF m 37 #[.val (.int p1), .val (.int p2), .val (.int p3), .val (.int (p1 &&& (7 : Int32))), .val (.int p2), .val (.ref (f1 (p1 &&& (7 : Int32)) r_ADDRESS r_ADDRESS_LIST r_UINT8 r_UINT16 r_UINT32 r_CODE_LIST r_TEXT r_BYTES))] [(.int (p1 &&& (7 : Int32))), (.int (f2 (f1 (p1 &&& (7 : Int32)) r_ADDRESS r_ADDRESS_LIST r_UINT8 r_UINT16 r_UINT32 r_CODE_LIST r_TEXT r_BYTES) p2 (own_mn (p1 &&& (7 : Int32))) (own_mx (p1 &&& (7 : Int32))) (own_un (p1 &&& (7 : Int32)))))])) _
    refine Goes.via (fun t k => XS.iload X7.here hx rfl (hb hby at_37) rfl k) ?_
    show Goes p e below (T7.setTop (mkF m 39 #[.val (.int p1), .val (.int p2), .val (.int p3), .val (.int (p1 &&& (7 : Int32))), .val (.int p2), .val (.ref (f1 (p1 &&& (7 : Int32)) r_ADDRESS r_ADDRESS_LIST r_UINT8 r_UINT16 r_UINT32 r_CODE_LIST r_TEXT r_BYTES))] [(.int p2), (.int (p1 &&& (7 : Int32))), (.int (f2 (f1 (p1 &&& (7 : Int32)) r_ADDRESS r_ADDRESS_LIST r_UINT8 r_UINT16 r_UINT32 r_CODE_LIST r_TEXT r_BYTES) p2 (own_mn (p1 &&& (7 : Int32))) (own_mx (p1 &&& (7 : Int32))) (own_un (p1 &&& (7 : Int32)))))])) _
    obtain ⟨_, _, ⟨T8, L8, k8, n8⟩, -, X8, ⟨Lc8, hQ8, l8, y8, z8⟩, st8⟩ := Jvm.LawKit.callS X7 hx (y := (⟨"com/example/lean_lease/leanlease/wire/OptionFormatFitsPinLaw", "expected", "(II)Z"⟩ : MethodName)) hown (mvT hZ (hw _ (List.mem_of_getElem? (i := 14) rfl))) (mvT hZ (hw _ (List.mem_of_getElem? (i := 15) rfl))) (mvT hZ (hw _ (List.mem_of_getElem? (i := 2) rfl))) (mvT hZ (hw _ (List.mem_of_getElem? (i := 16) rfl))) (by decide) (backOf (W := 1) (rm3 l Z a0 hw [] (p1 &&& (7 : Int32)) p2 h0 n0 Z0 ) hZ (hw _ (List.mem_of_getElem? (i := 16) rfl)) (hw _ (List.mem_of_getElem? (i := 2) rfl)) (by decide) (by decide)) (g := (mkF m 39 #[.val (.int p1), .val (.int p2), .val (.int p3), .val (.int (p1 &&& (7 : Int32))), .val (.int p2), .val (.ref (f1 (p1 &&& (7 : Int32)) r_ADDRESS r_ADDRESS_LIST r_UINT8 r_UINT16 r_UINT32 r_CODE_LIST r_TEXT r_BYTES))] [(.int p2), (.int (p1 &&& (7 : Int32))), (.int (f2 (f1 (p1 &&& (7 : Int32)) r_ADDRESS r_ADDRESS_LIST r_UINT8 r_UINT16 r_UINT32 r_CODE_LIST r_TEXT r_BYTES) p2 (own_mn (p1 &&& (7 : Int32))) (own_mx (p1 &&& (7 : Int32))) (own_un (p1 &&& (7 : Int32)))))])) rfl (by rw [hml]; rfl) (argsL := [(.int (p1 &&& (7 : Int32))), (.int p2)]) (rest := [(.int (f2 (f1 (p1 &&& (7 : Int32)) r_ADDRESS r_ADDRESS_LIST r_UINT8 r_UINT16 r_UINT32 r_CODE_LIST r_TEXT r_BYTES) p2 (own_mn (p1 &&& (7 : Int32))) (own_mx (p1 &&& (7 : Int32))) (own_un (p1 &&& (7 : Int32)))))]) (lenOf pd_0_2 rfl) rfl (by show 2 * 0 + _ ≤ _; exact Nat.le_of_eq rfl) (hb hby at_39) (fun _ _ => ⟨rfl, e7, (by decide : 0 + 0 ≤ _), (by decide : 0 + 0 ≤ _)⟩)
    dsimp only [Pt.U, Pt.locs, Pt.cells, Pt.slots] at X8 l8 y8 z8 st8 hQ8
    subst l8 y8 z8
    obtain ⟨rfl, N8q, er8⟩ := hQ8
    have e8 : T8.heap = h0 := er8
    have N8 := Fr.app N7 N8q
    refine Goes.via st8 ?_
    show Goes p e below (T8.setTop (mkF m 42 #[.val (.int p1), .val (.int p2), .val (.int p3), .val (.int (p1 &&& (7 : Int32))), .val (.int p2), .val (.ref (f1 (p1 &&& (7 : Int32)) r_ADDRESS r_ADDRESS_LIST r_UINT8 r_UINT16 r_UINT32 r_CODE_LIST r_TEXT r_BYTES))] [(.int (f3 (p1 &&& (7 : Int32)) p2)), (.int (f2 (f1 (p1 &&& (7 : Int32)) r_ADDRESS r_ADDRESS_LIST r_UINT8 r_UINT16 r_UINT32 r_CODE_LIST r_TEXT r_BYTES) p2 (own_mn (p1 &&& (7 : Int32))) (own_mx (p1 &&& (7 : Int32))) (own_un (p1 &&& (7 : Int32)))))])) _
    refine Goes.via (next := T8.setTop (mkF m 50 #[.val (.int p1), .val (.int p2), .val (.int p3), .val (.int (p1 &&& (7 : Int32))), .val (.int p2), .val (.ref (f1 (p1 &&& (7 : Int32)) r_ADDRESS r_ADDRESS_LIST r_UINT8 r_UINT16 r_UINT32 r_CODE_LIST r_TEXT r_BYTES))] [(.int (v0_50_1 p1 p2 r_ADDRESS r_ADDRESS_LIST r_UINT8 r_UINT16 r_UINT32 r_CODE_LIST r_TEXT r_BYTES))])) (fun t k => ?_) ?_
    · by_cases hc42_9 : (f2 (f1 (p1 &&& (7 : Int32)) r_ADDRESS r_ADDRESS_LIST r_UINT8 r_UINT16 r_UINT32 r_CODE_LIST r_TEXT r_BYTES) p2 (own_mn (p1 &&& (7 : Int32))) (own_mx (p1 &&& (7 : Int32))) (own_un (p1 &&& (7 : Int32)))) = (f3 (p1 &&& (7 : Int32)) p2)
      · refine XS.icmpNo X8.here hx rfl (hb hby at_42) rfl (teq hc42_9).2 ?_
        show Steps p.tables e below (T8.setTop (mkF m 45 #[.val (.int p1), .val (.int p2), .val (.int p3), .val (.int (p1 &&& (7 : Int32))), .val (.int p2), .val (.ref (f1 (p1 &&& (7 : Int32)) r_ADDRESS r_ADDRESS_LIST r_UINT8 r_UINT16 r_UINT32 r_CODE_LIST r_TEXT r_BYTES))] [])) _
        refine XS.iconst X8.here hx rfl (hb hby at_45) ?_
        show Steps p.tables e below (T8.setTop (mkF m 46 #[.val (.int p1), .val (.int p2), .val (.int p3), .val (.int (p1 &&& (7 : Int32))), .val (.int p2), .val (.ref (f1 (p1 &&& (7 : Int32)) r_ADDRESS r_ADDRESS_LIST r_UINT8 r_UINT16 r_UINT32 r_CODE_LIST r_TEXT r_BYTES))] [(.int (1 : Int32))])) _
        refine XS.goto X8.here hx rfl (pc0 := 46) (pc' := 50) rfl (hb hby at_46) (by decide) (by decide) ?_
        show Steps p.tables e below (T8.setTop (mkF m 50 #[.val (.int p1), .val (.int p2), .val (.int p3), .val (.int (p1 &&& (7 : Int32))), .val (.int p2), .val (.ref (f1 (p1 &&& (7 : Int32)) r_ADDRESS r_ADDRESS_LIST r_UINT8 r_UINT16 r_UINT32 r_CODE_LIST r_TEXT r_BYTES))] [(.int (1 : Int32))])) _
        simpa only [v0_50_1, if_pos hc42_9] using k
      · refine XS.icmpYes X8.here hx rfl (pc0 := 42) (pc' := 49) rfl (hb hby at_42) rfl (feq hc42_9).2 (by decide) (by decide) ?_
        show Steps p.tables e below (T8.setTop (mkF m 49 #[.val (.int p1), .val (.int p2), .val (.int p3), .val (.int (p1 &&& (7 : Int32))), .val (.int p2), .val (.ref (f1 (p1 &&& (7 : Int32)) r_ADDRESS r_ADDRESS_LIST r_UINT8 r_UINT16 r_UINT32 r_CODE_LIST r_TEXT r_BYTES))] [])) _
        refine XS.iconst X8.here hx rfl (hb hby at_49) ?_
        show Steps p.tables e below (T8.setTop (mkF m 50 #[.val (.int p1), .val (.int p2), .val (.int p3), .val (.int (p1 &&& (7 : Int32))), .val (.int p2), .val (.ref (f1 (p1 &&& (7 : Int32)) r_ADDRESS r_ADDRESS_LIST r_UINT8 r_UINT16 r_UINT32 r_CODE_LIST r_TEXT r_BYTES))] [(.int (0 : Int32))])) _
        simpa only [v0_50_1, if_neg hc42_9] using k
    show Goes p e below (T8.setTop (mkF m 50 #[.val (.int p1), .val (.int p2), .val (.int p3), .val (.int (p1 &&& (7 : Int32))), .val (.int p2), .val (.ref (f1 (p1 &&& (7 : Int32)) r_ADDRESS r_ADDRESS_LIST r_UINT8 r_UINT16 r_UINT32 r_CODE_LIST r_TEXT r_BYTES))] [(.int (v0_50_1 p1 p2 r_ADDRESS r_ADDRESS_LIST r_UINT8 r_UINT16 r_UINT32 r_CODE_LIST r_TEXT r_BYTES))])) _
    obtain ⟨fs, hr, hrun, hended, hW, hsame⟩ := X8.leave (v := some (.int (nar .boolean (v0_50_1 p1 p2 r_ADDRESS r_ADDRESS_LIST r_UINT8 r_UINT16 r_UINT32 r_CODE_LIST r_TEXT r_BYTES)))) (fun h => by rw [Bd.returns] at h; cases h)
    refine ⟨_, _, ?_, hrun, hended, _, _, rfl, ?_, ⟨_, rfl⟩, hW, hsame.mono (by decide) (by decide)⟩
    · exact retN X8 hx (t := .boolean) Bd.returns (by simp) (hb hby at_50) hr
    · show Q0 Z p1 p2 p3 r_ADDRESS r_ADDRESS_LIST r_UINT8 r_UINT16 r_UINT32 r_CODE_LIST r_TEXT r_BYTES h0 n0 _ T8.heap _
      rw [e8]
      exact ⟨congrArg some (congrArg _ (by simp only [f0, if_neg hc8_1])), N8, rfl⟩
theorem own_seven (x : Int32) : (x &&& 7) = 0 ∨ (x &&& 7) = 1 ∨ (x &&& 7) = 2 ∨ (x &&& 7) = 3 ∨ (x &&& 7) = 4 ∨ (x &&& 7) = 5 ∨ (x &&& 7) = 6 ∨ (x &&& 7) = 7 := by
  have a1 := c_mask x 7 3 (by decide) (by decide)
  have hp : ((2 ^ 3 : Nat) : Int) = 8 := by decide
  rw [hp] at a1
  simp only [← Int32.toInt_inj, a1, show (0 : Int32).toInt = 0 from by decide, show (1 : Int32).toInt = 1 from by decide, show (2 : Int32).toInt = 2 from by decide, show (3 : Int32).toInt = 3 from by decide, show (4 : Int32).toInt = 4 from by decide, show (5 : Int32).toInt = 5 from by decide, show (6 : Int32).toInt = 6 from by decide, show (7 : Int32).toInt = 7 from by decide]
  omega
theorem own_lits : (0 : Int32).toInt = 0 ∧ (1 : Int32).toInt = 1 ∧ (2 : Int32).toInt = 2 ∧ (4 : Int32).toInt = 4 ∧ (2147483647 : Int32).toInt = 2147483647 := by decide
/-- what fits computes, in whole numbers -/
theorem own_f2 (a : Addr) (len mn mx un : Int32) : f2 a len mn mx un = if (mn.toInt ≤ len.toInt ∧ len.toInt ≤ mx.toInt) ∧ (len % un).toInt = 0 then 1 else 0 := by
  obtain ⟨e0, -⟩ := own_lits
  simp only [f2, v2_30_0, Int32.lt_iff_toInt_lt, ← Int32.toInt_inj, e0]
  by_cases h1 : len.toInt < mn.toInt
  · rw [if_pos h1, if_neg (by omega)]
  · rw [if_neg h1]
    by_cases h2 : mx.toInt < len.toInt
    · rw [if_pos h2, if_neg (by omega)]
    · rw [if_neg h2]
      by_cases h3 : (len % un).toInt = 0
      · rw [if_pos h3, if_pos ⟨by omega, h3⟩]; decide
      · rw [if_neg h3, if_neg (fun q => h3 q.2)]; decide
theorem own_bit (P : Prop) [Decidable P] : nar .boolean (if P then (1 : Int32) else 0) = if P then 1 else 0 := by
  by_cases h : P
  · simp only [if_pos h]; decide
  · simp only [if_neg h]; decide
theorem own_iff {P Q : Prop} [Decidable P] [Decidable Q] (h : P ↔ Q) : (if P then (1 : Int32) else 0) = if Q then 1 else 0 := by
  by_cases p : P
  · rw [if_pos p, if_pos (h.mp p)]
  · rw [if_neg p, if_neg (fun q => p (h.mpr q))]
theorem own_not {P : Prop} [Decidable P] : (if P then (0 : Int32) else 1) = if ¬ P then 1 else 0 := by
  by_cases p : P
  · rw [if_pos p, if_neg (fun q => q p)]
  · rw [if_neg p, if_pos p]
theorem own_and {P Q : Prop} [Decidable P] [Decidable Q] : (if P then (if Q then (1 : Int32) else 0) else 0) = if P ∧ Q then 1 else 0 := by
  by_cases p : P
  · by_cases q : Q
    · rw [if_pos p, if_pos q, if_pos ⟨p, q⟩]
    · rw [if_pos p, if_neg q, if_neg (fun z => q z.2)]
  · rw [if_neg p, if_neg (fun z => p z.1)]
theorem own_r4 (x : Int32) : ((x % 4).toInt = 0 ↔ x.toInt % 4 = 0) := by
  have h := c_irem x 4 4 (by decide)
  rcases Int.lt_or_le x.toInt 0 with q | q
  · rw [h.2 q]; omega
  · rw [h.1 q]
theorem own_r2 (x : Int32) : ((x % 2).toInt = 0 ↔ x.toInt % 2 = 0) := by
  have h := c_irem x 2 2 (by decide)
  rcases Int.lt_or_le x.toInt 0 with q | q
  · rw [h.2 q]; omega
  · rw [h.1 q]
theorem own_r1 (x : Int32) : (x % 1).toInt = 0 := by
  have h := c_irem x 1 1 (by decide)
  rcases Int.lt_or_le x.toInt 0 with q | q
  · rw [h.2 q]; omega
  · rw [h.1 q]; omega
theorem own_m3 (x : Int32) : (x &&& 3).toInt = x.toInt % 4 := c_mask x 3 2 (by decide) (by decide)
theorem own_mns : own_mn 0 = 4 ∧ own_mn 1 = 4 ∧ own_mn 2 = 1 ∧ own_mn 3 = 2 ∧ own_mn 4 = 4 ∧ own_mn 5 = 1 ∧ own_mn 6 = 1 ∧ own_mn 7 = 0 := by decide
theorem own_mxs : own_mx 0 = 4 ∧ own_mx 1 = 2147483647 ∧ own_mx 2 = 1 ∧ own_mx 3 = 2 ∧ own_mx 4 = 4 ∧ own_mx 5 = 2147483647 ∧ own_mx 6 = 2147483647 ∧ own_mx 7 = 2147483647 := by decide
theorem own_uns : own_un 0 = 4 ∧ own_un 1 = 4 ∧ own_un 2 = 1 ∧ own_un 3 = 2 ∧ own_un 4 = 4 ∧ own_un 5 = 1 ∧ own_un 6 = 1 ∧ own_un 7 = 1 := by decide
theorem own_fits (a : Addr) (len w : Int32) (h8 : w = 0 ∨ w = 1 ∨ w = 2 ∨ w = 3 ∨ w = 4 ∨ w = 5 ∨ w = 6 ∨ w = 7) : f2 a len (own_mn w) (own_mx w) (own_un w) = f3 w len := by
  obtain ⟨e0, e1, e2, e4, eM⟩ := own_lits
  obtain ⟨a0, a1, a2, a3, a4, a5, a6, a7⟩ := own_mns
  obtain ⟨b0, b1, b2, b3, b4, b5, b6, b7⟩ := own_mxs
  obtain ⟨c0, c1, c2, c3, c4, c5, c6, c7⟩ := own_uns
  have hr := rng32 len
  rw [own_f2]
  have k4 : v3_19_0 len = if len.toInt = 4 then 1 else 0 := own_iff (by rw [← Int32.toInt_inj, e4])
  have k40 : v3_40_1 len = if 0 < len.toInt ∧ len.toInt % 4 = 0 then 1 else 0 := own_and.trans (own_iff (by rw [Int32.lt_iff_toInt_lt, e0, ← Int32.toInt_inj, own_m3, e0]))
  have k1 : v3_56_2 len = if len.toInt = 1 then 1 else 0 := own_iff (by rw [← Int32.toInt_inj, e1])
  have k2 : v3_72_3 len = if len.toInt = 2 then 1 else 0 := own_iff (by rw [← Int32.toInt_inj, e2])
  have k94 : v3_94_4 len = if 1 ≤ len.toInt then 1 else 0 := own_not.trans (own_iff (by rw [Int32.lt_iff_toInt_lt, e1]; omega))
  have k104 : v3_104_5 len = if 0 ≤ len.toInt then 1 else 0 := own_not.trans (own_iff (by rw [Int32.lt_iff_toInt_lt, e0]; omega))
  rcases h8 with rfl | rfl | rfl | rfl | rfl | rfl | rfl | rfl
  · have q : f3 0 len = nar .boolean (v3_19_0 len) := by simp only [f3]; rfl
    rw [q, k4, own_bit, a0, b0, c0, e4]
    exact own_iff (by rw [own_r4]; omega)
  · have q : f3 1 len = nar .boolean (v3_40_1 len) := by simp only [f3]; rfl
    rw [q, k40, own_bit, a1, b1, c1, e4, eM]
    exact own_iff (by rw [own_r4]; omega)
  · have q : f3 2 len = nar .boolean (v3_56_2 len) := by simp only [f3]; rfl
    rw [q, k1, own_bit, a2, b2, c2, e1]
    exact own_iff (by have := own_r1 len; omega)
  · have q : f3 3 len = nar .boolean (v3_72_3 len) := by simp only [f3]; rfl
    rw [q, k2, own_bit, a3, b3, c3, e2]
    exact own_iff (by rw [own_r2]; omega)
  · have q : f3 4 len = nar .boolean (v3_19_0 len) := by simp only [f3]; rfl
    rw [q, k4, own_bit, a4, b4, c4, e4]
    exact own_iff (by rw [own_r4]; omega)
  · have q : f3 5 len = nar .boolean (v3_94_4 len) := by simp only [f3]; rfl
    rw [q, k94, own_bit, a5, b5, c5, e1, eM]
    exact own_iff (by have := own_r1 len; omega)
  · have q : f3 6 len = nar .boolean (v3_94_4 len) := by simp only [f3]; rfl
    rw [q, k94, own_bit, a6, b6, c6, e1, eM]
    exact own_iff (by have := own_r1 len; omega)
  · have q : f3 7 len = nar .boolean (v3_104_5 len) := by simp only [f3]; rfl
    rw [q, k104, own_bit, a7, b7, c7, e0, eM]
    exact own_iff (by have := own_r1 len; omega)
theorem one_1 (i0 i1 i2 : Int32) {r_ADDRESS r_ADDRESS_LIST r_UINT8 r_UINT16 r_UINT32 r_CODE_LIST r_TEXT r_BYTES : Addr} : f0 i0 i1 i2 r_ADDRESS r_ADDRESS_LIST r_UINT8 r_UINT16 r_UINT32 r_CODE_LIST r_TEXT r_BYTES = 1 := by
  have h := fun a len => own_fits a len _ (own_seven i0)
  simp only [f0, v0_50_0, v0_50_1, if_pos (h _ _)]
  split <;> decide
set_option maxRecDepth 65536 in
set_option maxHeartbeats 40000000 in
theorem comes_1 {Post : Tables → Env → Array Value → State → Outcome → State → Prop} (hpost : ∀ tb e args s v u, (limb_1_1.after args s (.returned v) u = true ∧ limb_1_2.after args s (.returned v) u = true ∧ True) → FrameEnd s (.returned v) u (Jvm.fieldLocs frame_1_writes args s ++ Jvm.arrayLocs frame_1_arrays args s ++ Jvm.staticLocs frame_1_statics s) 0 0 → Post tb e args s (.returned v) u) :
    ArmFor flags0 classFile x code maxLocals ret World_1 tables_1 room_1 Calls_1 rest_1 Pre_1 Post := by
  intro l hfl _ _ p e ha hc hk s m args below hf hA hF happ hP
  obtain ⟨hcalls, hrest, hpre⟩ := hP
  obtain ⟨-, -, -, hnamed, -, -, -, hat⟩ := (Spec.applies_iff hf).mp happ
  obtain ⟨hg, hn⟩ := and_e (Cond.before_iff.mp (show (Jvm.Cond.and given_1 narrow_1).before args s = true from hpre))
  obtain ⟨g0, r0⟩ := and_e hg
  obtain ⟨w0, w1, w2, rfl⟩ : ∃ w0 w1 w2 : Value, args = #[w0, w1, w2] := by
    have hs : args.size = 3 := by simpa [Cond.value, given_1] using g0
    obtain ⟨L⟩ := args
    match L, hs with
    | [w0, w1, w2], _ => exact ⟨w0, w1, w2, rfl⟩
  have hw := fun d (hd : d ∈ tables_1) => atoms_spec (ws := Jvm.Cond.code x code maxLocals ret :: tables_1) hat d (List.mem_cons_of_mem _ hd)
  obtain ⟨g1, r1⟩ := and_e r0
  obtain ⟨g2, r2⟩ := and_e r1
  have g3 := r2
  obtain ⟨i0, ei0⟩ := is_v g1
  obtain rfl : w0 = (.int i0) := Option.some.inj ei0
  obtain ⟨i1, ei1⟩ := is_v g2
  obtain rfl : w1 = (.int i1) := Option.some.inj ei1
  obtain ⟨i2, ei2⟩ := is_v g3
  obtain rfl : w2 = (.int i2) := Option.some.inj ei2
  obtain ⟨m0, mr0⟩ := and_e hn
  obtain ⟨m1, mr1⟩ := and_e mr0
  obtain ⟨m2, mr2⟩ := and_e mr1
  obtain ⟨m3, mr3⟩ := and_e mr2
  obtain ⟨m4, mr4⟩ := and_e mr3
  obtain ⟨m5, mr5⟩ := and_e mr4
  obtain ⟨m6, mr6⟩ := and_e mr5
  obtain ⟨m7, mr7⟩ := and_e mr6
  obtain ⟨m8, mr8⟩ := and_e mr7
  obtain ⟨m9, mr9⟩ := and_e mr8
  obtain ⟨m10, mr10⟩ := and_e mr9
  obtain ⟨m11, mr11⟩ := and_e mr10
  obtain ⟨m12, mr12⟩ := and_e mr11
  obtain ⟨m13, mr13⟩ := and_e mr12
  obtain ⟨m14, mr14⟩ := and_e mr13
  obtain ⟨m15, mr15⟩ := and_e mr14
  obtain ⟨m16, mr16⟩ := and_e mr15
  obtain ⟨m17, mr17⟩ := and_e mr16
  obtain ⟨m18, mr18⟩ := and_e mr17
  obtain ⟨m19, mr19⟩ := and_e mr18
  obtain ⟨m20, mr20⟩ := and_e mr19
  obtain ⟨m21, mr21⟩ := and_e mr20
  obtain ⟨m22, mr22⟩ := and_e mr21
  obtain ⟨m23, mr23⟩ := and_e mr22
  obtain ⟨m24, mr24⟩ := and_e mr23
  obtain ⟨m25, mr25⟩ := and_e mr24
  obtain ⟨m26, mr26⟩ := and_e mr25
  obtain ⟨m27, mr27⟩ := and_e mr26
  obtain ⟨m28, mr28⟩ := and_e mr27
  obtain ⟨m29, mr29⟩ := and_e mr28
  obtain ⟨m30, mr30⟩ := and_e mr29
  have m31 := mr30
  obtain ⟨r_ADDRESS, ev_ADDRESS⟩ := exa_v m0
  have S_ADDRESS := Sta.start ev_ADDRESS (Or.inr ⟨(hw _ (List.mem_of_getElem? (i := 5) rfl)), (hw _ (List.mem_of_getElem? (i := 6) rfl))⟩)
  have E_ADDRESS := Exa.start ev_ADDRESS m0
  have F_ADDRESS_mn := Fld.start ((fld_at ev_ADDRESS).symm.trans (eqv_i rfl m1))
  have F_ADDRESS_mx := Fld.start ((fld_at ev_ADDRESS).symm.trans (eqv_i rfl m16))
  have F_ADDRESS_un := Fld.start ((fld_at ev_ADDRESS).symm.trans (eqv_i rfl m30))
  obtain ⟨r_ADDRESS_LIST, ev_ADDRESS_LIST⟩ := exa_v m2
  have S_ADDRESS_LIST := Sta.start ev_ADDRESS_LIST (Or.inr ⟨(hw _ (List.mem_of_getElem? (i := 5) rfl)), (hw _ (List.mem_of_getElem? (i := 18) rfl))⟩)
  have E_ADDRESS_LIST := Exa.start ev_ADDRESS_LIST m2
  have F_ADDRESS_LIST_mn := Fld.start ((fld_at ev_ADDRESS_LIST).symm.trans (eqv_i rfl m3))
  have F_ADDRESS_LIST_mx := Fld.start ((fld_at ev_ADDRESS_LIST).symm.trans (eqv_i rfl m4))
  have F_ADDRESS_LIST_un := Fld.start ((fld_at ev_ADDRESS_LIST).symm.trans (eqv_i rfl m5))
  obtain ⟨r_UINT8, ev_UINT8⟩ := exa_v m11
  have S_UINT8 := Sta.start ev_UINT8 (Or.inr ⟨(hw _ (List.mem_of_getElem? (i := 5) rfl)), (hw _ (List.mem_of_getElem? (i := 28) rfl))⟩)
  have E_UINT8 := Exa.start ev_UINT8 m11
  have F_UINT8_mn := Fld.start ((fld_at ev_UINT8).symm.trans (eqv_i rfl m12))
  have F_UINT8_mx := Fld.start ((fld_at ev_UINT8).symm.trans (eqv_i rfl m19))
  have F_UINT8_un := Fld.start ((fld_at ev_UINT8).symm.trans (eqv_i rfl m28))
  obtain ⟨r_UINT16, ev_UINT16⟩ := exa_v m13
  have S_UINT16 := Sta.start ev_UINT16 (Or.inr ⟨(hw _ (List.mem_of_getElem? (i := 5) rfl)), (hw _ (List.mem_of_getElem? (i := 30) rfl))⟩)
  have E_UINT16 := Exa.start ev_UINT16 m13
  have F_UINT16_mn := Fld.start ((fld_at ev_UINT16).symm.trans (eqv_i rfl m14))
  have F_UINT16_mx := Fld.start ((fld_at ev_UINT16).symm.trans (eqv_i rfl m15))
  have F_UINT16_un := Fld.start ((fld_at ev_UINT16).symm.trans (eqv_i rfl m29))
  obtain ⟨r_UINT32, ev_UINT32⟩ := exa_v m6
  have S_UINT32 := Sta.start ev_UINT32 (Or.inr ⟨(hw _ (List.mem_of_getElem? (i := 5) rfl)), (hw _ (List.mem_of_getElem? (i := 24) rfl))⟩)
  have E_UINT32 := Exa.start ev_UINT32 m6
  have F_UINT32_mn := Fld.start ((fld_at ev_UINT32).symm.trans (eqv_i rfl m7))
  have F_UINT32_mx := Fld.start ((fld_at ev_UINT32).symm.trans (eqv_i rfl m8))
  have F_UINT32_un := Fld.start ((fld_at ev_UINT32).symm.trans (eqv_i rfl m31))
  obtain ⟨r_CODE_LIST, ev_CODE_LIST⟩ := exa_v m17
  have S_CODE_LIST := Sta.start ev_CODE_LIST (Or.inr ⟨(hw _ (List.mem_of_getElem? (i := 5) rfl)), (hw _ (List.mem_of_getElem? (i := 32) rfl))⟩)
  have E_CODE_LIST := Exa.start ev_CODE_LIST m17
  have F_CODE_LIST_mn := Fld.start ((fld_at ev_CODE_LIST).symm.trans (eqv_i rfl m18))
  have F_CODE_LIST_mx := Fld.start ((fld_at ev_CODE_LIST).symm.trans (eqv_i rfl m20))
  have F_CODE_LIST_un := Fld.start ((fld_at ev_CODE_LIST).symm.trans (eqv_i rfl m21))
  obtain ⟨r_TEXT, ev_TEXT⟩ := exa_v m22
  have S_TEXT := Sta.start ev_TEXT (Or.inr ⟨(hw _ (List.mem_of_getElem? (i := 5) rfl)), (hw _ (List.mem_of_getElem? (i := 34) rfl))⟩)
  have E_TEXT := Exa.start ev_TEXT m22
  have F_TEXT_mn := Fld.start ((fld_at ev_TEXT).symm.trans (eqv_i rfl m23))
  have F_TEXT_mx := Fld.start ((fld_at ev_TEXT).symm.trans (eqv_i rfl m24))
  have F_TEXT_un := Fld.start ((fld_at ev_TEXT).symm.trans (eqv_i rfl m25))
  obtain ⟨r_BYTES, ev_BYTES⟩ := exa_v m9
  have S_BYTES := Sta.start ev_BYTES (Or.inr ⟨(hw _ (List.mem_of_getElem? (i := 5) rfl)), (hw _ (List.mem_of_getElem? (i := 26) rfl))⟩)
  have E_BYTES := Exa.start ev_BYTES m9
  have F_BYTES_mn := Fld.start ((fld_at ev_BYTES).symm.trans (eqv_i rfl m10))
  have F_BYTES_mx := Fld.start ((fld_at ev_BYTES).symm.trans (eqv_i rfl m26))
  have F_BYTES_un := Fld.start ((fld_at ev_BYTES).symm.trans (eqv_i rfl m27))
  obtain ⟨n, o, h1, h2, h3, v, L, rfl, hQ, hq⟩ := rm0 l s _ hw tables_1 i0 i1 i2 r_ADDRESS r_ADDRESS_LIST r_UINT8 r_UINT16 r_UINT32 r_CODE_LIST r_TEXT r_BYTES s.heap s.heap.size (Nat.le_refl _) S_ADDRESS S_ADDRESS_LIST S_UINT8 S_UINT16 S_UINT32 S_CODE_LIST S_TEXT S_BYTES E_ADDRESS E_ADDRESS_LIST E_UINT8 E_UINT16 E_UINT32 E_CODE_LIST E_TEXT E_BYTES F_ADDRESS_mn F_ADDRESS_mx F_ADDRESS_un F_ADDRESS_LIST_mn F_ADDRESS_LIST_mx F_ADDRESS_LIST_un F_UINT8_mn F_UINT8_mx F_UINT8_un F_UINT16_mn F_UINT16_mx F_UINT16_un F_UINT32_mn F_UINT32_mx F_UINT32_un F_CODE_LIST_mn F_CODE_LIST_mx F_CODE_LIST_un F_TEXT_mn F_TEXT_mx F_TEXT_un F_BYTES_mn F_BYTES_mx F_BYTES_un p e ha hc hk s m _ below hf ((Spec.applies_iff_loose hf).mp happ).1 ⟨rfl, State.Warmed39.refl s, rfl⟩ trivial
  obtain ⟨hv, N⟩ : v = some (.int 1) ∧ Fr s.heap.size L := ⟨by rw [hQ.1, one_1 i0 i1 i2], hQ.2.1⟩
  subst hv
  refine ⟨n, _, h1, h2, h3, hpost _ _ _ _ _ _ ⟨Cond.after_iff.mpr rfl, Cond.after_iff.mpr (eq_i res_at (Term.int_eval (1)) rfl), trivial⟩ ⟨hq.1, hq.2.1, (hq.2.2.sift fun y hy => Or.inr (N y hy)).mono (by decide) (by decide)⟩⟩
theorem main_1_1 : Claimed_1_1 := comes_1 fun _ _ _ _ _ _ h hF => ⟨h.1, hF⟩
theorem main_1_2 : Claimed_1_2 := comes_1 fun _ _ _ _ _ _ h hF => ⟨h.2.1, hF⟩
end Jvm.Pilot.@@N@@
namespace Jvm.Pilot.@@N@@
open Jvm Jvm.ClassFile Sem Op Lib Jvm.Free Jvm.Stand Jvm.Pilot.@@N@@.Jvm.D
/-! MADE BY PROGRAM (witnessworld.py) out of the Statement's table words and the real class files: 12 classes; the members and pool entries that the words name. The judged class is class 1, her method 3. -/
namespace start1
open Jvm.ClassFile
def u (s : String) : CpInfo := .utf8 (stringToUtf16 s)
/-- a pool by its gaps: so many unusable entries, then the entry; so many at the end -/
def gap : Nat → List CpInfo → List CpInfo
  | 0, r => r
  | n + 1, r => .unusable :: gap n r
def poolList (es : List (Nat × CpInfo)) (last : Nat) : List CpInfo := es.foldr (fun e r => gap e.1 (e.2 :: r)) (gap last [])
def pool (es : List (Nat × CpInfo)) (last : Nat) : Array CpInfo := ⟨poolList es last⟩
def fileOf (pool : Array CpInfo) (this : Nat) (attrs : Array Attribute := #[]) (ms : Array MethodInfo := #[]) (fl : Nat := 33) (sup : Nat := 0) (ifs : Array Nat := #[]) (fds : Array FieldInfo := #[]) : ClassFile where
  minorVersion := 0
  majorVersion := 65
  constantPool := pool
  accessFlags := fl
  thisClass := this
  superClass := sup
  interfaces := ifs
  fields := fds
  methods := ms
  attributes := attrs
def plain (name : String) (sup : Option ClassId) : Class where
  name := name
  kind := .ordinary
  loader := none
  accessFlags := 33
  super := sup
  interfaces := #[]
  cf := none
  fields := #[]
  methods := #[]
  instanceTypes := #[]
  staticTypes := #[]
  resolved := #[]
  callSites := []
  init := .initialized
  statics := none
  mirror := none

def pool0 : Array CpInfo := pool [(5, u "<init>"), (0, u "()V"), (1, .class_ 10), (1, u "java/lang/Object")] 113

def k0m0 : Method := { name := "<init>", desc := "()V", sig := { parameters := [], returnType := none }, accessFlags := 1, code := none }
/-- java/lang/Object -/
def k0 : Class := { plain "java/lang/Object" none with
  accessFlags := 33
  interfaces := #[]
  cf := some (fileOf pool0 8 #[] #[{ accessFlags := 1, nameIndex := 5, descriptorIndex := 6, attributes := #[] }] 33 0 #[] #[])
  fields := #[]
  methods := #[k0m0]
  instanceTypes := #[]
  staticTypes := #[]
  resolved := Array.replicate 124 none
  statics := none }

def pool1 : Array CpInfo := pool [(2, .class_ 4), (1, u "java/lang/Object"), (0, u "<init>"), (0, u "()V"), (0, .fieldref 8 9), (0, .class_ 10), (0, .nameAndType 11 12), (0, u "com/example/lean_lease/leanlease/wire/OptionFormat"), (0, u "ADDRESS"), (0, u "Lcom/example/lean_lease/leanlease/wire/OptionFormat;"), (0, .fieldref 8 14), (0, .nameAndType 15 12), (0, u "ADDRESS_LIST"), (0, .fieldref 8 17), (0, .nameAndType 18 12), (0, u "UINT8"), (0, .fieldref 8 20), (0, .nameAndType 21 12), (0, u "UINT16"), (0, .fieldref 8 23), (0, .nameAndType 24 12), (0, u "UINT32"), (0, .fieldref 8 26), (0, .nameAndType 27 12), (0, u "CODE_LIST"), (0, .fieldref 8 29), (0, .nameAndType 30 12), (0, u "TEXT"), (0, .fieldref 8 32), (0, .nameAndType 33 12), (0, u "BYTES"), (0, .methodref 35 36), (0, .class_ 37), (0, .nameAndType 38 39), (0, u "com/example/lean_lease/leanlease/wire/OptionFormatFitsPinLaw"), (0, u "pick"), (0, u "(I)Lcom/example/lean_lease/leanlease/wire/OptionFormat;"), (0, .methodref 8 41), (0, .nameAndType 42 43), (0, u "fits"), (0, u "(I)Z"), (0, .methodref 35 45), (0, .nameAndType 46 47), (0, u "expected"), (0, u "(II)Z"), (3, u "law"), (0, u "(III)Z")] 2

def k1m0 : Method := { name := "<init>", desc := "()V", sig := { parameters := [], returnType := none }, accessFlags := 2, code := none }
def k1c1 : Code := { maxStack := 2, maxLocals := 1, code := method_2_code, exceptionTable := #[], attributes := #[] }
def k1m1 : Method := { name := "pick", desc := "(I)Lcom/example/lean_lease/leanlease/wire/OptionFormat;", sig := { parameters := [.int], returnType := some (.object "com/example/lean_lease/leanlease/wire/OptionFormat") }, accessFlags := 10, code := some k1c1 }
def k1c2 : Code := { maxStack := 2, maxLocals := 2, code := method_3_code, exceptionTable := #[], attributes := #[] }
def k1m2 : Method := { name := "expected", desc := "(II)Z", sig := { parameters := [.int, .int], returnType := some .boolean }, accessFlags := 10, code := some k1c2 }
def k1c3 : Code := { maxStack := 3, maxLocals := 6, code := code, exceptionTable := #[], attributes := #[] }
def k1m3 : Method := { name := "law", desc := "(III)Z", sig := { parameters := [.int, .int, .int], returnType := some .boolean }, accessFlags := 9, code := some k1c3 }
/-- com/example/lean_lease/leanlease/wire/OptionFormatFitsPinLaw -/
def k1 : Class := { plain "com/example/lean_lease/leanlease/wire/OptionFormatFitsPinLaw" (some 0) with
  accessFlags := 49
  interfaces := #[]
  cf := some (fileOf pool1 35 #[] #[{ accessFlags := 2, nameIndex := 5, descriptorIndex := 6, attributes := #[] }, { accessFlags := 10, nameIndex := 38, descriptorIndex := 39, attributes := #[] }, { accessFlags := 10, nameIndex := 46, descriptorIndex := 47, attributes := #[] }, { accessFlags := 9, nameIndex := 51, descriptorIndex := 52, attributes := #[] }] 49 2 #[] #[])
  fields := #[]
  methods := #[k1m0, k1m1, k1m2, k1m3]
  instanceTypes := #[]
  staticTypes := #[]
  resolved := Array.replicate 55 none
  statics := none }

def pool2 : Array CpInfo := pool [(1, .class_ 2), (0, u "java/lang/constant/Constable"), (0, .class_ 4), (0, u "java/lang/Object")] 6

/-- java/lang/constant/Constable -/
def k2 : Class := { plain "java/lang/constant/Constable" (some 0) with
  accessFlags := 1537
  interfaces := #[]
  cf := some (fileOf pool2 1 #[] #[] 1537 3 #[] #[])
  fields := #[]
  methods := #[]
  instanceTypes := #[]
  staticTypes := #[]
  resolved := Array.replicate 11 none
  statics := none }

def pool3 : Array CpInfo := pool [(1, .class_ 2), (0, u "java/lang/Comparable"), (0, .class_ 4), (0, u "java/lang/Object")] 7

/-- java/lang/Comparable -/
def k3 : Class := { plain "java/lang/Comparable" (some 0) with
  accessFlags := 1537
  interfaces := #[]
  cf := some (fileOf pool3 1 #[] #[] 1537 3 #[] #[])
  fields := #[]
  methods := #[]
  instanceTypes := #[]
  staticTypes := #[]
  resolved := Array.replicate 12 none
  statics := none }

def pool4 : Array CpInfo := pool [(1, .class_ 2), (0, u "java/io/Serializable"), (0, .class_ 4), (0, u "java/lang/Object")] 2

/-- java/io/Serializable -/
def k4 : Class := { plain "java/io/Serializable" (some 0) with
  accessFlags := 1537
  interfaces := #[]
  cf := some (fileOf pool4 1 #[] #[] 1537 3 #[] #[])
  fields := #[]
  methods := #[]
  instanceTypes := #[]
  staticTypes := #[]
  resolved := Array.replicate 7 none
  statics := none }

def pool5 : Array CpInfo := pool [(2, .class_ 4), (1, u "java/lang/Enum"), (0, u "name"), (0, u "Ljava/lang/String;"), (2, u "ordinal"), (0, u "I"), (1, .class_ 14), (1, u "java/lang/Object"), (4, u "hash"), (86, .class_ 108), (1, u "java/lang/Enum$EnumDesc"), (2, .class_ 112), (0, u "java/lang/constant/Constable"), (0, .class_ 114), (0, u "java/lang/Comparable"), (0, .class_ 116), (0, u "java/io/Serializable")] 87

/-- java/lang/Enum -/
def k5 : Class := { plain "java/lang/Enum" (some 0) with
  accessFlags := 1057
  interfaces := #[2, 3, 4]
  cf := some (fileOf pool5 2 #[.nestMembers #[106]] #[] 1057 12 #[111, 113, 115] #[{ accessFlags := 18, nameIndex := 5, descriptorIndex := 6, attributes := #[] }, { accessFlags := 18, nameIndex := 9, descriptorIndex := 10, attributes := #[] }, { accessFlags := 2, nameIndex := 19, descriptorIndex := 10, attributes := #[] }])
  fields := #[{ name := "name", type := (.object "java/lang/String"), accessFlags := 18, slot := 0, constantValue := 0 }, { name := "ordinal", type := .int, accessFlags := 18, slot := 1, constantValue := 0 }, { name := "hash", type := .int, accessFlags := 2, slot := 2, constantValue := 0 }]
  methods := #[]
  instanceTypes := #[(.object "java/lang/String"), .int, .int]
  staticTypes := #[]
  resolved := Array.replicate 204 none
  statics := none }

def pool6 : Array CpInfo := pool [(1, .class_ 2), (0, u "com/example/lean_lease/leanlease/wire/OptionFormat"), (2, u "ADDRESS"), (0, u "Lcom/example/lean_lease/leanlease/wire/OptionFormat;"), (2, u "ADDRESS_LIST"), (2, u "UINT8"), (2, u "UINT16"), (2, u "UINT32"), (2, u "CODE_LIST"), (2, u "TEXT"), (2, u "BYTES"), (2, u "$VALUES"), (0, u "[Lcom/example/lean_lease/leanlease/wire/OptionFormat;"), (6, .class_ 40), (1, u "java/lang/Enum"), (6, .fieldref 1 48), (0, .nameAndType 49 50), (0, u "minLength"), (0, u "I"), (0, .fieldref 1 52), (0, .nameAndType 53 50), (0, u "maxLength"), (0, .fieldref 1 55), (0, .nameAndType 56 50), (0, u "unit"), (2, u "lengths"), (0, u "Ljava/lang/String;"), (37, u "fits"), (0, u "(I)Z")] 7

def k6c0 : Code := { maxStack := 2, maxLocals := 2, code := prog_47_method_4_code, exceptionTable := #[], attributes := #[] }
def k6m0 : Method := { name := "fits", desc := "(I)Z", sig := { parameters := [.int], returnType := some .boolean }, accessFlags := 1, code := some k6c0 }
/-- com/example/lean_lease/leanlease/wire/OptionFormat -/
def k6 : Class := { plain "com/example/lean_lease/leanlease/wire/OptionFormat" (some 5) with
  accessFlags := 16433
  interfaces := #[]
  cf := some (fileOf pool6 1 #[] #[{ accessFlags := 1, nameIndex := 98, descriptorIndex := 99, attributes := #[] }] 16433 38 #[] #[{ accessFlags := 16409, nameIndex := 5, descriptorIndex := 6, attributes := #[] }, { accessFlags := 16409, nameIndex := 9, descriptorIndex := 6, attributes := #[] }, { accessFlags := 16409, nameIndex := 12, descriptorIndex := 6, attributes := #[] }, { accessFlags := 16409, nameIndex := 15, descriptorIndex := 6, attributes := #[] }, { accessFlags := 16409, nameIndex := 18, descriptorIndex := 6, attributes := #[] }, { accessFlags := 16409, nameIndex := 21, descriptorIndex := 6, attributes := #[] }, { accessFlags := 16409, nameIndex := 24, descriptorIndex := 6, attributes := #[] }, { accessFlags := 16409, nameIndex := 27, descriptorIndex := 6, attributes := #[] }, { accessFlags := 18, nameIndex := 49, descriptorIndex := 50, attributes := #[] }, { accessFlags := 18, nameIndex := 53, descriptorIndex := 50, attributes := #[] }, { accessFlags := 18, nameIndex := 56, descriptorIndex := 50, attributes := #[] }, { accessFlags := 18, nameIndex := 59, descriptorIndex := 60, attributes := #[] }, { accessFlags := 4122, nameIndex := 30, descriptorIndex := 31, attributes := #[] }])
  fields := #[{ name := "ADDRESS", type := (.object "com/example/lean_lease/leanlease/wire/OptionFormat"), accessFlags := 16409, slot := 0, constantValue := 0 }, { name := "ADDRESS_LIST", type := (.object "com/example/lean_lease/leanlease/wire/OptionFormat"), accessFlags := 16409, slot := 1, constantValue := 0 }, { name := "UINT8", type := (.object "com/example/lean_lease/leanlease/wire/OptionFormat"), accessFlags := 16409, slot := 2, constantValue := 0 }, { name := "UINT16", type := (.object "com/example/lean_lease/leanlease/wire/OptionFormat"), accessFlags := 16409, slot := 3, constantValue := 0 }, { name := "UINT32", type := (.object "com/example/lean_lease/leanlease/wire/OptionFormat"), accessFlags := 16409, slot := 4, constantValue := 0 }, { name := "CODE_LIST", type := (.object "com/example/lean_lease/leanlease/wire/OptionFormat"), accessFlags := 16409, slot := 5, constantValue := 0 }, { name := "TEXT", type := (.object "com/example/lean_lease/leanlease/wire/OptionFormat"), accessFlags := 16409, slot := 6, constantValue := 0 }, { name := "BYTES", type := (.object "com/example/lean_lease/leanlease/wire/OptionFormat"), accessFlags := 16409, slot := 7, constantValue := 0 }, { name := "minLength", type := .int, accessFlags := 18, slot := 3, constantValue := 0 }, { name := "maxLength", type := .int, accessFlags := 18, slot := 4, constantValue := 0 }, { name := "unit", type := .int, accessFlags := 18, slot := 5, constantValue := 0 }, { name := "lengths", type := (.object "java/lang/String"), accessFlags := 18, slot := 6, constantValue := 0 }, { name := "$VALUES", type := (.array (.object "com/example/lean_lease/leanlease/wire/OptionFormat")), accessFlags := 4122, slot := 8, constantValue := 0 }]
  methods := #[k6m0]
  instanceTypes := #[(.object "java/lang/String"), .int, .int, .int, .int, .int, (.object "java/lang/String")]
  staticTypes := #[(.object "com/example/lean_lease/leanlease/wire/OptionFormat"), (.object "com/example/lean_lease/leanlease/wire/OptionFormat"), (.object "com/example/lean_lease/leanlease/wire/OptionFormat"), (.object "com/example/lean_lease/leanlease/wire/OptionFormat"), (.object "com/example/lean_lease/leanlease/wire/OptionFormat"), (.object "com/example/lean_lease/leanlease/wire/OptionFormat"), (.object "com/example/lean_lease/leanlease/wire/OptionFormat"), (.object "com/example/lean_lease/leanlease/wire/OptionFormat"), (.array (.object "com/example/lean_lease/leanlease/wire/OptionFormat"))]
  resolved := Array.replicate 107 none
  statics := some 0 }

def pool7 : Array CpInfo := pool [(1, u "java/lang/Cloneable"), (0, .class_ 1), (0, u "java/lang/Object"), (0, .class_ 3)] 3

/-- java/lang/Cloneable -/
def k7 : Class := { plain "java/lang/Cloneable" (some 0) with
  accessFlags := 1537
  interfaces := #[]
  cf := some (fileOf pool7 2 #[] #[] 1537 4 #[] #[])
  fields := #[]
  methods := #[]
  instanceTypes := #[]
  staticTypes := #[]
  resolved := Array.replicate 8 none
  statics := none }

/-- the primitive byte -/
def k8 : Class := { plain "byte" none with kind := .primitive 'B', accessFlags := 0x411 }
/-- [B -/
def k9 : Class := { plain "[B" (some 0) with kind := .array 8 .byte, interfaces := #[7, 4], accessFlags := 1041 }

/-- the primitive int -/
def k10 : Class := { plain "int" none with kind := .primitive 'I', accessFlags := 0x411 }
/-- [I -/
def k11 : Class := { plain "[I" (some 0) with kind := .array 10 .int, interfaces := #[7, 4], accessFlags := 1041 }

def heap : Heap := #[{ cls := 6, slots := #[.ref 1, .ref 2, .ref 3, .ref 4, .ref 5, .ref 6, .ref 7, .ref 8, .null], vm := .statics 6 },
  { cls := 6, slots := #[.null, .int 0, .int 0, .int 4, .int 4, .int 4, .null], vm := .none },
  { cls := 6, slots := #[.null, .int 1, .int 0, .int 4, .int 2147483647, .int 4, .null], vm := .none },
  { cls := 6, slots := #[.null, .int 2, .int 0, .int 1, .int 1, .int 1, .null], vm := .none },
  { cls := 6, slots := #[.null, .int 3, .int 0, .int 2, .int 2, .int 2, .null], vm := .none },
  { cls := 6, slots := #[.null, .int 4, .int 0, .int 4, .int 4, .int 4, .null], vm := .none },
  { cls := 6, slots := #[.null, .int 5, .int 0, .int 1, .int 2147483647, .int 1, .null], vm := .none },
  { cls := 6, slots := #[.null, .int 6, .int 0, .int 1, .int 2147483647, .int 1, .null], vm := .none },
  { cls := 6, slots := #[.null, .int 7, .int 0, .int 0, .int 2147483647, .int 1, .null], vm := .none }]
def classes : Array Class := #[k0, k1, k2, k3, k4, k5, k6, k7, k8, k9, k10, k11]
def interned : List (Array UInt16 × Addr) := []
def slotsUsed : Nat := 65
def theMethod : MethodId := ⟨1, 3⟩
def args0 : Array Value := #[.int 5, .int 7, .int 3]
def aboutOver (below : List Frame) : State where
  vm := { classes := classes, interned := interned.toArray }
  heap := heap
  slotsUsed := slotsUsed
  threads := #[{ frames := .invoking theMethod args0 :: below }]
def below0 : List Frame := [.native { method := ⟨0, 0⟩, args := #[] }]
def about1 : State := aboutOver below0
def p0 : Program := .bare "" "" ""
def e0 : Env := launch0.env 0 0 0
theorem w_frames : about1.frames = Frame.invoking theMethod args0 :: below0 := rfl
set_option maxRecDepth 65536 in
theorem w_args : argsFit about1.vm theMethod args0 = true := by decide +kernel
set_option maxRecDepth 65536 in
theorem w_heap : heapFits about1 = true := by decide +kernel
set_option maxRecDepth 65536 in
theorem w_runnable : about1.curStatus? = some .runnable := by decide +kernel
set_option maxRecDepth 65536 in
theorem w_alone : about1.alone = true := by decide +kernel
set_option maxRecDepth 65536 in
theorem w_named : about1.methodNamed? x = some theMethod := by decide +kernel
set_option maxRecDepth 65536 in
theorem w_hears : about1.hears theMethod below0 = true := by decide +kernel
set_option maxRecDepth 65536 in
theorem w_ripe : about1.ripe theMethod args0 below0 = true := by decide +kernel
theorem w_running : about1.status = .running := rfl
set_option maxRecDepth 65536 in
theorem w_room : about1.hasRoom e0.platform room_1 = true :=
  launch0.hasRoom_least _ room_1 (by decide +kernel) (by decide +kernel) (by decide +kernel) (by decide +kernel) (by decide +kernel) (by decide +kernel)
theorem allAtoms_all (ts : List Jvm.Cond) (a : Array Jvm.Value) (st : Jvm.State) : (allAtoms ts).before a st = ts.all (fun c => c.before a st) := by
  induction ts with
  | nil => rfl
  | cons c t ih =>
    show (Jvm.Cond.and c (allAtoms t)).before a st = _
    rw [Jvm.Cond.before_and, ih, List.all_cons]
def words1 : List Jvm.Cond := Jvm.Cond.code x code maxLocals ret :: tables_1
/-- a 'code' word, met by the world's own term for the bytes: nothing is compared byte by byte -/
theorem code_word {y : MethodName} {bytes : ByteArray} {mx : Nat} {rt : Option FieldType} {a : Array Value} {s : State} {m : MethodId} {meth : Method} {c : Code} (h1 : s.methodNamed? y = some m) (h2 : s.vm.method? m = some meth) (h3 : meth.code = some c) (h4 : c.code = bytes)
    (h5 : (c.maxLocals == mx && c.exceptionTable.isEmpty && decide (c.maxStack ≤ mostOperands) && decide (meth.sig.returnType = rt) && !meth.locks && decide (parseMethodDescriptor y.desc = some meth.sig)) = true) : (Jvm.Cond.code y bytes mx rt).before a s = true := by
  simp only [Bool.and_eq_true, beq_iff_eq, Bool.not_eq_true', decide_eq_true_eq] at h5
  obtain ⟨⟨⟨⟨⟨g1, g2⟩, g3⟩, g4⟩, g5⟩, g6⟩ := h5
  simp [Cond.before, Cond.holds, Cond.value, h1, h2, h3, h4, g1, g2, g3, g4, g5, g6]
def isCode : Jvm.Cond → Bool
  | .code _ _ _ _ => true
  | _ => false
theorem all_split {L : List Jvm.Cond} {P : Jvm.Cond → Bool} (h1 : L.all (fun c => isCode c || P c) = true) (h2 : ∀ c ∈ L.filter isCode, P c = true) : L.all P = true := by
  refine List.all_eq_true.mpr fun c hc => ?_
  have h := List.all_eq_true.mp h1 c hc
  rcases Bool.eq_false_or_eq_true (isCode c) with hi | hi
  · exact h2 c (List.mem_filter.mpr ⟨hc, hi⟩)
  · simpa [hi] using h
set_option maxRecDepth 65536 in
theorem w_c0 : (Jvm.Cond.code x code maxLocals ret).before args0 about1 = true := code_word (m := ⟨1, 3⟩) (meth := k1m3) (c := k1c3) (by decide +kernel) rfl rfl rfl (by decide +kernel)
set_option maxRecDepth 65536 in
theorem w_c1 : (Jvm.Cond.code ({ cls := "com/example/lean_lease/leanlease/wire/OptionFormatFitsPinLaw", name := "pick", desc := "(I)Lcom/example/lean_lease/leanlease/wire/OptionFormat;" } : Jvm.MethodName) method_2_code (1 : Nat) (Option.some (Jvm.ClassFile.FieldType.object "com/example/lean_lease/leanlease/wire/OptionFormat"))).before args0 about1 = true := code_word (m := ⟨1, 1⟩) (meth := k1m1) (c := k1c1) (by decide +kernel) rfl rfl rfl (by decide +kernel)
set_option maxRecDepth 65536 in
theorem w_c2 : (Jvm.Cond.code ({ cls := "com/example/lean_lease/leanlease/wire/OptionFormat", name := "fits", desc := "(I)Z" } : Jvm.MethodName) prog_47_method_4_code (2 : Nat) (Option.some Jvm.ClassFile.FieldType.boolean)).before args0 about1 = true := code_word (m := ⟨6, 0⟩) (meth := k6m0) (c := k6c0) (by decide +kernel) rfl rfl rfl (by decide +kernel)
set_option maxRecDepth 65536 in
theorem w_c3 : (Jvm.Cond.code ({ cls := "com/example/lean_lease/leanlease/wire/OptionFormatFitsPinLaw", name := "expected", desc := "(II)Z" } : Jvm.MethodName) method_3_code (2 : Nat) (Option.some Jvm.ClassFile.FieldType.boolean)).before args0 about1 = true := code_word (m := ⟨1, 2⟩) (meth := k1m2) (c := k1c2) (by decide +kernel) rfl rfl rfl (by decide +kernel)
def codes1 : List Jvm.Cond := [Jvm.Cond.code x code maxLocals ret, Jvm.Cond.code ({ cls := "com/example/lean_lease/leanlease/wire/OptionFormatFitsPinLaw", name := "pick", desc := "(I)Lcom/example/lean_lease/leanlease/wire/OptionFormat;" } : Jvm.MethodName) method_2_code (1 : Nat) (Option.some (Jvm.ClassFile.FieldType.object "com/example/lean_lease/leanlease/wire/OptionFormat")), Jvm.Cond.code ({ cls := "com/example/lean_lease/leanlease/wire/OptionFormat", name := "fits", desc := "(I)Z" } : Jvm.MethodName) prog_47_method_4_code (2 : Nat) (Option.some Jvm.ClassFile.FieldType.boolean), Jvm.Cond.code ({ cls := "com/example/lean_lease/leanlease/wire/OptionFormatFitsPinLaw", name := "expected", desc := "(II)Z" } : Jvm.MethodName) method_3_code (2 : Nat) (Option.some Jvm.ClassFile.FieldType.boolean)]
set_option maxRecDepth 65536 in
theorem codes_eq : words1.filter isCode = codes1 := rfl
theorem w_codes : ∀ c ∈ words1.filter isCode, c.before args0 about1 = true := by
  rw [codes_eq]
  intro c hc
  simp only [codes1, List.mem_cons, List.not_mem_nil, or_false] at hc
  rcases hc with rfl | rfl | rfl | rfl
  · exact w_c0
  · exact w_c1
  · exact w_c2
  · exact w_c3
set_option maxRecDepth 65536 in
theorem w_t1 : (words1.take 24).all (fun c => isCode c || c.before args0 about1) = true := by decide +kernel
set_option maxRecDepth 65536 in
theorem w_t2 : (words1.drop 24).all (fun c => isCode c || c.before args0 about1) = true := by decide +kernel
theorem w_tables : (allAtoms (Jvm.Cond.code x code maxLocals ret :: tables_1)).before args0 about1 = true := by
  rw [allAtoms_all]
  show words1.all (fun c => c.before args0 about1) = true
  refine all_split ?_ w_codes
  rw [← List.take_append_drop 24 words1, List.all_append, w_t1, w_t2]
  rfl
set_option maxRecDepth 65536 in
theorem w_case : (Jvm.Cond.and given_1 narrow_1).before args0 about1 = true := by decide +kernel
theorem w_applies : (headSpec (Jvm.Cond.code x code maxLocals ret :: tables_1) room_1).applies x e0.platform about1 = true :=
  (Spec.applies_iff w_frames).mpr ⟨w_running, w_runnable, w_alone, w_named, w_hears, w_ripe, w_room, w_tables⟩
theorem atStart : AtStart classFile x code maxLocals ret World_1 tables_1 room_1 Calls_1 rest_1 Pre_1 launch0 p0 e0 about1 theMethod args0 below0 :=
  ⟨lists_1, trivial, launch0.admits_env _ _ _, launch0.least_env, fairChoices_fair.cas, fairChoices_fair.clock, w_frames, w_args, w_heap, w_applies, trivial, trivial, w_case⟩
end start1
theorem witness_1 : WitnessClaimed_1 := ⟨start1.p0, start1.e0, start1.about1, start1.theMethod, start1.args0, start1.below0, start1.atStart⟩
end Jvm.Pilot.@@N@@
