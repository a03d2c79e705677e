import JvmDerived
import JvmDerived.Pilot.@@N@@Statement
import JvmDerived.Pilot.@@N@@Code
set_option linter.unusedVariables false
set_option linter.unusedSimpArgs false
namespace Jvm.RoadKit
open Sem ClassFile Op Lib Jvm.Stand Jvm.Free Jvm.LawKit
section New
variable {p : Program} {l : Launch} {e : Env} {R : Room} {s : State} {m : MethodId} {args : Array Value} {below : List Frame} {meth : Method} {c : Code} {T : State} {locs : List Loc} {cells slots : Nat}
theorem retI (X : Stand p l e R s m args below meth c T locs cells slots) (hx : p.tables.exec = Jvm.exec) {pc : Nat} {Ls : Array Slot} {z : Int32} {rest : List Value} (hret : meth.sig.returnType = some .int) (hd : decode c.code pc = .ok (.ireturn, 1)) {fs : List Frame}
    (hl : ∀ (f : JFrame) (acts : List Action), f.method = m → f.locked = none → f.entered = [] → (doReturn e (T.setTop f) acts (some (.int z))).1 = T.setFrames fs) : Steps p.tables e below (T.setTop (mkF m pc Ls (.int z :: rest))) (T.setFrames fs) := by
  have hm' : T.vm.method? m = some meth := X.method'
  have hn : narrow .int (.int z) = .int z := rfl
  show Steps p.tables e below (T.setTop { method := m, pc := pc, locals := Ls, stack := _ :: rest, locked := none }) _
  jvm_step X.here [X.here.top, hx, hd, hm', hret, hn]
  first | (intro acts; rw [hl _ acts rfl rfl rfl]) | rw [hl _ _ rfl rfl rfl]
  exact Steps.refl _
/-- from here the invocation comes to an end of which R holds -/
def Goes (p : Program) (e : Env) (below : List Frame) (cur : State) (R : State → Outcome → Prop) : Prop := ∃ s₂ o, Steps p.tables e below cur s₂ ∧ s₂.status = .running ∧ Ended s₂ below o ∧ R s₂ o
theorem Goes.via {cur next : State} {R : State → Outcome → Prop} (k : ∀ t, Steps p.tables e below next t → Steps p.tables e below cur t) (h : Goes p e below next R) : Goes p e below cur R := by
  obtain ⟨s₂, o, h1, h2⟩ := h
  exact ⟨s₂, o, k _ h1, h2⟩
end New
end Jvm.RoadKit
namespace Jvm.Pilot.@@N@@
open Jvm Jvm.ClassFile Sem Op Lib Jvm.Free Jvm.Stand Jvm.LawKit Jvm.RoadKit Bundle Jvm.Pilot.@@N@@.Jvm.D
theorem d1_0 : decode method_2_code 0 = .ok (.iload_n 0, 1) := by decide +kernel
theorem d1_1 : decode method_2_code 1 = .ok (.ifCond .ne 7, 3) := by decide +kernel
theorem d1_4 : decode method_2_code 4 = .ok (.getstatic 7, 3) := by decide +kernel
theorem d1_7 : decode method_2_code 7 = .ok (.areturn, 1) := by decide +kernel
theorem d1_8 : decode method_2_code 8 = .ok (.iload_n 0, 1) := by decide +kernel
theorem d1_9 : decode method_2_code 9 = .ok (.iconst 1, 1) := by decide +kernel
theorem d1_10 : decode method_2_code 10 = .ok (.if_icmp .ne 7, 3) := by decide +kernel
theorem d1_13 : decode method_2_code 13 = .ok (.getstatic 13, 3) := by decide +kernel
theorem d1_16 : decode method_2_code 16 = .ok (.areturn, 1) := by decide +kernel
theorem d1_17 : decode method_2_code 17 = .ok (.iload_n 0, 1) := by decide +kernel
theorem d1_18 : decode method_2_code 18 = .ok (.iconst 2, 1) := by decide +kernel
theorem d1_19 : decode method_2_code 19 = .ok (.if_icmp .ne 7, 3) := by decide +kernel
theorem d1_22 : decode method_2_code 22 = .ok (.getstatic 16, 3) := by decide +kernel
theorem d1_25 : decode method_2_code 25 = .ok (.areturn, 1) := by decide +kernel
theorem d1_26 : decode method_2_code 26 = .ok (.iload_n 0, 1) := by decide +kernel
theorem d1_27 : decode method_2_code 27 = .ok (.iconst 3, 1) := by decide +kernel
theorem d1_28 : decode method_2_code 28 = .ok (.if_icmp .ne 7, 3) := by decide +kernel
theorem d1_31 : decode method_2_code 31 = .ok (.getstatic 19, 3) := by decide +kernel
theorem d1_34 : decode method_2_code 34 = .ok (.areturn, 1) := by decide +kernel
theorem d1_35 : decode method_2_code 35 = .ok (.iload_n 0, 1) := by decide +kernel
theorem d1_36 : decode method_2_code 36 = .ok (.iconst 4, 1) := by decide +kernel
theorem d1_37 : decode method_2_code 37 = .ok (.if_icmp .ne 7, 3) := by decide +kernel
theorem d1_40 : decode method_2_code 40 = .ok (.getstatic 22, 3) := by decide +kernel
theorem d1_43 : decode method_2_code 43 = .ok (.areturn, 1) := by decide +kernel
theorem d1_44 : decode method_2_code 44 = .ok (.iload_n 0, 1) := by decide +kernel
theorem d1_45 : decode method_2_code 45 = .ok (.iconst 5, 1) := by decide +kernel
theorem d1_46 : decode method_2_code 46 = .ok (.if_icmp .ne 7, 3) := by decide +kernel
theorem d1_49 : decode method_2_code 49 = .ok (.getstatic 25, 3) := by decide +kernel
theorem d1_52 : decode method_2_code 52 = .ok (.areturn, 1) := by decide +kernel
theorem d1_53 : decode method_2_code 53 = .ok (.iload_n 0, 1) := by decide +kernel
theorem d1_54 : decode method_2_code 54 = .ok (.bipush 6, 2) := by decide +kernel
theorem d1_56 : decode method_2_code 56 = .ok (.if_icmp .ne 7, 3) := by decide +kernel
theorem d1_59 : decode method_2_code 59 = .ok (.getstatic 28, 3) := by decide +kernel
theorem d1_62 : decode method_2_code 62 = .ok (.areturn, 1) := by decide +kernel
theorem d1_63 : decode method_2_code 63 = .ok (.getstatic 31, 3) := by decide +kernel
theorem d1_66 : decode method_2_code 66 = .ok (.areturn, 1) := by decide +kernel
theorem pn_1 : plainName "com/example/sapsucker/sapsucker/service/RoleIsBodyPinLaw" = true := by first | (simp [plainName, overriddenIn]; done) | decide +kernel
theorem ef_1 (m : MethodId) (x0 : Int32) : entryFrame m #[(.int x0)] 1 = mkF m 0 #[.val (.int x0)] [] := by first | (simp [entryFrame, mkF, argsToLocals, Value.category]; done) | rfl
def f1 (p1 : Int32) (r_TEXT : Addr) (r_LOOSE_TEXT : Addr) (r_QUOTATION : Addr) (r_HEADLINE : Addr) (r_CAPTION : Addr) (r_LINKS : Addr) (r_DATELINE : Addr) (r_LABEL : Addr) : Addr :=
  if p1 = (0 : Int32) then r_TEXT else
  if p1 = (1 : Int32) then r_LOOSE_TEXT else
  if p1 = (2 : Int32) then r_QUOTATION else
  if p1 = (3 : Int32) then r_HEADLINE else
  if p1 = (4 : Int32) then r_CAPTION else
  if p1 = (5 : Int32) then r_LINKS else
  if p1 = (6 : Int32) then r_DATELINE else
  r_LABEL
def Q1 (Z : State) (p1 : Int32) (r_TEXT : Addr) (r_LOOSE_TEXT : Addr) (r_QUOTATION : Addr) (r_HEADLINE : Addr) (r_CAPTION : Addr) (r_LINKS : Addr) (r_DATELINE : Addr) (r_LABEL : Addr) (h0 : Heap) (n0 : Nat) (v : Option Value) (h : Heap) (L : List Loc) : Prop := v = some (.ref (f1 p1 r_TEXT r_LOOSE_TEXT r_QUOTATION r_HEADLINE r_CAPTION r_LINKS r_DATELINE r_LABEL)) ∧ Fr n0 L ∧ h = h0
set_option maxRecDepth 65536 in
set_option maxHeartbeats 40000000 in
theorem rm1 (l : Launch) (Z : State) (a0 : Array Value) (hw : ∀ d ∈ tables_1, d.before a0 Z = true) (ws : List Jvm.Cond) (p1 : Int32) (r_TEXT : Addr) (r_LOOSE_TEXT : Addr) (r_QUOTATION : Addr) (r_HEADLINE : Addr) (r_CAPTION : Addr) (r_LINKS : Addr) (r_DATELINE : Addr) (r_LABEL : Addr) (h0 : Heap) (n0 : Nat) (Z0 : n0 ≤ h0.size) (S_TEXT : Sta Z h0 "com/example/sapsucker/sapsucker/service/Role" "TEXT" "Lcom/example/sapsucker/sapsucker/service/Role;" (.ref r_TEXT)) (S_LOOSE_TEXT : Sta Z h0 "com/example/sapsucker/sapsucker/service/Role" "LOOSE_TEXT" "Lcom/example/sapsucker/sapsucker/service/Role;" (.ref r_LOOSE_TEXT)) (S_QUOTATION : Sta Z h0 "com/example/sapsucker/sapsucker/service/Role" "QUOTATION" "Lcom/example/sapsucker/sapsucker/service/Role;" (.ref r_QUOTATION)) (S_HEADLINE : Sta Z h0 "com/example/sapsucker/sapsucker/service/Role" "HEADLINE" "Lcom/example/sapsucker/sapsucker/service/Role;" (.ref r_HEADLINE)) (S_CAPTION : Sta Z h0 "com/example/sapsucker/sapsucker/service/Role" "CAPTION" "Lcom/example/sapsucker/sapsucker/service/Role;" (.ref r_CAPTION)) (S_LINKS : Sta Z h0 "com/example/sapsucker/sapsucker/service/Role" "LINKS" "Lcom/example/sapsucker/sapsucker/service/Role;" (.ref r_LINKS)) (S_DATELINE : Sta Z h0 "com/example/sapsucker/sapsucker/service/Role" "DATELINE" "Lcom/example/sapsucker/sapsucker/service/Role;" (.ref r_DATELINE)) (S_LABEL : Sta Z h0 "com/example/sapsucker/sapsucker/service/Role" "LABEL" "Lcom/example/sapsucker/sapsucker/service/Role;" (.ref r_LABEL)) :
    MetFree l (⟨"com/example/sapsucker/sapsucker/service/RoleIsBodyPinLaw", "pick", "(I)Lcom/example/sapsucker/sapsucker/service/Role;"⟩ : MethodName) (head1 (Jvm.Cond.code (⟨"com/example/sapsucker/sapsucker/service/RoleIsBodyPinLaw", "pick", "(I)Lcom/example/sapsucker/sapsucker/service/Role;"⟩ : MethodName) method_2_code 1 (some (.object "com/example/sapsucker/sapsucker/service/Role")) :: ws) ({ frames := 0, cells := 0, slots := 0, locals := 0 } : Room)) (fun a U => a = #[(.int p1)] ∧ Z.Warmed39 U.vm ∧ U.heap = h0) (fun _ _ _ _ _ => True) (fun _ U o U' => ∃ v L, o = .returned v ∧ Q1 Z p1 r_TEXT r_LOOSE_TEXT r_QUOTATION r_HEADLINE r_CAPTION r_LINKS r_DATELINE r_LABEL h0 n0 v U'.heap L ∧ FrameEnd U o U' L ({ frames := 0, cells := 0, slots := 0, locals := 0 } : Room).cells ({ frames := 0, cells := 0, slots := 0, locals := 0 } : Room).slots) := by
  refine MetFree.of_bodySF (plainFor_of_name pn_1) hisR ?_
  intro p e s m args below meth c s₁ Bd hml0 hP hK
  obtain ⟨rfl, hZ, hh⟩ := hP
  have hx := Bd.exec
  have hby := Bd.bytes
  have hml : c.maxLocals = 1 := hml0
  have hown : s.vm.findClass "com/example/sapsucker/sapsucker/service/RoleIsBodyPinLaw" = some m.cls := findClass_of_methodNamed Bd.named
  have hnm := (name_of_methodNamed Bd.named Bd.method).1
  have X0 : Stand p l e ({ frames := 0, cells := 0, slots := 0, locals := 0 } : Room) s m #[(.int p1)] below meth c s₁ [] 0 0 := Stand.of_body Bd
  have e0 : s₁.heap = h0 := by rw [← hh, Bd.state]; rfl
  have N0 := Fr.nil n0
  refine Goes.via (next := s₁.setTop (mkF m 0 #[.val (.int p1)] [])) (fun t k => castTop (ef_1 m p1) k) ?_
  refine Goes.via (fun t k => XS.iloadN X0.here hx rfl (hb hby d1_0) rfl k) ?_
  show Goes p e below (s₁.setTop (mkF m 1 #[.val (.int p1)] [(.int p1)])) _
  by_cases hc1_1 : p1 = (0 : Int32)
  · refine Goes.via (fun t k => XS.ifNo X0.here hx rfl (hb hby d1_1) rfl ((if0 _ _).trans (teq hc1_1).2) k) ?_
    show Goes p e below (s₁.setTop (mkF m 4 #[.val (.int p1)] [])) _
    obtain ⟨T2, X2, e2, st2⟩ := getS2 X0 hx hZ hown (host := "") (Or.inl (hw _ (List.mem_of_getElem? (i := 4) rfl))) Via.refl e0 S_TEXT (g := (mkF m 4 #[.val (.int p1)] [])) rfl (hb hby d1_4)
    refine Goes.via st2 ?_
    show Goes p e below (T2.setTop (mkF m 7 #[.val (.int p1)] [(.ref r_TEXT)])) _
    obtain ⟨fs, hr, hrun, hended, hW, hsame⟩ := X2.leave (v := some (.ref r_TEXT)) (fun h => by rw [Bd.returns] at h; cases h)
    refine ⟨_, _, ?_, hrun, hended, _, _, rfl, ?_, ⟨_, rfl⟩, hW, hsame.mono (by decide) (by decide)⟩
    · exact retOut X2 hx (t := (.object "com/example/sapsucker/sapsucker/service/Role")) Bd.returns rfl (Or.inr (Or.inr (Or.inr (Or.inr ⟨rfl, rfl, rfl⟩)))) (hb hby d1_7) hr
    · show Q1 Z p1 r_TEXT r_LOOSE_TEXT r_QUOTATION r_HEADLINE r_CAPTION r_LINKS r_DATELINE r_LABEL h0 n0 _ T2.heap _
      rw [e2]
      exact ⟨congrArg some (congrArg _ (by simp only [f1, if_pos hc1_1])), N0, rfl⟩
  · refine Goes.via (fun t k => XS.ifYes X0.here hx rfl (pc0 := 1) (pc' := 8) rfl (hb hby d1_1) rfl ((if0 _ _).trans (feq hc1_1).2) (by decide) (by decide) k) ?_
    show Goes p e below (s₁.setTop (mkF m 8 #[.val (.int p1)] [])) _
    refine Goes.via (fun t k => XS.iloadN X0.here hx rfl (hb hby d1_8) rfl k) ?_
    show Goes p e below (s₁.setTop (mkF m 9 #[.val (.int p1)] [(.int p1)])) _
    refine Goes.via (fun t k => XS.iconst X0.here hx rfl (hb hby d1_9) k) ?_
    show Goes p e below (s₁.setTop (mkF m 10 #[.val (.int p1)] [(.int (1 : Int32)), (.int p1)])) _
    by_cases hc10_3 : p1 = (1 : Int32)
    · refine Goes.via (fun t k => XS.icmpNo X0.here hx rfl (hb hby d1_10) rfl (teq hc10_3).2 k) ?_
      show Goes p e below (s₁.setTop (mkF m 13 #[.val (.int p1)] [])) _
      obtain ⟨T4, X4, e4, st4⟩ := getS2 X0 hx hZ hown (host := "") (Or.inl (hw _ (List.mem_of_getElem? (i := 27) rfl))) Via.refl e0 S_LOOSE_TEXT (g := (mkF m 13 #[.val (.int p1)] [])) rfl (hb hby d1_13)
      refine Goes.via st4 ?_
      show Goes p e below (T4.setTop (mkF m 16 #[.val (.int p1)] [(.ref r_LOOSE_TEXT)])) _
      obtain ⟨fs, hr, hrun, hended, hW, hsame⟩ := X4.leave (v := some (.ref r_LOOSE_TEXT)) (fun h => by rw [Bd.returns] at h; cases h)
      refine ⟨_, _, ?_, hrun, hended, _, _, rfl, ?_, ⟨_, rfl⟩, hW, hsame.mono (by decide) (by decide)⟩
      · exact retOut X4 hx (t := (.object "com/example/sapsucker/sapsucker/service/Role")) Bd.returns rfl (Or.inr (Or.inr (Or.inr (Or.inr ⟨rfl, rfl, rfl⟩)))) (hb hby d1_16) hr
      · show Q1 Z p1 r_TEXT r_LOOSE_TEXT r_QUOTATION r_HEADLINE r_CAPTION r_LINKS r_DATELINE r_LABEL h0 n0 _ T4.heap _
        rw [e4]
        exact ⟨congrArg some (congrArg _ (by simp only [f1, if_neg hc1_1, if_pos hc10_3])), N0, rfl⟩
    · refine Goes.via (fun t k => XS.icmpYes X0.here hx rfl (pc0 := 10) (pc' := 17) rfl (hb hby d1_10) rfl (feq hc10_3).2 (by decide) (by decide) k) ?_
      show Goes p e below (s₁.setTop (mkF m 17 #[.val (.int p1)] [])) _
      refine Goes.via (fun t k => XS.iloadN X0.here hx rfl (hb hby d1_17) rfl k) ?_
      show Goes p e below (s₁.setTop (mkF m 18 #[.val (.int p1)] [(.int p1)])) _
      refine Goes.via (fun t k => XS.iconst X0.here hx rfl (hb hby d1_18) k) ?_
      show Goes p e below (s₁.setTop (mkF m 19 #[.val (.int p1)] [(.int (2 : Int32)), (.int p1)])) _
      by_cases hc19_5 : p1 = (2 : Int32)
      · refine Goes.via (fun t k => XS.icmpNo X0.here hx rfl (hb hby d1_19) rfl (teq hc19_5).2 k) ?_
        show Goes p e below (s₁.setTop (mkF m 22 #[.val (.int p1)] [])) _
        obtain ⟨T6, X6, e6, st6⟩ := getS2 X0 hx hZ hown (host := "") (Or.inl (hw _ (List.mem_of_getElem? (i := 26) rfl))) Via.refl e0 S_QUOTATION (g := (mkF m 22 #[.val (.int p1)] [])) rfl (hb hby d1_22)
        refine Goes.via st6 ?_
        show Goes p e below (T6.setTop (mkF m 25 #[.val (.int p1)] [(.ref r_QUOTATION)])) _
        obtain ⟨fs, hr, hrun, hended, hW, hsame⟩ := X6.leave (v := some (.ref r_QUOTATION)) (fun h => by rw [Bd.returns] at h; cases h)
        refine ⟨_, _, ?_, hrun, hended, _, _, rfl, ?_, ⟨_, rfl⟩, hW, hsame.mono (by decide) (by decide)⟩
        · exact retOut X6 hx (t := (.object "com/example/sapsucker/sapsucker/service/Role")) Bd.returns rfl (Or.inr (Or.inr (Or.inr (Or.inr ⟨rfl, rfl, rfl⟩)))) (hb hby d1_25) hr
        · show Q1 Z p1 r_TEXT r_LOOSE_TEXT r_QUOTATION r_HEADLINE r_CAPTION r_LINKS r_DATELINE r_LABEL h0 n0 _ T6.heap _
          rw [e6]
          exact ⟨congrArg some (congrArg _ (by simp only [f1, if_neg hc1_1, if_neg hc10_3, if_pos hc19_5])), N0, rfl⟩
      · refine Goes.via (fun t k => XS.icmpYes X0.here hx rfl (pc0 := 19) (pc' := 26) rfl (hb hby d1_19) rfl (feq hc19_5).2 (by decide) (by decide) k) ?_
        show Goes p e below (s₁.setTop (mkF m 26 #[.val (.int p1)] [])) _
        refine Goes.via (fun t k => XS.iloadN X0.here hx rfl (hb hby d1_26) rfl k) ?_
        show Goes p e below (s₁.setTop (mkF m 27 #[.val (.int p1)] [(.int p1)])) _
        refine Goes.via (fun t k => XS.iconst X0.here hx rfl (hb hby d1_27) k) ?_
        show Goes p e below (s₁.setTop (mkF m 28 #[.val (.int p1)] [(.int (3 : Int32)), (.int p1)])) _
        by_cases hc28_7 : p1 = (3 : Int32)
        · refine Goes.via (fun t k => XS.icmpNo X0.here hx rfl (hb hby d1_28) rfl (teq hc28_7).2 k) ?_
          show Goes p e below (s₁.setTop (mkF m 31 #[.val (.int p1)] [])) _
          obtain ⟨T8, X8, e8, st8⟩ := getS2 X0 hx hZ hown (host := "") (Or.inl (hw _ (List.mem_of_getElem? (i := 16) rfl))) Via.refl e0 S_HEADLINE (g := (mkF m 31 #[.val (.int p1)] [])) rfl (hb hby d1_31)
          refine Goes.via st8 ?_
          show Goes p e below (T8.setTop (mkF m 34 #[.val (.int p1)] [(.ref r_HEADLINE)])) _
          obtain ⟨fs, hr, hrun, hended, hW, hsame⟩ := X8.leave (v := some (.ref r_HEADLINE)) (fun h => by rw [Bd.returns] at h; cases h)
          refine ⟨_, _, ?_, hrun, hended, _, _, rfl, ?_, ⟨_, rfl⟩, hW, hsame.mono (by decide) (by decide)⟩
          · exact retOut X8 hx (t := (.object "com/example/sapsucker/sapsucker/service/Role")) Bd.returns rfl (Or.inr (Or.inr (Or.inr (Or.inr ⟨rfl, rfl, rfl⟩)))) (hb hby d1_34) hr
          · show Q1 Z p1 r_TEXT r_LOOSE_TEXT r_QUOTATION r_HEADLINE r_CAPTION r_LINKS r_DATELINE r_LABEL h0 n0 _ T8.heap _
            rw [e8]
            exact ⟨congrArg some (congrArg _ (by simp only [f1, if_neg hc1_1, if_neg hc10_3, if_neg hc19_5, if_pos hc28_7])), N0, rfl⟩
        · refine Goes.via (fun t k => XS.icmpYes X0.here hx rfl (pc0 := 28) (pc' := 35) rfl (hb hby d1_28) rfl (feq hc28_7).2 (by decide) (by decide) k) ?_
          show Goes p e below (s₁.setTop (mkF m 35 #[.val (.int p1)] [])) _
          refine Goes.via (fun t k => XS.iloadN X0.here hx rfl (hb hby d1_35) rfl k) ?_
          show Goes p e below (s₁.setTop (mkF m 36 #[.val (.int p1)] [(.int p1)])) _
          refine Goes.via (fun t k => XS.iconst X0.here hx rfl (hb hby d1_36) k) ?_
          show Goes p e below (s₁.setTop (mkF m 37 #[.val (.int p1)] [(.int (4 : Int32)), (.int p1)])) _
          by_cases hc37_9 : p1 = (4 : Int32)
          · refine Goes.via (fun t k => XS.icmpNo X0.here hx rfl (hb hby d1_37) rfl (teq hc37_9).2 k) ?_
            show Goes p e below (s₁.setTop (mkF m 40 #[.val (.int p1)] [])) _
            obtain ⟨T10, X10, e10, st10⟩ := getS2 X0 hx hZ hown (host := "") (Or.inl (hw _ (List.mem_of_getElem? (i := 28) rfl))) Via.refl e0 S_CAPTION (g := (mkF m 40 #[.val (.int p1)] [])) rfl (hb hby d1_40)
            refine Goes.via st10 ?_
            show Goes p e below (T10.setTop (mkF m 43 #[.val (.int p1)] [(.ref r_CAPTION)])) _
            obtain ⟨fs, hr, hrun, hended, hW, hsame⟩ := X10.leave (v := some (.ref r_CAPTION)) (fun h => by rw [Bd.returns] at h; cases h)
            refine ⟨_, _, ?_, hrun, hended, _, _, rfl, ?_, ⟨_, rfl⟩, hW, hsame.mono (by decide) (by decide)⟩
            · exact retOut X10 hx (t := (.object "com/example/sapsucker/sapsucker/service/Role")) Bd.returns rfl (Or.inr (Or.inr (Or.inr (Or.inr ⟨rfl, rfl, rfl⟩)))) (hb hby d1_43) hr
            · show Q1 Z p1 r_TEXT r_LOOSE_TEXT r_QUOTATION r_HEADLINE r_CAPTION r_LINKS r_DATELINE r_LABEL h0 n0 _ T10.heap _
              rw [e10]
              exact ⟨congrArg some (congrArg _ (by simp only [f1, if_neg hc1_1, if_neg hc10_3, if_neg hc19_5, if_neg hc28_7, if_pos hc37_9])), N0, rfl⟩
          · refine Goes.via (fun t k => XS.icmpYes X0.here hx rfl (pc0 := 37) (pc' := 44) rfl (hb hby d1_37) rfl (feq hc37_9).2 (by decide) (by decide) k) ?_
            show Goes p e below (s₁.setTop (mkF m 44 #[.val (.int p1)] [])) _
            refine Goes.via (fun t k => XS.iloadN X0.here hx rfl (hb hby d1_44) rfl k) ?_
            show Goes p e below (s₁.setTop (mkF m 45 #[.val (.int p1)] [(.int p1)])) _
            refine Goes.via (fun t k => XS.iconst X0.here hx rfl (hb hby d1_45) k) ?_
            show Goes p e below (s₁.setTop (mkF m 46 #[.val (.int p1)] [(.int (5 : Int32)), (.int p1)])) _
            by_cases hc46_11 : p1 = (5 : Int32)
            · refine Goes.via (fun t k => XS.icmpNo X0.here hx rfl (hb hby d1_46) rfl (teq hc46_11).2 k) ?_
              show Goes p e below (s₁.setTop (mkF m 49 #[.val (.int p1)] [])) _
              obtain ⟨T12, X12, e12, st12⟩ := getS2 X0 hx hZ hown (host := "") (Or.inl (hw _ (List.mem_of_getElem? (i := 30) rfl))) Via.refl e0 S_LINKS (g := (mkF m 49 #[.val (.int p1)] [])) rfl (hb hby d1_49)
              refine Goes.via st12 ?_
              show Goes p e below (T12.setTop (mkF m 52 #[.val (.int p1)] [(.ref r_LINKS)])) _
              obtain ⟨fs, hr, hrun, hended, hW, hsame⟩ := X12.leave (v := some (.ref r_LINKS)) (fun h => by rw [Bd.returns] at h; cases h)
              refine ⟨_, _, ?_, hrun, hended, _, _, rfl, ?_, ⟨_, rfl⟩, hW, hsame.mono (by decide) (by decide)⟩
              · exact retOut X12 hx (t := (.object "com/example/sapsucker/sapsucker/service/Role")) Bd.returns rfl (Or.inr (Or.inr (Or.inr (Or.inr ⟨rfl, rfl, rfl⟩)))) (hb hby d1_52) hr
              · show Q1 Z p1 r_TEXT r_LOOSE_TEXT r_QUOTATION r_HEADLINE r_CAPTION r_LINKS r_DATELINE r_LABEL h0 n0 _ T12.heap _
                rw [e12]
                exact ⟨congrArg some (congrArg _ (by simp only [f1, if_neg hc1_1, if_neg hc10_3, if_neg hc19_5, if_neg hc28_7, if_neg hc37_9, if_pos hc46_11])), N0, rfl⟩
            · refine Goes.via (fun t k => XS.icmpYes X0.here hx rfl (pc0 := 46) (pc' := 53) rfl (hb hby d1_46) rfl (feq hc46_11).2 (by decide) (by decide) k) ?_
              show Goes p e below (s₁.setTop (mkF m 53 #[.val (.int p1)] [])) _
              refine Goes.via (fun t k => XS.iloadN X0.here hx rfl (hb hby d1_53) rfl k) ?_
              show Goes p e below (s₁.setTop (mkF m 54 #[.val (.int p1)] [(.int p1)])) _
              refine Goes.via (fun t k => XS.bipush X0.here hx rfl (hb hby d1_54) k) ?_
              show Goes p e below (s₁.setTop (mkF m 56 #[.val (.int p1)] [(.int (6 : Int32)), (.int p1)])) _
              by_cases hc56_13 : p1 = (6 : Int32)
              · refine Goes.via (fun t k => XS.icmpNo X0.here hx rfl (hb hby d1_56) rfl (teq hc56_13).2 k) ?_
                show Goes p e below (s₁.setTop (mkF m 59 #[.val (.int p1)] [])) _
                obtain ⟨T14, X14, e14, st14⟩ := getS2 X0 hx hZ hown (host := "") (Or.inl (hw _ (List.mem_of_getElem? (i := 22) rfl))) Via.refl e0 S_DATELINE (g := (mkF m 59 #[.val (.int p1)] [])) rfl (hb hby d1_59)
                refine Goes.via st14 ?_
                show Goes p e below (T14.setTop (mkF m 62 #[.val (.int p1)] [(.ref r_DATELINE)])) _
                obtain ⟨fs, hr, hrun, hended, hW, hsame⟩ := X14.leave (v := some (.ref r_DATELINE)) (fun h => by rw [Bd.returns] at h; cases h)
                refine ⟨_, _, ?_, hrun, hended, _, _, rfl, ?_, ⟨_, rfl⟩, hW, hsame.mono (by decide) (by decide)⟩
                · exact retOut X14 hx (t := (.object "com/example/sapsucker/sapsucker/service/Role")) Bd.returns rfl (Or.inr (Or.inr (Or.inr (Or.inr ⟨rfl, rfl, rfl⟩)))) (hb hby d1_62) hr
                · show Q1 Z p1 r_TEXT r_LOOSE_TEXT r_QUOTATION r_HEADLINE r_CAPTION r_LINKS r_DATELINE r_LABEL h0 n0 _ T14.heap _
                  rw [e14]
                  exact ⟨congrArg some (congrArg _ (by simp only [f1, if_neg hc1_1, if_neg hc10_3, if_neg hc19_5, if_neg hc28_7, if_neg hc37_9, if_neg hc46_11, if_pos hc56_13])), N0, rfl⟩
              · refine Goes.via (fun t k => XS.icmpYes X0.here hx rfl (pc0 := 56) (pc' := 63) rfl (hb hby d1_56) rfl (feq hc56_13).2 (by decide) (by decide) k) ?_
                show Goes p e below (s₁.setTop (mkF m 63 #[.val (.int p1)] [])) _
                obtain ⟨T15, X15, e15, st15⟩ := getS2 X0 hx hZ hown (host := "") (Or.inl (hw _ (List.mem_of_getElem? (i := 24) rfl))) Via.refl e0 S_LABEL (g := (mkF m 63 #[.val (.int p1)] [])) rfl (hb hby d1_63)
                refine Goes.via st15 ?_
                show Goes p e below (T15.setTop (mkF m 66 #[.val (.int p1)] [(.ref r_LABEL)])) _
                obtain ⟨fs, hr, hrun, hended, hW, hsame⟩ := X15.leave (v := some (.ref r_LABEL)) (fun h => by rw [Bd.returns] at h; cases h)
                refine ⟨_, _, ?_, hrun, hended, _, _, rfl, ?_, ⟨_, rfl⟩, hW, hsame.mono (by decide) (by decide)⟩
                · exact retOut X15 hx (t := (.object "com/example/sapsucker/sapsucker/service/Role")) Bd.returns rfl (Or.inr (Or.inr (Or.inr (Or.inr ⟨rfl, rfl, rfl⟩)))) (hb hby d1_66) hr
                · show Q1 Z p1 r_TEXT r_LOOSE_TEXT r_QUOTATION r_HEADLINE r_CAPTION r_LINKS r_DATELINE r_LABEL h0 n0 _ T15.heap _
                  rw [e15]
                  exact ⟨congrArg some (congrArg _ (by simp only [f1, if_neg hc1_1, if_neg hc10_3, if_neg hc19_5, if_neg hc28_7, if_neg hc37_9, if_neg hc46_11, if_neg hc56_13])), N0, rfl⟩
theorem own_pick (P : Addr → Prop) (p1 : Int32) {r_TEXT r_LOOSE_TEXT r_QUOTATION r_HEADLINE r_CAPTION r_LINKS r_DATELINE r_LABEL : Addr} (h_TEXT : P r_TEXT) (h_LOOSE_TEXT : P r_LOOSE_TEXT) (h_QUOTATION : P r_QUOTATION) (h_HEADLINE : P r_HEADLINE) (h_CAPTION : P r_CAPTION) (h_LINKS : P r_LINKS) (h_DATELINE : P r_DATELINE) (h_LABEL : P r_LABEL) : P (f1 p1 r_TEXT r_LOOSE_TEXT r_QUOTATION r_HEADLINE r_CAPTION r_LINKS r_DATELINE r_LABEL) := by
  simp only [f1]
  repeat' split
  all_goals assumption
theorem d2_0 : decode prog_19_method_4_code 0 = .ok (.aload_n 0, 1) := by decide +kernel
theorem d2_1 : decode prog_19_method_4_code 1 = .ok (.getstatic 3, 3) := by decide +kernel
theorem d2_4 : decode prog_19_method_4_code 4 = .ok (.if_acmp .eq 17, 3) := by decide +kernel
theorem d2_7 : decode prog_19_method_4_code 7 = .ok (.aload_n 0, 1) := by decide +kernel
theorem d2_8 : decode prog_19_method_4_code 8 = .ok (.getstatic 7, 3) := by decide +kernel
theorem d2_11 : decode prog_19_method_4_code 11 = .ok (.if_acmp .eq 10, 3) := by decide +kernel
theorem d2_14 : decode prog_19_method_4_code 14 = .ok (.aload_n 0, 1) := by decide +kernel
theorem d2_15 : decode prog_19_method_4_code 15 = .ok (.getstatic 10, 3) := by decide +kernel
theorem d2_18 : decode prog_19_method_4_code 18 = .ok (.if_acmp .ne 7, 3) := by decide +kernel
theorem d2_21 : decode prog_19_method_4_code 21 = .ok (.iconst 1, 1) := by decide +kernel
theorem d2_22 : decode prog_19_method_4_code 22 = .ok (.goto 4, 3) := by decide +kernel
theorem d2_25 : decode prog_19_method_4_code 25 = .ok (.iconst 0, 1) := by decide +kernel
theorem d2_26 : decode prog_19_method_4_code 26 = .ok (.ireturn, 1) := by decide +kernel
theorem pn_2 : plainName "com/example/sapsucker/sapsucker/service/Role" = true := by first | (simp [plainName, overriddenIn]; done) | decide +kernel
theorem ef_2 (m : MethodId) (x0 : Addr) : entryFrame m #[(.ref x0)] 1 = mkF m 0 #[.val (.ref x0)] [] := by first | (simp [entryFrame, mkF, argsToLocals, Value.category]; done) | rfl
def f2 (a1 : Addr) (r_TEXT : Addr) (r_LOOSE_TEXT : Addr) (r_QUOTATION : Addr) : Int32 :=
  if a1 = r_TEXT then (1 : Int32) else
  if a1 = r_LOOSE_TEXT then (1 : Int32) else
  if a1 = r_QUOTATION then (1 : Int32) else
  (0 : Int32)
def Q2 (Z : State) (a1 : Addr) (r_TEXT : Addr) (r_LOOSE_TEXT : Addr) (r_QUOTATION : Addr) (h0 : Heap) (n0 : Nat) (v : Option Value) (h : Heap) (L : List Loc) : Prop := v = some (.int (f2 a1 r_TEXT r_LOOSE_TEXT r_QUOTATION)) ∧ Fr n0 L ∧ h = h0
set_option maxRecDepth 65536 in
set_option maxHeartbeats 40000000 in
theorem rm2 (l : Launch) (Z : State) (a0 : Array Value) (hw : ∀ d ∈ tables_1, d.before a0 Z = true) (ws : List Jvm.Cond) (a1 : Addr) (r_TEXT : Addr) (r_LOOSE_TEXT : Addr) (r_QUOTATION : Addr) (h0 : Heap) (n0 : Nat) (Z0 : n0 ≤ h0.size) (S_TEXT : Sta Z h0 "com/example/sapsucker/sapsucker/service/Role" "TEXT" "Lcom/example/sapsucker/sapsucker/service/Role;" (.ref r_TEXT)) (S_LOOSE_TEXT : Sta Z h0 "com/example/sapsucker/sapsucker/service/Role" "LOOSE_TEXT" "Lcom/example/sapsucker/sapsucker/service/Role;" (.ref r_LOOSE_TEXT)) (S_QUOTATION : Sta Z h0 "com/example/sapsucker/sapsucker/service/Role" "QUOTATION" "Lcom/example/sapsucker/sapsucker/service/Role;" (.ref r_QUOTATION)) :
    MetFree l (⟨"com/example/sapsucker/sapsucker/service/Role", "isBody", "()Z"⟩ : MethodName) (head1 (Jvm.Cond.code (⟨"com/example/sapsucker/sapsucker/service/Role", "isBody", "()Z"⟩ : MethodName) prog_19_method_4_code 1 (some .boolean) :: ws) ({ frames := 0, cells := 0, slots := 0, locals := 0 } : Room)) (fun a U => a = #[(.ref a1)] ∧ Z.Warmed39 U.vm ∧ U.heap = h0) (fun _ _ _ _ _ => True) (fun _ U o U' => ∃ v L, o = .returned v ∧ Q2 Z a1 r_TEXT r_LOOSE_TEXT r_QUOTATION h0 n0 v U'.heap L ∧ FrameEnd U o U' L ({ frames := 0, cells := 0, slots := 0, locals := 0 } : Room).cells ({ frames := 0, cells := 0, slots := 0, locals := 0 } : Room).slots) := by
  refine MetFree.of_bodySF (plainFor_of_name pn_2) hisR ?_
  intro p e s m args below meth c s₁ Bd hml0 hP hK
  obtain ⟨rfl, hZ, hh⟩ := hP
  have hx := Bd.exec
  have hby := Bd.bytes
  have hml : c.maxLocals = 1 := hml0
  have hown : s.vm.findClass "com/example/sapsucker/sapsucker/service/Role" = some m.cls := findClass_of_methodNamed Bd.named
  have hnm := (name_of_methodNamed Bd.named Bd.method).1
  have X0 : Stand p l e ({ frames := 0, cells := 0, slots := 0, locals := 0 } : Room) s m #[(.ref a1)] below meth c s₁ [] 0 0 := Stand.of_body Bd
  have e0 : s₁.heap = h0 := by rw [← hh, Bd.state]; rfl
  have N0 := Fr.nil n0
  refine Goes.via (next := s₁.setTop (mkF m 0 #[.val (.ref a1)] [])) (fun t k => castTop (ef_2 m a1) k) ?_
  refine Goes.via (fun t k => XS.aloadN X0.here hx rfl (hb hby d2_0) rfl rfl k) ?_
  show Goes p e below (s₁.setTop (mkF m 1 #[.val (.ref a1)] [(.ref a1)])) _
  obtain ⟨T1, X1, e1, st1⟩ := getS2 X0 hx hZ hown (host := "") (Or.inl (hw _ (List.mem_of_getElem? (i := 12) rfl))) Via.refl e0 S_TEXT (g := (mkF m 1 #[.val (.ref a1)] [(.ref a1)])) rfl (hb hby d2_1)
  refine Goes.via st1 ?_
  show Goes p e below (T1.setTop (mkF m 4 #[.val (.ref a1)] [(.ref r_TEXT), (.ref a1)])) _
  by_cases hc4_2 : a1 = r_TEXT
  · refine Goes.via (fun t k => Jvm.RoadKit.acmp (g := (mkF m 4 #[.val (.ref a1)] [(.ref r_TEXT), (.ref a1)])) X1 hx rfl rfl rfl (pc0 := 4) (pc' := 21) (same := true) rfl (hb hby d2_4) rfl (decide_eq_true (congrArg Value.ref hc4_2)) (by decide) (by decide) k) ?_
    show Goes p e below (T1.setTop (mkF m 21 #[.val (.ref a1)] [])) _
    refine Goes.via (fun t k => XS.iconst X1.here hx rfl (hb hby d2_21) k) ?_
    show Goes p e below (T1.setTop (mkF m 22 #[.val (.ref a1)] [(.int (1 : Int32))])) _
    refine Goes.via (fun t k => XS.goto X1.here hx rfl (pc0 := 22) (pc' := 26) rfl (hb hby d2_22) (by decide) (by decide) k) ?_
    show Goes p e below (T1.setTop (mkF m 26 #[.val (.ref a1)] [(.int (1 : Int32))])) _
    obtain ⟨fs, hr, hrun, hended, hW, hsame⟩ := X1.leave (v := some (.int (1 : Int32))) (fun h => by rw [Bd.returns] at h; cases h)
    refine ⟨_, _, ?_, hrun, hended, _, _, rfl, ?_, ⟨_, rfl⟩, hW, hsame.mono (by decide) (by decide)⟩
    · exact retN X1 hx (t := .boolean) Bd.returns (by simp) (hb hby d2_26) hr
    · show Q2 Z a1 r_TEXT r_LOOSE_TEXT r_QUOTATION h0 n0 _ T1.heap _
      rw [e1]
      exact ⟨congrArg some (congrArg _ (by simp only [f2, if_pos hc4_2])), N0, rfl⟩
  · refine Goes.via (fun t k => Jvm.RoadKit.acmp (g := (mkF m 4 #[.val (.ref a1)] [(.ref r_TEXT), (.ref a1)])) X1 hx rfl rfl rfl (pc0 := 4) (pc' := 7) (same := false) rfl (hb hby d2_4) rfl (decide_eq_false fun q => hc4_2 (Value.ref.inj q)) (by decide) (by decide) k) ?_
    show Goes p e below (T1.setTop (mkF m 7 #[.val (.ref a1)] [])) _
    refine Goes.via (fun t k => XS.aloadN X1.here hx rfl (hb hby d2_7) rfl rfl k) ?_
    show Goes p e below (T1.setTop (mkF m 8 #[.val (.ref a1)] [(.ref a1)])) _
    obtain ⟨T3, X3, e3, st3⟩ := getS2 X1 hx hZ hown (host := "") (Or.inl (hw _ (List.mem_of_getElem? (i := 18) rfl))) Via.refl e1 S_LOOSE_TEXT (g := (mkF m 8 #[.val (.ref a1)] [(.ref a1)])) rfl (hb hby d2_8)
    refine Goes.via st3 ?_
    show Goes p e below (T3.setTop (mkF m 11 #[.val (.ref a1)] [(.ref r_LOOSE_TEXT), (.ref a1)])) _
    by_cases hc11_4 : a1 = r_LOOSE_TEXT
    · refine Goes.via (fun t k => Jvm.RoadKit.acmp (g := (mkF m 11 #[.val (.ref a1)] [(.ref r_LOOSE_TEXT), (.ref a1)])) X3 hx rfl rfl rfl (pc0 := 11) (pc' := 21) (same := true) rfl (hb hby d2_11) rfl (decide_eq_true (congrArg Value.ref hc11_4)) (by decide) (by decide) k) ?_
      show Goes p e below (T3.setTop (mkF m 21 #[.val (.ref a1)] [])) _
      refine Goes.via (fun t k => XS.iconst X3.here hx rfl (hb hby d2_21) k) ?_
      show Goes p e below (T3.setTop (mkF m 22 #[.val (.ref a1)] [(.int (1 : Int32))])) _
      refine Goes.via (fun t k => XS.goto X3.here hx rfl (pc0 := 22) (pc' := 26) rfl (hb hby d2_22) (by decide) (by decide) k) ?_
      show Goes p e below (T3.setTop (mkF m 26 #[.val (.ref a1)] [(.int (1 : Int32))])) _
      obtain ⟨fs, hr, hrun, hended, hW, hsame⟩ := X3.leave (v := some (.int (1 : Int32))) (fun h => by rw [Bd.returns] at h; cases h)
      refine ⟨_, _, ?_, hrun, hended, _, _, rfl, ?_, ⟨_, rfl⟩, hW, hsame.mono (by decide) (by decide)⟩
      · exact retN X3 hx (t := .boolean) Bd.returns (by simp) (hb hby d2_26) hr
      · show Q2 Z a1 r_TEXT r_LOOSE_TEXT r_QUOTATION h0 n0 _ T3.heap _
        rw [e3]
        exact ⟨congrArg some (congrArg _ (by simp only [f2, if_neg hc4_2, if_pos hc11_4])), N0, rfl⟩
    · refine Goes.via (fun t k => Jvm.RoadKit.acmp (g := (mkF m 11 #[.val (.ref a1)] [(.ref r_LOOSE_TEXT), (.ref a1)])) X3 hx rfl rfl rfl (pc0 := 11) (pc' := 14) (same := false) rfl (hb hby d2_11) rfl (decide_eq_false fun q => hc11_4 (Value.ref.inj q)) (by decide) (by decide) k) ?_
      show Goes p e below (T3.setTop (mkF m 14 #[.val (.ref a1)] [])) _
      refine Goes.via (fun t k => XS.aloadN X3.here hx rfl (hb hby d2_14) rfl rfl k) ?_
      show Goes p e below (T3.setTop (mkF m 15 #[.val (.ref a1)] [(.ref a1)])) _
      obtain ⟨T5, X5, e5, st5⟩ := getS2 X3 hx hZ hown (host := "") (Or.inl (hw _ (List.mem_of_getElem? (i := 20) rfl))) Via.refl e3 S_QUOTATION (g := (mkF m 15 #[.val (.ref a1)] [(.ref a1)])) rfl (hb hby d2_15)
      refine Goes.via st5 ?_
      show Goes p e below (T5.setTop (mkF m 18 #[.val (.ref a1)] [(.ref r_QUOTATION), (.ref a1)])) _
      by_cases hc18_6 : a1 = r_QUOTATION
      · refine Goes.via (fun t k => Jvm.RoadKit.acmp (g := (mkF m 18 #[.val (.ref a1)] [(.ref r_QUOTATION), (.ref a1)])) X5 hx rfl rfl rfl (pc0 := 18) (pc' := 21) (same := true) rfl (hb hby d2_18) rfl (decide_eq_true (congrArg Value.ref hc18_6)) (by decide) (by decide) k) ?_
        show Goes p e below (T5.setTop (mkF m 21 #[.val (.ref a1)] [])) _
        refine Goes.via (fun t k => XS.iconst X5.here hx rfl (hb hby d2_21) k) ?_
        show Goes p e below (T5.setTop (mkF m 22 #[.val (.ref a1)] [(.int (1 : Int32))])) _
        refine Goes.via (fun t k => XS.goto X5.here hx rfl (pc0 := 22) (pc' := 26) rfl (hb hby d2_22) (by decide) (by decide) k) ?_
        show Goes p e below (T5.setTop (mkF m 26 #[.val (.ref a1)] [(.int (1 : Int32))])) _
        obtain ⟨fs, hr, hrun, hended, hW, hsame⟩ := X5.leave (v := some (.int (1 : Int32))) (fun h => by rw [Bd.returns] at h; cases h)
        refine ⟨_, _, ?_, hrun, hended, _, _, rfl, ?_, ⟨_, rfl⟩, hW, hsame.mono (by decide) (by decide)⟩
        · exact retN X5 hx (t := .boolean) Bd.returns (by simp) (hb hby d2_26) hr
        · show Q2 Z a1 r_TEXT r_LOOSE_TEXT r_QUOTATION h0 n0 _ T5.heap _
          rw [e5]
          exact ⟨congrArg some (congrArg _ (by simp only [f2, if_neg hc4_2, if_neg hc11_4, if_pos hc18_6])), N0, rfl⟩
      · refine Goes.via (fun t k => Jvm.RoadKit.acmp (g := (mkF m 18 #[.val (.ref a1)] [(.ref r_QUOTATION), (.ref a1)])) X5 hx rfl rfl rfl (pc0 := 18) (pc' := 25) (same := false) rfl (hb hby d2_18) rfl (decide_eq_false fun q => hc18_6 (Value.ref.inj q)) (by decide) (by decide) k) ?_
        show Goes p e below (T5.setTop (mkF m 25 #[.val (.ref a1)] [])) _
        refine Goes.via (fun t k => XS.iconst X5.here hx rfl (hb hby d2_25) k) ?_
        show Goes p e below (T5.setTop (mkF m 26 #[.val (.ref a1)] [(.int (0 : Int32))])) _
        obtain ⟨fs, hr, hrun, hended, hW, hsame⟩ := X5.leave (v := some (.int (0 : Int32))) (fun h => by rw [Bd.returns] at h; cases h)
        refine ⟨_, _, ?_, hrun, hended, _, _, rfl, ?_, ⟨_, rfl⟩, hW, hsame.mono (by decide) (by decide)⟩
        · exact retN X5 hx (t := .boolean) Bd.returns (by simp) (hb hby d2_26) hr
        · show Q2 Z a1 r_TEXT r_LOOSE_TEXT r_QUOTATION h0 n0 _ T5.heap _
          rw [e5]
          exact ⟨congrArg some (congrArg _ (by simp only [f2, if_neg hc4_2, if_neg hc11_4, if_neg hc18_6])), N0, rfl⟩
theorem d3_0 : decode method_3_code 0 = .ok (.iload_n 0, 1) := by decide +kernel
theorem d3_1 : decode method_3_code 1 = .ok (.ifCond .ne 5, 3) := by decide +kernel
theorem d3_4 : decode method_3_code 4 = .ok (.iconst 1, 1) := by decide +kernel
theorem d3_5 : decode method_3_code 5 = .ok (.ireturn, 1) := by decide +kernel
theorem d3_6 : decode method_3_code 6 = .ok (.iload_n 0, 1) := by decide +kernel
theorem d3_7 : decode method_3_code 7 = .ok (.iconst 1, 1) := by decide +kernel
theorem d3_8 : decode method_3_code 8 = .ok (.if_icmp .ne 5, 3) := by decide +kernel
theorem d3_11 : decode method_3_code 11 = .ok (.iconst 1, 1) := by decide +kernel
theorem d3_12 : decode method_3_code 12 = .ok (.ireturn, 1) := by decide +kernel
theorem d3_13 : decode method_3_code 13 = .ok (.iload_n 0, 1) := by decide +kernel
theorem d3_14 : decode method_3_code 14 = .ok (.iconst 2, 1) := by decide +kernel
theorem d3_15 : decode method_3_code 15 = .ok (.if_icmp .ne 5, 3) := by decide +kernel
theorem d3_18 : decode method_3_code 18 = .ok (.iconst 1, 1) := by decide +kernel
theorem d3_19 : decode method_3_code 19 = .ok (.ireturn, 1) := by decide +kernel
theorem d3_20 : decode method_3_code 20 = .ok (.iconst 0, 1) := by decide +kernel
theorem d3_21 : decode method_3_code 21 = .ok (.ireturn, 1) := by decide +kernel
theorem pn_3 : plainName "com/example/sapsucker/sapsucker/service/RoleIsBodyPinLaw" = true := by first | (simp [plainName, overriddenIn]; done) | decide +kernel
theorem ef_3 (m : MethodId) (x0 : Int32) : entryFrame m #[(.int x0)] 1 = mkF m 0 #[.val (.int x0)] [] := by first | (simp [entryFrame, mkF, argsToLocals, Value.category]; done) | rfl
def f3 (p1 : Int32) : Int32 :=
  if p1 = (0 : Int32) then (1 : Int32) else
  if p1 = (1 : Int32) then (1 : Int32) else
  if p1 = (2 : Int32) then (1 : Int32) else
  (0 : Int32)
def Q3 (Z : State) (p1 : Int32) (h0 : Heap) (n0 : Nat) (v : Option Value) (h : Heap) (L : List Loc) : Prop := v = some (.int (f3 p1)) ∧ Fr n0 L ∧ h = h0
set_option maxRecDepth 65536 in
set_option maxHeartbeats 40000000 in
theorem rm3 (l : Launch) (Z : State) (a0 : Array Value) (hw : ∀ d ∈ tables_1, d.before a0 Z = true) (ws : List Jvm.Cond) (p1 : Int32) (h0 : Heap) (n0 : Nat) (Z0 : n0 ≤ h0.size) :
    MetFree l (⟨"com/example/sapsucker/sapsucker/service/RoleIsBodyPinLaw", "documentedBody", "(I)Z"⟩ : MethodName) (head1 (Jvm.Cond.code (⟨"com/example/sapsucker/sapsucker/service/RoleIsBodyPinLaw", "documentedBody", "(I)Z"⟩ : MethodName) method_3_code 1 (some .boolean) :: ws) ({ frames := 0, cells := 0, slots := 0, locals := 0 } : Room)) (fun a U => a = #[(.int p1)] ∧ Z.Warmed39 U.vm ∧ U.heap = h0) (fun _ _ _ _ _ => True) (fun _ U o U' => ∃ v L, o = .returned v ∧ Q3 Z p1 h0 n0 v U'.heap L ∧ FrameEnd U o U' L ({ frames := 0, cells := 0, slots := 0, locals := 0 } : Room).cells ({ frames := 0, cells := 0, slots := 0, locals := 0 } : Room).slots) := by
  refine MetFree.of_bodySF (plainFor_of_name pn_3) hisR ?_
  intro p e s m args below meth c s₁ Bd hml0 hP hK
  obtain ⟨rfl, hZ, hh⟩ := hP
  have hx := Bd.exec
  have hby := Bd.bytes
  have hml : c.maxLocals = 1 := hml0
  have hown : s.vm.findClass "com/example/sapsucker/sapsucker/service/RoleIsBodyPinLaw" = some m.cls := findClass_of_methodNamed Bd.named
  have hnm := (name_of_methodNamed Bd.named Bd.method).1
  have X0 : Stand p l e ({ frames := 0, cells := 0, slots := 0, locals := 0 } : Room) s m #[(.int p1)] below meth c s₁ [] 0 0 := Stand.of_body Bd
  have e0 : s₁.heap = h0 := by rw [← hh, Bd.state]; rfl
  have N0 := Fr.nil n0
  refine Goes.via (next := s₁.setTop (mkF m 0 #[.val (.int p1)] [])) (fun t k => castTop (ef_3 m p1) k) ?_
  refine Goes.via (fun t k => XS.iloadN X0.here hx rfl (hb hby d3_0) rfl k) ?_
  show Goes p e below (s₁.setTop (mkF m 1 #[.val (.int p1)] [(.int p1)])) _
  by_cases hc1_1 : p1 = (0 : Int32)
  · refine Goes.via (fun t k => XS.ifNo X0.here hx rfl (hb hby d3_1) rfl ((if0 _ _).trans (teq hc1_1).2) k) ?_
    show Goes p e below (s₁.setTop (mkF m 4 #[.val (.int p1)] [])) _
    refine Goes.via (fun t k => XS.iconst X0.here hx rfl (hb hby d3_4) k) ?_
    show Goes p e below (s₁.setTop (mkF m 5 #[.val (.int p1)] [(.int (1 : Int32))])) _
    obtain ⟨fs, hr, hrun, hended, hW, hsame⟩ := X0.leave (v := some (.int (1 : Int32))) (fun h => by rw [Bd.returns] at h; cases h)
    refine ⟨_, _, ?_, hrun, hended, _, _, rfl, ?_, ⟨_, rfl⟩, hW, hsame.mono (by decide) (by decide)⟩
    · exact retN X0 hx (t := .boolean) Bd.returns (by simp) (hb hby d3_5) hr
    · show Q3 Z p1 h0 n0 _ s₁.heap _
      rw [e0]
      exact ⟨congrArg some (congrArg _ (by simp only [f3, if_pos hc1_1])), N0, rfl⟩
  · refine Goes.via (fun t k => XS.ifYes X0.here hx rfl (pc0 := 1) (pc' := 6) rfl (hb hby d3_1) rfl ((if0 _ _).trans (feq hc1_1).2) (by decide) (by decide) k) ?_
    show Goes p e below (s₁.setTop (mkF m 6 #[.val (.int p1)] [])) _
    refine Goes.via (fun t k => XS.iloadN X0.here hx rfl (hb hby d3_6) rfl k) ?_
    show Goes p e below (s₁.setTop (mkF m 7 #[.val (.int p1)] [(.int p1)])) _
    refine Goes.via (fun t k => XS.iconst X0.here hx rfl (hb hby d3_7) k) ?_
    show Goes p e below (s₁.setTop (mkF m 8 #[.val (.int p1)] [(.int (1 : Int32)), (.int p1)])) _
    by_cases hc8_2 : p1 = (1 : Int32)
    · refine Goes.via (fun t k => XS.icmpNo X0.here hx rfl (hb hby d3_8) rfl (teq hc8_2).2 k) ?_
      show Goes p e below (s₁.setTop (mkF m 11 #[.val (.int p1)] [])) _
      refine Goes.via (fun t k => XS.iconst X0.here hx rfl (hb hby d3_11) k) ?_
      show Goes p e below (s₁.setTop (mkF m 12 #[.val (.int p1)] [(.int (1 : Int32))])) _
      obtain ⟨fs, hr, hrun, hended, hW, hsame⟩ := X0.leave (v := some (.int (1 : Int32))) (fun h => by rw [Bd.returns] at h; cases h)
      refine ⟨_, _, ?_, hrun, hended, _, _, rfl, ?_, ⟨_, rfl⟩, hW, hsame.mono (by decide) (by decide)⟩
      · exact retN X0 hx (t := .boolean) Bd.returns (by simp) (hb hby d3_12) hr
      · show Q3 Z p1 h0 n0 _ s₁.heap _
        rw [e0]
        exact ⟨congrArg some (congrArg _ (by simp only [f3, if_neg hc1_1, if_pos hc8_2])), N0, rfl⟩
    · refine Goes.via (fun t k => XS.icmpYes X0.here hx rfl (pc0 := 8) (pc' := 13) rfl (hb hby d3_8) rfl (feq hc8_2).2 (by decide) (by decide) k) ?_
      show Goes p e below (s₁.setTop (mkF m 13 #[.val (.int p1)] [])) _
      refine Goes.via (fun t k => XS.iloadN X0.here hx rfl (hb hby d3_13) rfl k) ?_
      show Goes p e below (s₁.setTop (mkF m 14 #[.val (.int p1)] [(.int p1)])) _
      refine Goes.via (fun t k => XS.iconst X0.here hx rfl (hb hby d3_14) k) ?_
      show Goes p e below (s₁.setTop (mkF m 15 #[.val (.int p1)] [(.int (2 : Int32)), (.int p1)])) _
      by_cases hc15_3 : p1 = (2 : Int32)
      · refine Goes.via (fun t k => XS.icmpNo X0.here hx rfl (hb hby d3_15) rfl (teq hc15_3).2 k) ?_
        show Goes p e below (s₁.setTop (mkF m 18 #[.val (.int p1)] [])) _
        refine Goes.via (fun t k => XS.iconst X0.here hx rfl (hb hby d3_18) k) ?_
        show Goes p e below (s₁.setTop (mkF m 19 #[.val (.int p1)] [(.int (1 : Int32))])) _
        obtain ⟨fs, hr, hrun, hended, hW, hsame⟩ := X0.leave (v := some (.int (1 : Int32))) (fun h => by rw [Bd.returns] at h; cases h)
        refine ⟨_, _, ?_, hrun, hended, _, _, rfl, ?_, ⟨_, rfl⟩, hW, hsame.mono (by decide) (by decide)⟩
        · exact retN X0 hx (t := .boolean) Bd.returns (by simp) (hb hby d3_19) hr
        · show Q3 Z p1 h0 n0 _ s₁.heap _
          rw [e0]
          exact ⟨congrArg some (congrArg _ (by simp only [f3, if_neg hc1_1, if_neg hc8_2, if_pos hc15_3])), N0, rfl⟩
      · refine Goes.via (fun t k => XS.icmpYes X0.here hx rfl (pc0 := 15) (pc' := 20) rfl (hb hby d3_15) rfl (feq hc15_3).2 (by decide) (by decide) k) ?_
        show Goes p e below (s₁.setTop (mkF m 20 #[.val (.int p1)] [])) _
        refine Goes.via (fun t k => XS.iconst X0.here hx rfl (hb hby d3_20) k) ?_
        show Goes p e below (s₁.setTop (mkF m 21 #[.val (.int p1)] [(.int (0 : Int32))])) _
        obtain ⟨fs, hr, hrun, hended, hW, hsame⟩ := X0.leave (v := some (.int (0 : Int32))) (fun h => by rw [Bd.returns] at h; cases h)
        refine ⟨_, _, ?_, hrun, hended, _, _, rfl, ?_, ⟨_, rfl⟩, hW, hsame.mono (by decide) (by decide)⟩
        · exact retN X0 hx (t := .boolean) Bd.returns (by simp) (hb hby d3_21) hr
        · show Q3 Z p1 h0 n0 _ s₁.heap _
          rw [e0]
          exact ⟨congrArg some (congrArg _ (by simp only [f3, if_neg hc1_1, if_neg hc8_2, if_neg hc15_3])), N0, rfl⟩
theorem pn_0 : plainName "com/example/sapsucker/sapsucker/service/RoleIsBodyPinLaw" = true := by first | (simp [plainName, overriddenIn]; done) | decide +kernel
theorem pd_0_0 : parseMethodDescriptor "(I)Lcom/example/sapsucker/sapsucker/service/Role;" = some ⟨[.int], some (.object "com/example/sapsucker/sapsucker/service/Role")⟩ := by decide +kernel
theorem pd_0_1 : parseMethodDescriptor "()Z" = some ⟨[], some .boolean⟩ := by decide +kernel
theorem pd_0_2 : parseMethodDescriptor "(I)Z" = some ⟨[.int], some .boolean⟩ := by decide +kernel
theorem ef_0 (m : MethodId) (x0 : Int32) : entryFrame m #[(.int x0)] maxLocals = mkF m 0 #[.val (.int x0), .unset, .unset] [] := by first | (simp [entryFrame, mkF, argsToLocals, Value.category, maxLocals]; done) | rfl
def v0_26_0 (p1 : Int32) (r_TEXT : Addr) (r_LOOSE_TEXT : Addr) (r_QUOTATION : Addr) (r_HEADLINE : Addr) (r_CAPTION : Addr) (r_LINKS : Addr) (r_DATELINE : Addr) (r_LABEL : Addr) : Int32 := (if (f2 (f1 (p1 &&& (7 : Int32)) r_TEXT r_LOOSE_TEXT r_QUOTATION r_HEADLINE r_CAPTION r_LINKS r_DATELINE r_LABEL) r_TEXT r_LOOSE_TEXT r_QUOTATION) = (f3 (p1 &&& (7 : Int32))) then (1 : Int32) else (0 : Int32))
def f0 (p1 : Int32) (r_TEXT : Addr) (r_LOOSE_TEXT : Addr) (r_QUOTATION : Addr) (r_HEADLINE : Addr) (r_CAPTION : Addr) (r_LINKS : Addr) (r_DATELINE : Addr) (r_LABEL : Addr) : Int32 :=
  (nar .boolean (v0_26_0 p1 r_TEXT r_LOOSE_TEXT r_QUOTATION r_HEADLINE r_CAPTION r_LINKS r_DATELINE r_LABEL))
def Q0 (Z : State) (p1 : Int32) (r_TEXT : Addr) (r_LOOSE_TEXT : Addr) (r_QUOTATION : Addr) (r_HEADLINE : Addr) (r_CAPTION : Addr) (r_LINKS : Addr) (r_DATELINE : Addr) (r_LABEL : Addr) (h0 : Heap) (n0 : Nat) (v : Option Value) (h : Heap) (L : List Loc) : Prop := v = some (.int (f0 p1 r_TEXT r_LOOSE_TEXT r_QUOTATION r_HEADLINE r_CAPTION r_LINKS r_DATELINE r_LABEL)) ∧ Fr n0 L ∧ h = h0
set_option maxRecDepth 65536 in
set_option maxHeartbeats 40000000 in
theorem rm0 (l : Launch) (Z : State) (a0 : Array Value) (hw : ∀ d ∈ tables_1, d.before a0 Z = true) (ws : List Jvm.Cond) (p1 : Int32) (r_TEXT : Addr) (r_LOOSE_TEXT : Addr) (r_QUOTATION : Addr) (r_HEADLINE : Addr) (r_CAPTION : Addr) (r_LINKS : Addr) (r_DATELINE : Addr) (r_LABEL : Addr) (h0 : Heap) (n0 : Nat) (Z0 : n0 ≤ h0.size) (S_TEXT : Sta Z h0 "com/example/sapsucker/sapsucker/service/Role" "TEXT" "Lcom/example/sapsucker/sapsucker/service/Role;" (.ref r_TEXT)) (S_LOOSE_TEXT : Sta Z h0 "com/example/sapsucker/sapsucker/service/Role" "LOOSE_TEXT" "Lcom/example/sapsucker/sapsucker/service/Role;" (.ref r_LOOSE_TEXT)) (S_QUOTATION : Sta Z h0 "com/example/sapsucker/sapsucker/service/Role" "QUOTATION" "Lcom/example/sapsucker/sapsucker/service/Role;" (.ref r_QUOTATION)) (S_HEADLINE : Sta Z h0 "com/example/sapsucker/sapsucker/service/Role" "HEADLINE" "Lcom/example/sapsucker/sapsucker/service/Role;" (.ref r_HEADLINE)) (S_CAPTION : Sta Z h0 "com/example/sapsucker/sapsucker/service/Role" "CAPTION" "Lcom/example/sapsucker/sapsucker/service/Role;" (.ref r_CAPTION)) (S_LINKS : Sta Z h0 "com/example/sapsucker/sapsucker/service/Role" "LINKS" "Lcom/example/sapsucker/sapsucker/service/Role;" (.ref r_LINKS)) (S_DATELINE : Sta Z h0 "com/example/sapsucker/sapsucker/service/Role" "DATELINE" "Lcom/example/sapsucker/sapsucker/service/Role;" (.ref r_DATELINE)) (S_LABEL : Sta Z h0 "com/example/sapsucker/sapsucker/service/Role" "LABEL" "Lcom/example/sapsucker/sapsucker/service/Role;" (.ref r_LABEL)) (E_TEXT : Exa Z h0 r_TEXT "com/example/sapsucker/sapsucker/service/Role") (E_LOOSE_TEXT : Exa Z h0 r_LOOSE_TEXT "com/example/sapsucker/sapsucker/service/Role") (E_QUOTATION : Exa Z h0 r_QUOTATION "com/example/sapsucker/sapsucker/service/Role") (E_HEADLINE : Exa Z h0 r_HEADLINE "com/example/sapsucker/sapsucker/service/Role") (E_CAPTION : Exa Z h0 r_CAPTION "com/example/sapsucker/sapsucker/service/Role") (E_LINKS : Exa Z h0 r_LINKS "com/example/sapsucker/sapsucker/service/Role") (E_DATELINE : Exa Z h0 r_DATELINE "com/example/sapsucker/sapsucker/service/Role") (E_LABEL : Exa Z h0 r_LABEL "com/example/sapsucker/sapsucker/service/Role") :
    MetFree l x (head1 (Jvm.Cond.code x code maxLocals ret :: ws) room_1) (fun a U => a = #[(.int p1)] ∧ Z.Warmed39 U.vm ∧ U.heap = h0) (fun _ _ _ _ _ => True) (fun _ U o U' => ∃ v L, o = .returned v ∧ Q0 Z p1 r_TEXT r_LOOSE_TEXT r_QUOTATION r_HEADLINE r_CAPTION r_LINKS r_DATELINE r_LABEL h0 n0 v U'.heap L ∧ FrameEnd U o U' L room_1.cells room_1.slots) := by
  refine MetFree.of_bodySF (plainFor_of_name pn_0) hisR ?_
  intro p e s m args below meth c s₁ Bd hml0 hP hK
  obtain ⟨rfl, hZ, hh⟩ := hP
  have hx := Bd.exec
  have hby := Bd.bytes
  have hml : c.maxLocals = 3 := hml0
  have hown : s.vm.findClass "com/example/sapsucker/sapsucker/service/RoleIsBodyPinLaw" = some m.cls := findClass_of_methodNamed Bd.named
  have hnm := (name_of_methodNamed Bd.named Bd.method).1
  have X0 : Stand p l e room_1 s m #[(.int p1)] below meth c s₁ [] 0 0 := Stand.of_body Bd
  have e0 : s₁.heap = h0 := by rw [← hh, Bd.state]; rfl
  have N0 := Fr.nil n0
  refine Goes.via (next := s₁.setTop (mkF m 0 #[.val (.int p1), .unset, .unset] [])) (fun t k => castTop (ef_0 m p1) k) ?_
  refine Goes.via (fun t k => XS.iloadN X0.here hx rfl (hb hby at_0) rfl k) ?_
  show Goes p e below (s₁.setTop (mkF m 1 #[.val (.int p1), .unset, .unset] [(.int p1)])) _
  refine Goes.via (fun t k => XS.bipush X0.here hx rfl (hb hby at_1) k) ?_
  show Goes p e below (s₁.setTop (mkF m 3 #[.val (.int p1), .unset, .unset] [(.int (7 : Int32)), (.int p1)])) _
  refine Goes.via (fun t k => XS.iand X0.here hx rfl (hb hby at_3) rfl k) ?_
  show Goes p e below (s₁.setTop (mkF m 4 #[.val (.int p1), .unset, .unset] [(.int (p1 &&& (7 : Int32)))])) _
  refine Goes.via (fun t k => XS.istoreN X0.here hx rfl (hb hby at_4) rfl (l' := #[.val (.int p1), .val (.int (p1 &&& (7 : Int32))), .unset]) rfl k) ?_
  show Goes p e below (s₁.setTop (mkF m 5 #[.val (.int p1), .val (.int (p1 &&& (7 : Int32))), .unset] [])) _
  refine Goes.via (fun t k => XS.iloadN X0.here hx rfl (hb hby at_5) rfl k) ?_
  show Goes p e below (s₁.setTop (mkF m 6 #[.val (.int p1), .val (.int (p1 &&& (7 : Int32))), .unset] [(.int (p1 &&& (7 : Int32)))])) _
  obtain ⟨_, _, ⟨T1, L1, k1, n1⟩, -, X1, ⟨Lc1, hQ1, l1, y1, z1⟩, st1⟩ := Jvm.LawKit.callS X0 hx (y := (⟨"com/example/sapsucker/sapsucker/service/RoleIsBodyPinLaw", "pick", "(I)Lcom/example/sapsucker/sapsucker/service/Role;"⟩ : MethodName)) hown (mvT hZ (hw _ (List.mem_of_getElem? (i := 0) rfl))) (mvT hZ (hw _ (List.mem_of_getElem? (i := 1) rfl))) (mvT hZ (hw _ (List.mem_of_getElem? (i := 2) rfl))) (mvT hZ (hw _ (List.mem_of_getElem? (i := 3) rfl))) (by decide) (backOf (W := 0) (rm1 l Z a0 hw [] (p1 &&& (7 : Int32)) r_TEXT r_LOOSE_TEXT r_QUOTATION r_HEADLINE r_CAPTION r_LINKS r_DATELINE r_LABEL h0 n0 Z0 S_TEXT S_LOOSE_TEXT S_QUOTATION S_HEADLINE S_CAPTION S_LINKS S_DATELINE S_LABEL) hZ (hw _ (List.mem_of_getElem? (i := 3) rfl)) (hw _ (List.mem_of_getElem? (i := 2) rfl)) (by decide) (by decide)) (g := (mkF m 6 #[.val (.int p1), .val (.int (p1 &&& (7 : Int32))), .unset] [(.int (p1 &&& (7 : Int32)))])) rfl (by rw [hml]; rfl) (argsL := [(.int (p1 &&& (7 : Int32)))]) (rest := []) (lenOf pd_0_0 rfl) rfl (by show 2 * 0 + _ ≤ _; exact Nat.le_of_eq rfl) (hb hby at_6) (fun _ _ => ⟨rfl, e0, (by decide : 0 + 0 ≤ _), (by decide : 0 + 0 ≤ _)⟩)
  dsimp only [Pt.U, Pt.locs, Pt.cells, Pt.slots] at X1 l1 y1 z1 st1 hQ1
  subst l1 y1 z1
  obtain ⟨rfl, N1q, er1⟩ := hQ1
  have e1 : T1.heap = h0 := er1
  have N1 := Fr.app N0 N1q
  have Ep1 : Exa Z h0 (f1 (p1 &&& (7 : Int32)) r_TEXT r_LOOSE_TEXT r_QUOTATION r_HEADLINE r_CAPTION r_LINKS r_DATELINE r_LABEL) "com/example/sapsucker/sapsucker/service/Role" := own_pick (fun z => Exa Z h0 z "com/example/sapsucker/sapsucker/service/Role") _ E_TEXT E_LOOSE_TEXT E_QUOTATION E_HEADLINE E_CAPTION E_LINKS E_DATELINE E_LABEL
  refine Goes.via st1 ?_
  show Goes p e below (T1.setTop (mkF m 9 #[.val (.int p1), .val (.int (p1 &&& (7 : Int32))), .unset] [(.ref (f1 (p1 &&& (7 : Int32)) r_TEXT r_LOOSE_TEXT r_QUOTATION r_HEADLINE r_CAPTION r_LINKS r_DATELINE r_LABEL))])) _
  refine Goes.via (fun t k => XS.astoreN X1.here hx rfl (hb hby at_9) rfl rfl (l' := #[.val (.int p1), .val (.int (p1 &&& (7 : Int32))), .val (.ref (f1 (p1 &&& (7 : Int32)) r_TEXT r_LOOSE_TEXT r_QUOTATION r_HEADLINE r_CAPTION r_LINKS r_DATELINE r_LABEL))]) rfl k) ?_
  show Goes p e below (T1.setTop (mkF m 10 #[.val (.int p1), .val (.int (p1 &&& (7 : Int32))), .val (.ref (f1 (p1 &&& (7 : Int32)) r_TEXT r_LOOSE_TEXT r_QUOTATION r_HEADLINE r_CAPTION r_LINKS r_DATELINE r_LABEL))] [])) _
  refine Goes.via (fun t k => XS.aloadN X1.here hx rfl (hb hby at_10) rfl rfl k) ?_
  show Goes p e below (T1.setTop (mkF m 11 #[.val (.int p1), .val (.int (p1 &&& (7 : Int32))), .val (.ref (f1 (p1 &&& (7 : Int32)) r_TEXT r_LOOSE_TEXT r_QUOTATION r_HEADLINE r_CAPTION r_LINKS r_DATELINE r_LABEL))] [(.ref (f1 (p1 &&& (7 : Int32)) r_TEXT r_LOOSE_TEXT r_QUOTATION r_HEADLINE r_CAPTION r_LINKS r_DATELINE r_LABEL))])) _
  obtain ⟨cq2, kq2, q2a, q2b, q2c⟩ := isOf hZ e1 Ep1
  obtain ⟨_, _, ⟨T2, L2, k2, n2⟩, -, X2, ⟨Lc2, hQ2, l2, y2, z2⟩, st2⟩ := X1.virtualBack hx (y := (⟨"com/example/sapsucker/sapsucker/service/Role", "isBody", "()Z"⟩ : MethodName)) (z := (⟨"com/example/sapsucker/sapsucker/service/Role", "isBody", "()Z"⟩ : MethodName)) hown (mvT hZ (hw _ (List.mem_of_getElem? (i := 7) rfl))) (mvT hZ (hw _ (List.mem_of_getElem? (i := 8) rfl))) (notFace_of_selects (args := #[]) (mvT hZ (hw _ (List.mem_of_getElem? (i := 10) rfl)))) (mvT hZ (hw _ (List.mem_of_getElem? (i := 10) rfl))) (mvT hZ (hw _ (List.mem_of_getElem? (i := 9) rfl))) (by decide) (backOf (W := 0) (rm2 l Z a0 hw [] (f1 (p1 &&& (7 : Int32)) r_TEXT r_LOOSE_TEXT r_QUOTATION r_HEADLINE r_CAPTION r_LINKS r_DATELINE r_LABEL) r_TEXT r_LOOSE_TEXT r_QUOTATION h0 n0 Z0 S_TEXT S_LOOSE_TEXT S_QUOTATION) hZ (hw _ (List.mem_of_getElem? (i := 11) rfl)) (hw _ (List.mem_of_getElem? (i := 5) rfl)) (by decide) (by decide)) q2a q2c (g := (mkF m 11 #[.val (.int p1), .val (.int (p1 &&& (7 : Int32))), .val (.ref (f1 (p1 &&& (7 : Int32)) r_TEXT r_LOOSE_TEXT r_QUOTATION r_HEADLINE r_CAPTION r_LINKS r_DATELINE r_LABEL))] [(.ref (f1 (p1 &&& (7 : Int32)) r_TEXT r_LOOSE_TEXT r_QUOTATION r_HEADLINE r_CAPTION r_LINKS r_DATELINE r_LABEL))])) rfl (by rw [hml]; rfl) (Steps.refl _) (argsL := []) (rest := []) (lenOf pd_0_1 rfl) rfl (by show 2 * 0 + _ ≤ _; exact Nat.le_of_eq rfl) (hb hby at_11) (fun _ _ => ⟨rfl, e1, (by decide : 0 + 0 ≤ _), (by decide : 0 + 0 ≤ _)⟩)
  dsimp only [Pt.U, Pt.locs, Pt.cells, Pt.slots] at X2 l2 y2 z2 st2 hQ2
  subst l2 y2 z2
  obtain ⟨rfl, N2q, er2⟩ := hQ2
  have e2 : T2.heap = h0 := er2
  have N2 := Fr.app N1 N2q
  refine Goes.via (fun t k => st2.trans k) ?_
  show Goes p e below (T2.setTop (mkF m 14 #[.val (.int p1), .val (.int (p1 &&& (7 : Int32))), .val (.ref (f1 (p1 &&& (7 : Int32)) r_TEXT r_LOOSE_TEXT r_QUOTATION r_HEADLINE r_CAPTION r_LINKS r_DATELINE r_LABEL))] [(.int (f2 (f1 (p1 &&& (7 : Int32)) r_TEXT r_LOOSE_TEXT r_QUOTATION r_HEADLINE r_CAPTION r_LINKS r_DATELINE r_LABEL) r_TEXT r_LOOSE_TEXT r_QUOTATION))])) _
  refine Goes.via (fun t k => XS.iloadN X2.here hx rfl (hb hby at_14) rfl k) ?_
  show Goes p e below (T2.setTop (mkF m 15 #[.val (.int p1), .val (.int (p1 &&& (7 : Int32))), .val (.ref (f1 (p1 &&& (7 : Int32)) r_TEXT r_LOOSE_TEXT r_QUOTATION r_HEADLINE r_CAPTION r_LINKS r_DATELINE r_LABEL))] [(.int (p1 &&& (7 : Int32))), (.int (f2 (f1 (p1 &&& (7 : Int32)) r_TEXT r_LOOSE_TEXT r_QUOTATION r_HEADLINE r_CAPTION r_LINKS r_DATELINE r_LABEL) r_TEXT r_LOOSE_TEXT r_QUOTATION))])) _
  obtain ⟨_, _, ⟨T3, L3, k3, n3⟩, -, X3, ⟨Lc3, hQ3, l3, y3, z3⟩, st3⟩ := Jvm.LawKit.callS X2 hx (y := (⟨"com/example/sapsucker/sapsucker/service/RoleIsBodyPinLaw", "documentedBody", "(I)Z"⟩ : MethodName)) hown (mvT hZ (hw _ (List.mem_of_getElem? (i := 13) rfl))) (mvT hZ (hw _ (List.mem_of_getElem? (i := 14) rfl))) (mvT hZ (hw _ (List.mem_of_getElem? (i := 2) rfl))) (mvT hZ (hw _ (List.mem_of_getElem? (i := 15) rfl))) (by decide) (backOf (W := 1) (rm3 l Z a0 hw [] (p1 &&& (7 : Int32)) h0 n0 Z0 ) hZ (hw _ (List.mem_of_getElem? (i := 15) rfl)) (hw _ (List.mem_of_getElem? (i := 2) rfl)) (by decide) (by decide)) (g := (mkF m 15 #[.val (.int p1), .val (.int (p1 &&& (7 : Int32))), .val (.ref (f1 (p1 &&& (7 : Int32)) r_TEXT r_LOOSE_TEXT r_QUOTATION r_HEADLINE r_CAPTION r_LINKS r_DATELINE r_LABEL))] [(.int (p1 &&& (7 : Int32))), (.int (f2 (f1 (p1 &&& (7 : Int32)) r_TEXT r_LOOSE_TEXT r_QUOTATION r_HEADLINE r_CAPTION r_LINKS r_DATELINE r_LABEL) r_TEXT r_LOOSE_TEXT r_QUOTATION))])) rfl (by rw [hml]; rfl) (argsL := [(.int (p1 &&& (7 : Int32)))]) (rest := [(.int (f2 (f1 (p1 &&& (7 : Int32)) r_TEXT r_LOOSE_TEXT r_QUOTATION r_HEADLINE r_CAPTION r_LINKS r_DATELINE r_LABEL) r_TEXT r_LOOSE_TEXT r_QUOTATION))]) (lenOf pd_0_2 rfl) rfl (by show 2 * 0 + _ ≤ _; exact Nat.le_of_eq rfl) (hb hby at_15) (fun _ _ => ⟨rfl, e2, (by decide : 0 + 0 ≤ _), (by decide : 0 + 0 ≤ _)⟩)
  dsimp only [Pt.U, Pt.locs, Pt.cells, Pt.slots] at X3 l3 y3 z3 st3 hQ3
  subst l3 y3 z3
  obtain ⟨rfl, N3q, er3⟩ := hQ3
  have e3 : T3.heap = h0 := er3
  have N3 := Fr.app N2 N3q
  refine Goes.via st3 ?_
  show Goes p e below (T3.setTop (mkF m 18 #[.val (.int p1), .val (.int (p1 &&& (7 : Int32))), .val (.ref (f1 (p1 &&& (7 : Int32)) r_TEXT r_LOOSE_TEXT r_QUOTATION r_HEADLINE r_CAPTION r_LINKS r_DATELINE r_LABEL))] [(.int (f3 (p1 &&& (7 : Int32)))), (.int (f2 (f1 (p1 &&& (7 : Int32)) r_TEXT r_LOOSE_TEXT r_QUOTATION r_HEADLINE r_CAPTION r_LINKS r_DATELINE r_LABEL) r_TEXT r_LOOSE_TEXT r_QUOTATION))])) _
  refine Goes.via (next := T3.setTop (mkF m 26 #[.val (.int p1), .val (.int (p1 &&& (7 : Int32))), .val (.ref (f1 (p1 &&& (7 : Int32)) r_TEXT r_LOOSE_TEXT r_QUOTATION r_HEADLINE r_CAPTION r_LINKS r_DATELINE r_LABEL))] [(.int (v0_26_0 p1 r_TEXT r_LOOSE_TEXT r_QUOTATION r_HEADLINE r_CAPTION r_LINKS r_DATELINE r_LABEL))])) (fun t k => ?_) ?_
  · by_cases hc18_4 : (f2 (f1 (p1 &&& (7 : Int32)) r_TEXT r_LOOSE_TEXT r_QUOTATION r_HEADLINE r_CAPTION r_LINKS r_DATELINE r_LABEL) r_TEXT r_LOOSE_TEXT r_QUOTATION) = (f3 (p1 &&& (7 : Int32)))
    · refine XS.icmpNo X3.here hx rfl (hb hby at_18) rfl (teq hc18_4).2 ?_
      show Steps p.tables e below (T3.setTop (mkF m 21 #[.val (.int p1), .val (.int (p1 &&& (7 : Int32))), .val (.ref (f1 (p1 &&& (7 : Int32)) r_TEXT r_LOOSE_TEXT r_QUOTATION r_HEADLINE r_CAPTION r_LINKS r_DATELINE r_LABEL))] [])) _
      refine XS.iconst X3.here hx rfl (hb hby at_21) ?_
      show Steps p.tables e below (T3.setTop (mkF m 22 #[.val (.int p1), .val (.int (p1 &&& (7 : Int32))), .val (.ref (f1 (p1 &&& (7 : Int32)) r_TEXT r_LOOSE_TEXT r_QUOTATION r_HEADLINE r_CAPTION r_LINKS r_DATELINE r_LABEL))] [(.int (1 : Int32))])) _
      refine XS.goto X3.here hx rfl (pc0 := 22) (pc' := 26) rfl (hb hby at_22) (by decide) (by decide) ?_
      show Steps p.tables e below (T3.setTop (mkF m 26 #[.val (.int p1), .val (.int (p1 &&& (7 : Int32))), .val (.ref (f1 (p1 &&& (7 : Int32)) r_TEXT r_LOOSE_TEXT r_QUOTATION r_HEADLINE r_CAPTION r_LINKS r_DATELINE r_LABEL))] [(.int (1 : Int32))])) _
      simpa only [v0_26_0, if_pos hc18_4] using k
    · refine XS.icmpYes X3.here hx rfl (pc0 := 18) (pc' := 25) rfl (hb hby at_18) rfl (feq hc18_4).2 (by decide) (by decide) ?_
      show Steps p.tables e below (T3.setTop (mkF m 25 #[.val (.int p1), .val (.int (p1 &&& (7 : Int32))), .val (.ref (f1 (p1 &&& (7 : Int32)) r_TEXT r_LOOSE_TEXT r_QUOTATION r_HEADLINE r_CAPTION r_LINKS r_DATELINE r_LABEL))] [])) _
      refine XS.iconst X3.here hx rfl (hb hby at_25) ?_
      show Steps p.tables e below (T3.setTop (mkF m 26 #[.val (.int p1), .val (.int (p1 &&& (7 : Int32))), .val (.ref (f1 (p1 &&& (7 : Int32)) r_TEXT r_LOOSE_TEXT r_QUOTATION r_HEADLINE r_CAPTION r_LINKS r_DATELINE r_LABEL))] [(.int (0 : Int32))])) _
      simpa only [v0_26_0, if_neg hc18_4] using k
  show Goes p e below (T3.setTop (mkF m 26 #[.val (.int p1), .val (.int (p1 &&& (7 : Int32))), .val (.ref (f1 (p1 &&& (7 : Int32)) r_TEXT r_LOOSE_TEXT r_QUOTATION r_HEADLINE r_CAPTION r_LINKS r_DATELINE r_LABEL))] [(.int (v0_26_0 p1 r_TEXT r_LOOSE_TEXT r_QUOTATION r_HEADLINE r_CAPTION r_LINKS r_DATELINE r_LABEL))])) _
  obtain ⟨fs, hr, hrun, hended, hW, hsame⟩ := X3.leave (v := some (.int (nar .boolean (v0_26_0 p1 r_TEXT r_LOOSE_TEXT r_QUOTATION r_HEADLINE r_CAPTION r_LINKS r_DATELINE r_LABEL)))) (fun h => by rw [Bd.returns] at h; cases h)
  refine ⟨_, _, ?_, hrun, hended, _, _, rfl, ?_, ⟨_, rfl⟩, hW, hsame.mono (by decide) (by decide)⟩
  · exact retN X3 hx (t := .boolean) Bd.returns (by simp) (hb hby at_26) hr
  · show Q0 Z p1 r_TEXT r_LOOSE_TEXT r_QUOTATION r_HEADLINE r_CAPTION r_LINKS r_DATELINE r_LABEL h0 n0 _ T3.heap _
    rw [e3]
    exact ⟨congrArg some (congrArg _ rfl), N3, rfl⟩
theorem own_ne {s : State} {a b : Addr} {C n d : String} {v w : Value} (h1 : s.fieldOf? a C n d = some v) (h2 : s.fieldOf? b C n d = some w) (hn : v ≠ w) : a ≠ b := by
  intro q
  subst q
  exact hn (Option.some.inj (h1.symm.trans h2))
theorem own_seven (x : Int32) : (x &&& 7) = 0 ∨ (x &&& 7) = 1 ∨ (x &&& 7) = 2 ∨ (x &&& 7) = 3 ∨ (x &&& 7) = 4 ∨ (x &&& 7) = 5 ∨ (x &&& 7) = 6 ∨ (x &&& 7) = 7 := by
  have a1 := c_mask x 7 3 (by decide) (by decide)
  have hp : ((2 ^ 3 : Nat) : Int) = 8 := by decide
  rw [hp] at a1
  simp only [← Int32.toInt_inj, a1, show (0 : Int32).toInt = 0 from by decide, show (1 : Int32).toInt = 1 from by decide, show (2 : Int32).toInt = 2 from by decide, show (3 : Int32).toInt = 3 from by decide, show (4 : Int32).toInt = 4 from by decide, show (5 : Int32).toInt = 5 from by decide, show (6 : Int32).toInt = 6 from by decide, show (7 : Int32).toInt = 7 from by decide]
  omega
theorem one_1 (i0 : Int32) {r_TEXT r_LOOSE_TEXT r_QUOTATION r_HEADLINE r_CAPTION r_LINKS r_DATELINE r_LABEL : Addr} (ne_HEADLINE_TEXT : r_HEADLINE ≠ r_TEXT) (ne_HEADLINE_LOOSE_TEXT : r_HEADLINE ≠ r_LOOSE_TEXT) (ne_HEADLINE_QUOTATION : r_HEADLINE ≠ r_QUOTATION) (ne_CAPTION_TEXT : r_CAPTION ≠ r_TEXT) (ne_CAPTION_LOOSE_TEXT : r_CAPTION ≠ r_LOOSE_TEXT) (ne_CAPTION_QUOTATION : r_CAPTION ≠ r_QUOTATION) (ne_LINKS_TEXT : r_LINKS ≠ r_TEXT) (ne_LINKS_LOOSE_TEXT : r_LINKS ≠ r_LOOSE_TEXT) (ne_LINKS_QUOTATION : r_LINKS ≠ r_QUOTATION) (ne_DATELINE_TEXT : r_DATELINE ≠ r_TEXT) (ne_DATELINE_LOOSE_TEXT : r_DATELINE ≠ r_LOOSE_TEXT) (ne_DATELINE_QUOTATION : r_DATELINE ≠ r_QUOTATION) (ne_LABEL_TEXT : r_LABEL ≠ r_TEXT) (ne_LABEL_LOOSE_TEXT : r_LABEL ≠ r_LOOSE_TEXT) (ne_LABEL_QUOTATION : r_LABEL ≠ r_QUOTATION) : f0 i0 r_TEXT r_LOOSE_TEXT r_QUOTATION r_HEADLINE r_CAPTION r_LINKS r_DATELINE r_LABEL = 1 := by
  have h : f2 (f1 (i0 &&& 7) r_TEXT r_LOOSE_TEXT r_QUOTATION r_HEADLINE r_CAPTION r_LINKS r_DATELINE r_LABEL) r_TEXT r_LOOSE_TEXT r_QUOTATION = f3 (i0 &&& 7) := by
    generalize hi : i0 &&& 7 = i
    have h8 := own_seven i0
    rw [hi] at h8
    rcases h8 with rfl | rfl | rfl | rfl | rfl | rfl | rfl | rfl
    all_goals simp [f1, f2, f3, *]
  simp only [f0, v0_26_0, if_pos h]
  decide
set_option maxRecDepth 65536 in
set_option maxHeartbeats 40000000 in
theorem comes_1 {Post : Tables → Env → Array Value → State → Outcome → State → Prop} (hpost : ∀ tb e args s v u, (limb_1_1.after args s (.returned v) u = true ∧ limb_1_2.after args s (.returned v) u = true ∧ True) → FrameEnd s (.returned v) u (Jvm.fieldLocs frame_1_writes args s ++ Jvm.arrayLocs frame_1_arrays args s ++ Jvm.staticLocs frame_1_statics s) 0 0 → Post tb e args s (.returned v) u) :
    ArmFor flags0 classFile x code maxLocals ret World_1 tables_1 room_1 Calls_1 rest_1 Pre_1 Post := by
  intro l hfl _ _ p e ha hc hk s m args below hf hA hF happ hP
  obtain ⟨hcalls, hrest, hpre⟩ := hP
  obtain ⟨-, -, -, hnamed, -, -, -, hat⟩ := (Spec.applies_iff hf).mp happ
  obtain ⟨hg, hn⟩ := and_e (Cond.before_iff.mp (show (Jvm.Cond.and given_1 narrow_1).before args s = true from hpre))
  obtain ⟨g0, r0⟩ := and_e hg
  obtain ⟨w0, rfl⟩ : ∃ w0 : Value, args = #[w0] := by
    have hs : args.size = 1 := by simpa [Cond.value, given_1] using g0
    obtain ⟨L⟩ := args
    match L, hs with
    | [w0], _ => exact ⟨w0, rfl⟩
  have hw := fun d (hd : d ∈ tables_1) => atoms_spec (ws := Jvm.Cond.code x code maxLocals ret :: tables_1) hat d (List.mem_cons_of_mem _ hd)
  have g1 := r0
  obtain ⟨i0, ei0⟩ := is_v g1
  obtain rfl : w0 = (.int i0) := Option.some.inj ei0
  obtain ⟨m0, mr0⟩ := and_e hn
  obtain ⟨m1, mr1⟩ := and_e mr0
  obtain ⟨m2, mr2⟩ := and_e mr1
  obtain ⟨m3, mr3⟩ := and_e mr2
  obtain ⟨m4, mr4⟩ := and_e mr3
  obtain ⟨m5, mr5⟩ := and_e mr4
  obtain ⟨m6, mr6⟩ := and_e mr5
  obtain ⟨m7, mr7⟩ := and_e mr6
  obtain ⟨m8, mr8⟩ := and_e mr7
  obtain ⟨m9, mr9⟩ := and_e mr8
  obtain ⟨m10, mr10⟩ := and_e mr9
  obtain ⟨m11, mr11⟩ := and_e mr10
  obtain ⟨m12, mr12⟩ := and_e mr11
  obtain ⟨m13, mr13⟩ := and_e mr12
  obtain ⟨m14, mr14⟩ := and_e mr13
  have m15 := mr14
  obtain ⟨r_TEXT, ev_TEXT⟩ := exa_v m0
  have S_TEXT := Sta.start ev_TEXT (Or.inr ⟨(hw _ (List.mem_of_getElem? (i := 5) rfl)), (hw _ (List.mem_of_getElem? (i := 6) rfl))⟩)
  have E_TEXT := Exa.start ev_TEXT m0
  have o_TEXT := (fld_at ev_TEXT).symm.trans (eqv_i rfl m3)
  obtain ⟨r_LOOSE_TEXT, ev_LOOSE_TEXT⟩ := exa_v m4
  have S_LOOSE_TEXT := Sta.start ev_LOOSE_TEXT (Or.inr ⟨(hw _ (List.mem_of_getElem? (i := 5) rfl)), (hw _ (List.mem_of_getElem? (i := 19) rfl))⟩)
  have E_LOOSE_TEXT := Exa.start ev_LOOSE_TEXT m4
  have o_LOOSE_TEXT := (fld_at ev_LOOSE_TEXT).symm.trans (eqv_i rfl m5)
  obtain ⟨r_QUOTATION, ev_QUOTATION⟩ := exa_v m6
  have S_QUOTATION := Sta.start ev_QUOTATION (Or.inr ⟨(hw _ (List.mem_of_getElem? (i := 5) rfl)), (hw _ (List.mem_of_getElem? (i := 21) rfl))⟩)
  have E_QUOTATION := Exa.start ev_QUOTATION m6
  have o_QUOTATION := (fld_at ev_QUOTATION).symm.trans (eqv_i rfl m7)
  obtain ⟨r_HEADLINE, ev_HEADLINE⟩ := exa_v m1
  have S_HEADLINE := Sta.start ev_HEADLINE (Or.inr ⟨(hw _ (List.mem_of_getElem? (i := 5) rfl)), (hw _ (List.mem_of_getElem? (i := 17) rfl))⟩)
  have E_HEADLINE := Exa.start ev_HEADLINE m1
  have o_HEADLINE := (fld_at ev_HEADLINE).symm.trans (eqv_i rfl m2)
  obtain ⟨r_CAPTION, ev_CAPTION⟩ := exa_v m12
  have S_CAPTION := Sta.start ev_CAPTION (Or.inr ⟨(hw _ (List.mem_of_getElem? (i := 5) rfl)), (hw _ (List.mem_of_getElem? (i := 29) rfl))⟩)
  have E_CAPTION := Exa.start ev_CAPTION m12
  have o_CAPTION := (fld_at ev_CAPTION).symm.trans (eqv_i rfl m13)
  obtain ⟨r_LINKS, ev_LINKS⟩ := exa_v m14
  have S_LINKS := Sta.start ev_LINKS (Or.inr ⟨(hw _ (List.mem_of_getElem? (i := 5) rfl)), (hw _ (List.mem_of_getElem? (i := 31) rfl))⟩)
  have E_LINKS := Exa.start ev_LINKS m14
  have o_LINKS := (fld_at ev_LINKS).symm.trans (eqv_i rfl m15)
  obtain ⟨r_DATELINE, ev_DATELINE⟩ := exa_v m8
  have S_DATELINE := Sta.start ev_DATELINE (Or.inr ⟨(hw _ (List.mem_of_getElem? (i := 5) rfl)), (hw _ (List.mem_of_getElem? (i := 23) rfl))⟩)
  have E_DATELINE := Exa.start ev_DATELINE m8
  have o_DATELINE := (fld_at ev_DATELINE).symm.trans (eqv_i rfl m9)
  obtain ⟨r_LABEL, ev_LABEL⟩ := exa_v m10
  have S_LABEL := Sta.start ev_LABEL (Or.inr ⟨(hw _ (List.mem_of_getElem? (i := 5) rfl)), (hw _ (List.mem_of_getElem? (i := 25) rfl))⟩)
  have E_LABEL := Exa.start ev_LABEL m10
  have o_LABEL := (fld_at ev_LABEL).symm.trans (eqv_i rfl m11)
  have ne_HEADLINE_TEXT : r_HEADLINE ≠ r_TEXT := own_ne o_HEADLINE o_TEXT (by decide)
  have ne_HEADLINE_LOOSE_TEXT : r_HEADLINE ≠ r_LOOSE_TEXT := own_ne o_HEADLINE o_LOOSE_TEXT (by decide)
  have ne_HEADLINE_QUOTATION : r_HEADLINE ≠ r_QUOTATION := own_ne o_HEADLINE o_QUOTATION (by decide)
  have ne_CAPTION_TEXT : r_CAPTION ≠ r_TEXT := own_ne o_CAPTION o_TEXT (by decide)
  have ne_CAPTION_LOOSE_TEXT : r_CAPTION ≠ r_LOOSE_TEXT := own_ne o_CAPTION o_LOOSE_TEXT (by decide)
  have ne_CAPTION_QUOTATION : r_CAPTION ≠ r_QUOTATION := own_ne o_CAPTION o_QUOTATION (by decide)
  have ne_LINKS_TEXT : r_LINKS ≠ r_TEXT := own_ne o_LINKS o_TEXT (by decide)
  have ne_LINKS_LOOSE_TEXT : r_LINKS ≠ r_LOOSE_TEXT := own_ne o_LINKS o_LOOSE_TEXT (by decide)
  have ne_LINKS_QUOTATION : r_LINKS ≠ r_QUOTATION := own_ne o_LINKS o_QUOTATION (by decide)
  have ne_DATELINE_TEXT : r_DATELINE ≠ r_TEXT := own_ne o_DATELINE o_TEXT (by decide)
  have ne_DATELINE_LOOSE_TEXT : r_DATELINE ≠ r_LOOSE_TEXT := own_ne o_DATELINE o_LOOSE_TEXT (by decide)
  have ne_DATELINE_QUOTATION : r_DATELINE ≠ r_QUOTATION := own_ne o_DATELINE o_QUOTATION (by decide)
  have ne_LABEL_TEXT : r_LABEL ≠ r_TEXT := own_ne o_LABEL o_TEXT (by decide)
  have ne_LABEL_LOOSE_TEXT : r_LABEL ≠ r_LOOSE_TEXT := own_ne o_LABEL o_LOOSE_TEXT (by decide)
  have ne_LABEL_QUOTATION : r_LABEL ≠ r_QUOTATION := own_ne o_LABEL o_QUOTATION (by decide)
  obtain ⟨n, o, h1, h2, h3, v, L, rfl, hQ, hq⟩ := rm0 l s _ hw tables_1 i0 r_TEXT r_LOOSE_TEXT r_QUOTATION r_HEADLINE r_CAPTION r_LINKS r_DATELINE r_LABEL s.heap s.heap.size (Nat.le_refl _) S_TEXT S_LOOSE_TEXT S_QUOTATION S_HEADLINE S_CAPTION S_LINKS S_DATELINE S_LABEL E_TEXT E_LOOSE_TEXT E_QUOTATION E_HEADLINE E_CAPTION E_LINKS E_DATELINE E_LABEL p e ha hc hk s m _ below hf ((Spec.applies_iff_loose hf).mp happ).1 ⟨rfl, State.Warmed39.refl s, rfl⟩ trivial
  obtain ⟨hv, N⟩ : v = some (.int 1) ∧ Fr s.heap.size L := ⟨by rw [hQ.1, one_1 i0 ne_HEADLINE_TEXT ne_HEADLINE_LOOSE_TEXT ne_HEADLINE_QUOTATION ne_CAPTION_TEXT ne_CAPTION_LOOSE_TEXT ne_CAPTION_QUOTATION ne_LINKS_TEXT ne_LINKS_LOOSE_TEXT ne_LINKS_QUOTATION ne_DATELINE_TEXT ne_DATELINE_LOOSE_TEXT ne_DATELINE_QUOTATION ne_LABEL_TEXT ne_LABEL_LOOSE_TEXT ne_LABEL_QUOTATION], hQ.2.1⟩
  subst hv
  refine ⟨n, _, h1, h2, h3, hpost _ _ _ _ _ _ ⟨Cond.after_iff.mpr rfl, Cond.after_iff.mpr (eq_i res_at (Term.int_eval (1)) rfl), trivial⟩ ⟨hq.1, hq.2.1, (hq.2.2.sift fun y hy => Or.inr (N y hy)).mono (by decide) (by decide)⟩⟩
theorem main_1_1 : Claimed_1_1 := comes_1 fun _ _ _ _ _ _ h hF => ⟨h.1, hF⟩
theorem main_1_2 : Claimed_1_2 := comes_1 fun _ _ _ _ _ _ h hF => ⟨h.2.1, hF⟩
end Jvm.Pilot.@@N@@
namespace Jvm.Pilot.@@N@@
open Jvm Jvm.ClassFile Sem Op Lib Jvm.Free Jvm.Stand Jvm.Pilot.@@N@@.Jvm.D
/-! MADE BY PROGRAM (witnessworld.py) out of the Statement's table words and the real class files: 12 classes; the members and pool entries that the words name. The judged class is class 1, her method 3. -/
namespace start1
open Jvm.ClassFile
def u (s : String) : CpInfo := .utf8 (stringToUtf16 s)
/-- a pool by its gaps: so many unusable entries, then the entry; so many at the end -/
def gap : Nat → List CpInfo → List CpInfo
  | 0, r => r
  | n + 1, r => .unusable :: gap n r
def poolList (es : List (Nat × CpInfo)) (last : Nat) : List CpInfo := es.foldr (fun e r => gap e.1 (e.2 :: r)) (gap last [])
def pool (es : List (Nat × CpInfo)) (last : Nat) : Array CpInfo := ⟨poolList es last⟩
def fileOf (pool : Array CpInfo) (this : Nat) (attrs : Array Attribute := #[]) (ms : Array MethodInfo := #[]) (fl : Nat := 33) (sup : Nat := 0) (ifs : Array Nat := #[]) (fds : Array FieldInfo := #[]) : ClassFile where
  minorVersion := 0
  majorVersion := 65
  constantPool := pool
  accessFlags := fl
  thisClass := this
  superClass := sup
  interfaces := ifs
  fields := fds
  methods := ms
  attributes := attrs
def plain (name : String) (sup : Option ClassId) : Class where
  name := name
  kind := .ordinary
  loader := none
  accessFlags := 33
  super := sup
  interfaces := #[]
  cf := none
  fields := #[]
  methods := #[]
  instanceTypes := #[]
  staticTypes := #[]
  resolved := #[]
  callSites := []
  init := .initialized
  statics := none
  mirror := none

def pool0 : Array CpInfo := pool [(5, u "<init>"), (0, u "()V"), (1, .class_ 10), (1, u "java/lang/Object")] 113

def k0m0 : Method := { name := "<init>", desc := "()V", sig := { parameters := [], returnType := none }, accessFlags := 1, code := none }
/-- java/lang/Object -/
def k0 : Class := { plain "java/lang/Object" none with
  accessFlags := 33
  interfaces := #[]
  cf := some (fileOf pool0 8 #[] #[{ accessFlags := 1, nameIndex := 5, descriptorIndex := 6, attributes := #[] }] 33 0 #[] #[])
  fields := #[]
  methods := #[k0m0]
  instanceTypes := #[]
  staticTypes := #[]
  resolved := Array.replicate 124 none
  statics := none }

def pool1 : Array CpInfo := pool [(2, .class_ 4), (1, u "java/lang/Object"), (0, u "<init>"), (0, u "()V"), (0, .fieldref 8 9), (0, .class_ 10), (0, .nameAndType 11 12), (0, u "com/example/sapsucker/sapsucker/service/Role"), (0, u "TEXT"), (0, u "Lcom/example/sapsucker/sapsucker/service/Role;"), (0, .fieldref 8 14), (0, .nameAndType 15 12), (0, u "LOOSE_TEXT"), (0, .fieldref 8 17), (0, .nameAndType 18 12), (0, u "QUOTATION"), (0, .fieldref 8 20), (0, .nameAndType 21 12), (0, u "HEADLINE"), (0, .fieldref 8 23), (0, .nameAndType 24 12), (0, u "CAPTION"), (0, .fieldref 8 26), (0, .nameAndType 27 12), (0, u "LINKS"), (0, .fieldref 8 29), (0, .nameAndType 30 12), (0, u "DATELINE"), (0, .fieldref 8 32), (0, .nameAndType 33 12), (0, u "LABEL"), (0, .methodref 35 36), (0, .class_ 37), (0, .nameAndType 38 39), (0, u "com/example/sapsucker/sapsucker/service/RoleIsBodyPinLaw"), (0, u "pick"), (0, u "(I)Lcom/example/sapsucker/sapsucker/service/Role;"), (0, .methodref 8 41), (0, .nameAndType 42 43), (0, u "isBody"), (0, u "()Z"), (0, .methodref 35 45), (0, .nameAndType 46 47), (0, u "documentedBody"), (0, u "(I)Z"), (3, u "law")] 2

def k1m0 : Method := { name := "<init>", desc := "()V", sig := { parameters := [], returnType := none }, accessFlags := 2, code := none }
def k1c1 : Code := { maxStack := 2, maxLocals := 1, code := method_2_code, exceptionTable := #[], attributes := #[] }
def k1m1 : Method := { name := "pick", desc := "(I)Lcom/example/sapsucker/sapsucker/service/Role;", sig := { parameters := [.int], returnType := some (.object "com/example/sapsucker/sapsucker/service/Role") }, accessFlags := 10, code := some k1c1 }
def k1c2 : Code := { maxStack := 2, maxLocals := 1, code := method_3_code, exceptionTable := #[], attributes := #[] }
def k1m2 : Method := { name := "documentedBody", desc := "(I)Z", sig := { parameters := [.int], returnType := some .boolean }, accessFlags := 10, code := some k1c2 }
def k1c3 : Code := { maxStack := 2, maxLocals := 3, code := code, exceptionTable := #[], attributes := #[] }
def k1m3 : Method := { name := "law", desc := "(I)Z", sig := { parameters := [.int], returnType := some .boolean }, accessFlags := 9, code := some k1c3 }
/-- com/example/sapsucker/sapsucker/service/RoleIsBodyPinLaw -/
def k1 : Class := { plain "com/example/sapsucker/sapsucker/service/RoleIsBodyPinLaw" (some 0) with
  accessFlags := 49
  interfaces := #[]
  cf := some (fileOf pool1 35 #[] #[{ accessFlags := 2, nameIndex := 5, descriptorIndex := 6, attributes := #[] }, { accessFlags := 10, nameIndex := 38, descriptorIndex := 39, attributes := #[] }, { accessFlags := 10, nameIndex := 46, descriptorIndex := 47, attributes := #[] }, { accessFlags := 9, nameIndex := 51, descriptorIndex := 47, attributes := #[] }] 49 2 #[] #[])
  fields := #[]
  methods := #[k1m0, k1m1, k1m2, k1m3]
  instanceTypes := #[]
  staticTypes := #[]
  resolved := Array.replicate 54 none
  statics := none }

def pool2 : Array CpInfo := pool [(1, .class_ 2), (0, u "java/lang/constant/Constable"), (0, .class_ 4), (0, u "java/lang/Object")] 6

/-- java/lang/constant/Constable -/
def k2 : Class := { plain "java/lang/constant/Constable" (some 0) with
  accessFlags := 1537
  interfaces := #[]
  cf := some (fileOf pool2 1 #[] #[] 1537 3 #[] #[])
  fields := #[]
  methods := #[]
  instanceTypes := #[]
  staticTypes := #[]
  resolved := Array.replicate 11 none
  statics := none }

def pool3 : Array CpInfo := pool [(1, .class_ 2), (0, u "java/lang/Comparable"), (0, .class_ 4), (0, u "java/lang/Object")] 7

/-- java/lang/Comparable -/
def k3 : Class := { plain "java/lang/Comparable" (some 0) with
  accessFlags := 1537
  interfaces := #[]
  cf := some (fileOf pool3 1 #[] #[] 1537 3 #[] #[])
  fields := #[]
  methods := #[]
  instanceTypes := #[]
  staticTypes := #[]
  resolved := Array.replicate 12 none
  statics := none }

def pool4 : Array CpInfo := pool [(1, .class_ 2), (0, u "java/io/Serializable"), (0, .class_ 4), (0, u "java/lang/Object")] 2

/-- java/io/Serializable -/
def k4 : Class := { plain "java/io/Serializable" (some 0) with
  accessFlags := 1537
  interfaces := #[]
  cf := some (fileOf pool4 1 #[] #[] 1537 3 #[] #[])
  fields := #[]
  methods := #[]
  instanceTypes := #[]
  staticTypes := #[]
  resolved := Array.replicate 7 none
  statics := none }

def pool5 : Array CpInfo := pool [(2, .class_ 4), (1, u "java/lang/Enum"), (0, u "name"), (0, u "Ljava/lang/String;"), (2, u "ordinal"), (0, u "I"), (1, .class_ 14), (1, u "java/lang/Object"), (4, u "hash"), (86, .class_ 108), (1, u "java/lang/Enum$EnumDesc"), (2, .class_ 112), (0, u "java/lang/constant/Constable"), (0, .class_ 114), (0, u "java/lang/Comparable"), (0, .class_ 116), (0, u "java/io/Serializable")] 87

/-- java/lang/Enum -/
def k5 : Class := { plain "java/lang/Enum" (some 0) with
  accessFlags := 1057
  interfaces := #[2, 3, 4]
  cf := some (fileOf pool5 2 #[.nestMembers #[106]] #[] 1057 12 #[111, 113, 115] #[{ accessFlags := 18, nameIndex := 5, descriptorIndex := 6, attributes := #[] }, { accessFlags := 18, nameIndex := 9, descriptorIndex := 10, attributes := #[] }, { accessFlags := 2, nameIndex := 19, descriptorIndex := 10, attributes := #[] }])
  fields := #[{ name := "name", type := (.object "java/lang/String"), accessFlags := 18, slot := 0, constantValue := 0 }, { name := "ordinal", type := .int, accessFlags := 18, slot := 1, constantValue := 0 }, { name := "hash", type := .int, accessFlags := 2, slot := 2, constantValue := 0 }]
  methods := #[]
  instanceTypes := #[(.object "java/lang/String"), .int, .int]
  staticTypes := #[]
  resolved := Array.replicate 204 none
  statics := none }

def pool6 : Array CpInfo := pool [(1, .class_ 2), (0, u "com/example/sapsucker/sapsucker/service/Role"), (0, .fieldref 1 4), (0, .nameAndType 5 6), (0, u "TEXT"), (0, u "Lcom/example/sapsucker/sapsucker/service/Role;"), (0, .fieldref 1 8), (0, .nameAndType 9 6), (0, u "LOOSE_TEXT"), (0, .fieldref 1 11), (0, .nameAndType 12 6), (0, u "QUOTATION"), (2, u "HEADLINE"), (2, u "CAPTION"), (2, u "LINKS"), (2, u "DATELINE"), (2, u "LABEL"), (2, u "$VALUES"), (0, u "[Lcom/example/sapsucker/sapsucker/service/Role;"), (6, .class_ 40), (1, u "java/lang/Enum"), (26, u "isBody"), (0, u "()Z")] 5

def k6c0 : Code := { maxStack := 2, maxLocals := 1, code := prog_19_method_4_code, exceptionTable := #[], attributes := #[] }
def k6m0 : Method := { name := "isBody", desc := "()Z", sig := { parameters := [], returnType := some .boolean }, accessFlags := 0, code := some k6c0 }
/-- com/example/sapsucker/sapsucker/service/Role -/
def k6 : Class := { plain "com/example/sapsucker/sapsucker/service/Role" (some 5) with
  accessFlags := 16432
  interfaces := #[]
  cf := some (fileOf pool6 1 #[] #[{ accessFlags := 0, nameIndex := 67, descriptorIndex := 68, attributes := #[] }] 16432 38 #[] #[{ accessFlags := 16409, nameIndex := 5, descriptorIndex := 6, attributes := #[] }, { accessFlags := 16409, nameIndex := 9, descriptorIndex := 6, attributes := #[] }, { accessFlags := 16409, nameIndex := 12, descriptorIndex := 6, attributes := #[] }, { accessFlags := 16409, nameIndex := 15, descriptorIndex := 6, attributes := #[] }, { accessFlags := 16409, nameIndex := 18, descriptorIndex := 6, attributes := #[] }, { accessFlags := 16409, nameIndex := 21, descriptorIndex := 6, attributes := #[] }, { accessFlags := 16409, nameIndex := 24, descriptorIndex := 6, attributes := #[] }, { accessFlags := 16409, nameIndex := 27, descriptorIndex := 6, attributes := #[] }, { accessFlags := 4122, nameIndex := 30, descriptorIndex := 31, attributes := #[] }])
  fields := #[{ name := "TEXT", type := (.object "com/example/sapsucker/sapsucker/service/Role"), accessFlags := 16409, slot := 0, constantValue := 0 }, { name := "LOOSE_TEXT", type := (.object "com/example/sapsucker/sapsucker/service/Role"), accessFlags := 16409, slot := 1, constantValue := 0 }, { name := "QUOTATION", type := (.object "com/example/sapsucker/sapsucker/service/Role"), accessFlags := 16409, slot := 2, constantValue := 0 }, { name := "HEADLINE", type := (.object "com/example/sapsucker/sapsucker/service/Role"), accessFlags := 16409, slot := 3, constantValue := 0 }, { name := "CAPTION", type := (.object "com/example/sapsucker/sapsucker/service/Role"), accessFlags := 16409, slot := 4, constantValue := 0 }, { name := "LINKS", type := (.object "com/example/sapsucker/sapsucker/service/Role"), accessFlags := 16409, slot := 5, constantValue := 0 }, { name := "DATELINE", type := (.object "com/example/sapsucker/sapsucker/service/Role"), accessFlags := 16409, slot := 6, constantValue := 0 }, { name := "LABEL", type := (.object "com/example/sapsucker/sapsucker/service/Role"), accessFlags := 16409, slot := 7, constantValue := 0 }, { name := "$VALUES", type := (.array (.object "com/example/sapsucker/sapsucker/service/Role")), accessFlags := 4122, slot := 8, constantValue := 0 }]
  methods := #[k6m0]
  instanceTypes := #[(.object "java/lang/String"), .int, .int]
  staticTypes := #[(.object "com/example/sapsucker/sapsucker/service/Role"), (.object "com/example/sapsucker/sapsucker/service/Role"), (.object "com/example/sapsucker/sapsucker/service/Role"), (.object "com/example/sapsucker/sapsucker/service/Role"), (.object "com/example/sapsucker/sapsucker/service/Role"), (.object "com/example/sapsucker/sapsucker/service/Role"), (.object "com/example/sapsucker/sapsucker/service/Role"), (.object "com/example/sapsucker/sapsucker/service/Role"), (.array (.object "com/example/sapsucker/sapsucker/service/Role"))]
  resolved := Array.replicate 74 none
  statics := some 0 }

def pool7 : Array CpInfo := pool [(1, u "java/lang/Cloneable"), (0, .class_ 1), (0, u "java/lang/Object"), (0, .class_ 3)] 3

/-- java/lang/Cloneable -/
def k7 : Class := { plain "java/lang/Cloneable" (some 0) with
  accessFlags := 1537
  interfaces := #[]
  cf := some (fileOf pool7 2 #[] #[] 1537 4 #[] #[])
  fields := #[]
  methods := #[]
  instanceTypes := #[]
  staticTypes := #[]
  resolved := Array.replicate 8 none
  statics := none }

/-- the primitive byte -/
def k8 : Class := { plain "byte" none with kind := .primitive 'B', accessFlags := 0x411 }
/-- [B -/
def k9 : Class := { plain "[B" (some 0) with kind := .array 8 .byte, interfaces := #[7, 4], accessFlags := 1041 }

/-- the primitive int -/
def k10 : Class := { plain "int" none with kind := .primitive 'I', accessFlags := 0x411 }
/-- [I -/
def k11 : Class := { plain "[I" (some 0) with kind := .array 10 .int, interfaces := #[7, 4], accessFlags := 1041 }

def heap : Heap := #[{ cls := 6, slots := #[.ref 1, .ref 2, .ref 3, .ref 4, .ref 5, .ref 6, .ref 7, .ref 8, .null], vm := .statics 6 },
  { cls := 6, slots := #[.null, .int 0, .int 0], vm := .none },
  { cls := 6, slots := #[.null, .int 1, .int 0], vm := .none },
  { cls := 6, slots := #[.null, .int 2, .int 0], vm := .none },
  { cls := 6, slots := #[.null, .int 3, .int 0], vm := .none },
  { cls := 6, slots := #[.null, .int 4, .int 0], vm := .none },
  { cls := 6, slots := #[.null, .int 5, .int 0], vm := .none },
  { cls := 6, slots := #[.null, .int 6, .int 0], vm := .none },
  { cls := 6, slots := #[.null, .int 7, .int 0], vm := .none }]
def classes : Array Class := #[k0, k1, k2, k3, k4, k5, k6, k7, k8, k9, k10, k11]
def interned : List (Array UInt16 × Addr) := []
def slotsUsed : Nat := 33
def theMethod : MethodId := ⟨1, 3⟩
def args0 : Array Value := #[.int 5]
def aboutOver (below : List Frame) : State where
  vm := { classes := classes, interned := interned.toArray }
  heap := heap
  slotsUsed := slotsUsed
  threads := #[{ frames := .invoking theMethod args0 :: below }]
def below0 : List Frame := [.native { method := ⟨0, 0⟩, args := #[] }]
def about1 : State := aboutOver below0
def p0 : Program := .bare "" "" ""
def e0 : Env := launch0.env 0 0 0
theorem w_frames : about1.frames = Frame.invoking theMethod args0 :: below0 := rfl
set_option maxRecDepth 65536 in
theorem w_args : argsFit about1.vm theMethod args0 = true := by decide +kernel
set_option maxRecDepth 65536 in
theorem w_heap : heapFits about1 = true := by decide +kernel
set_option maxRecDepth 65536 in
theorem w_runnable : about1.curStatus? = some .runnable := by decide +kernel
set_option maxRecDepth 65536 in
theorem w_alone : about1.alone = true := by decide +kernel
set_option maxRecDepth 65536 in
theorem w_named : about1.methodNamed? x = some theMethod := by decide +kernel
set_option maxRecDepth 65536 in
theorem w_hears : about1.hears theMethod below0 = true := by decide +kernel
set_option maxRecDepth 65536 in
theorem w_ripe : about1.ripe theMethod args0 below0 = true := by decide +kernel
theorem w_running : about1.status = .running := rfl
set_option maxRecDepth 65536 in
theorem w_room : about1.hasRoom e0.platform room_1 = true :=
  launch0.hasRoom_least _ room_1 (by decide +kernel) (by decide +kernel) (by decide +kernel) (by decide +kernel) (by decide +kernel) (by decide +kernel)
theorem allAtoms_all (ts : List Jvm.Cond) (a : Array Jvm.Value) (st : Jvm.State) : (allAtoms ts).before a st = ts.all (fun c => c.before a st) := by
  induction ts with
  | nil => rfl
  | cons c t ih =>
    show (Jvm.Cond.and c (allAtoms t)).before a st = _
    rw [Jvm.Cond.before_and, ih, List.all_cons]
def words1 : List Jvm.Cond := Jvm.Cond.code x code maxLocals ret :: tables_1
/-- a 'code' word, met by the world's own term for the bytes: nothing is compared byte by byte -/
theorem code_word {y : MethodName} {bytes : ByteArray} {mx : Nat} {rt : Option FieldType} {a : Array Value} {s : State} {m : MethodId} {meth : Method} {c : Code} (h1 : s.methodNamed? y = some m) (h2 : s.vm.method? m = some meth) (h3 : meth.code = some c) (h4 : c.code = bytes)
    (h5 : (c.maxLocals == mx && c.exceptionTable.isEmpty && decide (c.maxStack ≤ mostOperands) && decide (meth.sig.returnType = rt) && !meth.locks && decide (parseMethodDescriptor y.desc = some meth.sig)) = true) : (Jvm.Cond.code y bytes mx rt).before a s = true := by
  simp only [Bool.and_eq_true, beq_iff_eq, Bool.not_eq_true', decide_eq_true_eq] at h5
  obtain ⟨⟨⟨⟨⟨g1, g2⟩, g3⟩, g4⟩, g5⟩, g6⟩ := h5
  simp [Cond.before, Cond.holds, Cond.value, h1, h2, h3, h4, g1, g2, g3, g4, g5, g6]
def isCode : Jvm.Cond → Bool
  | .code _ _ _ _ => true
  | _ => false
theorem all_split {L : List Jvm.Cond} {P : Jvm.Cond → Bool} (h1 : L.all (fun c => isCode c || P c) = true) (h2 : ∀ c ∈ L.filter isCode, P c = true) : L.all P = true := by
  refine List.all_eq_true.mpr fun c hc => ?_
  have h := List.all_eq_true.mp h1 c hc
  rcases Bool.eq_false_or_eq_true (isCode c) with hi | hi
  · exact h2 c (List.mem_filter.mpr ⟨hc, hi⟩)
  · simpa [hi] using h
set_option maxRecDepth 65536 in
theorem w_c0 : (Jvm.Cond.code x code maxLocals ret).before args0 about1 = true := code_word (m := ⟨1, 3⟩) (meth := k1m3) (c := k1c3) (by decide +kernel) rfl rfl rfl (by decide +kernel)
set_option maxRecDepth 65536 in
theorem w_c1 : (Jvm.Cond.code ({ cls := "com/example/sapsucker/sapsucker/service/RoleIsBodyPinLaw", name := "pick", desc := "(I)Lcom/example/sapsucker/sapsucker/service/Role;" } : Jvm.MethodName) method_2_code (1 : Nat) (Option.some (Jvm.ClassFile.FieldType.object "com/example/sapsucker/sapsucker/service/Role"))).before args0 about1 = true := code_word (m := ⟨1, 1⟩) (meth := k1m1) (c := k1c1) (by decide +kernel) rfl rfl rfl (by decide +kernel)
set_option maxRecDepth 65536 in
theorem w_c2 : (Jvm.Cond.code ({ cls := "com/example/sapsucker/sapsucker/service/Role", name := "isBody", desc := "()Z" } : Jvm.MethodName) prog_19_method_4_code (1 : Nat) (Option.some Jvm.ClassFile.FieldType.boolean)).before args0 about1 = true := code_word (m := ⟨6, 0⟩) (meth := k6m0) (c := k6c0) (by decide +kernel) rfl rfl rfl (by decide +kernel)
set_option maxRecDepth 65536 in
theorem w_c3 : (Jvm.Cond.code ({ cls := "com/example/sapsucker/sapsucker/service/RoleIsBodyPinLaw", name := "documentedBody", desc := "(I)Z" } : Jvm.MethodName) method_3_code (1 : Nat) (Option.some Jvm.ClassFile.FieldType.boolean)).before args0 about1 = true := code_word (m := ⟨1, 2⟩) (meth := k1m2) (c := k1c2) (by decide +kernel) rfl rfl rfl (by decide +kernel)
def codes1 : List Jvm.Cond := [Jvm.Cond.code x code maxLocals ret, Jvm.Cond.code ({ cls := "com/example/sapsucker/sapsucker/service/RoleIsBodyPinLaw", name := "pick", desc := "(I)Lcom/example/sapsucker/sapsucker/service/Role;" } : Jvm.MethodName) method_2_code (1 : Nat) (Option.some (Jvm.ClassFile.FieldType.object "com/example/sapsucker/sapsucker/service/Role")), Jvm.Cond.code ({ cls := "com/example/sapsucker/sapsucker/service/Role", name := "isBody", desc := "()Z" } : Jvm.MethodName) prog_19_method_4_code (1 : Nat) (Option.some Jvm.ClassFile.FieldType.boolean), Jvm.Cond.code ({ cls := "com/example/sapsucker/sapsucker/service/RoleIsBodyPinLaw", name := "documentedBody", desc := "(I)Z" } : Jvm.MethodName) method_3_code (1 : Nat) (Option.some Jvm.ClassFile.FieldType.boolean)]
set_option maxRecDepth 65536 in
theorem codes_eq : words1.filter isCode = codes1 := rfl
theorem w_codes : ∀ c ∈ words1.filter isCode, c.before args0 about1 = true := by
  rw [codes_eq]
  intro c hc
  simp only [codes1, List.mem_cons, List.not_mem_nil, or_false] at hc
  rcases hc with rfl | rfl | rfl | rfl
  · exact w_c0
  · exact w_c1
  · exact w_c2
  · exact w_c3
set_option maxRecDepth 65536 in
theorem w_t1 : (words1.take 24).all (fun c => isCode c || c.before args0 about1) = true := by decide +kernel
set_option maxRecDepth 65536 in
theorem w_t2 : (words1.drop 24).all (fun c => isCode c || c.before args0 about1) = true := by decide +kernel
theorem w_tables : (allAtoms (Jvm.Cond.code x code maxLocals ret :: tables_1)).before args0 about1 = true := by
  rw [allAtoms_all]
  show words1.all (fun c => c.before args0 about1) = true
  refine all_split ?_ w_codes
  rw [← List.take_append_drop 24 words1, List.all_append, w_t1, w_t2]
  rfl
set_option maxRecDepth 65536 in
theorem w_case : (Jvm.Cond.and given_1 narrow_1).before args0 about1 = true := by decide +kernel
theorem w_applies : (headSpec (Jvm.Cond.code x code maxLocals ret :: tables_1) room_1).applies x e0.platform about1 = true :=
  (Spec.applies_iff w_frames).mpr ⟨w_running, w_runnable, w_alone, w_named, w_hears, w_ripe, w_room, w_tables⟩
theorem atStart : AtStart classFile x code maxLocals ret World_1 tables_1 room_1 Calls_1 rest_1 Pre_1 launch0 p0 e0 about1 theMethod args0 below0 :=
  ⟨lists_1, trivial, launch0.admits_env _ _ _, launch0.least_env, fairChoices_fair.cas, fairChoices_fair.clock, w_frames, w_args, w_heap, w_applies, trivial, trivial, w_case⟩
end start1
theorem witness_1 : WitnessClaimed_1 := ⟨start1.p0, start1.e0, start1.about1, start1.theMethod, start1.args0, start1.below0, start1.atStart⟩
end Jvm.Pilot.@@N@@
